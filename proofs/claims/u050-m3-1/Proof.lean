import JvmDerived
import JvmDerived.Pilot.@@N@@Statement
import JvmDerived.Pilot.@@N@@Code
set_option linter.unusedVariables false
set_option linter.unusedSimpArgs false
namespace Jvm.Pilot.@@N@@
open Jvm Jvm.ClassFile Sem Op Lib Jvm.Free Jvm.Stand Jvm.LawKit Jvm.RoadKit Bundle Jvm.Pilot.@@N@@.Jvm.D
abbrev jv (x : Int64) : Slot := .val (.long x)
theorem ow {Z : State} {a0 : Array Value} (hw : ∀ d ∈ tables_1, d.before a0 Z = true) (i : Nat) {d : Jvm.Cond} (h : tables_1[i]? = some d) : d.before a0 Z = true := hw _ (List.mem_of_getElem? h)
section OwnKit
variable {p : Program} {l : Launch} {e : Env} {R : Room} {s : State} {m : MethodId} {args : Array Value} {below : List Frame} {meth : Method} {c : Code} {T T' : State} {locs : List Loc} {cells slots kc ks : Nat} {Q : Option Value → Heap → List Loc → Prop} {g g' : JFrame}
/-- from this state and frame on the body ends, and Q holds of what it returns, of the heap and of the places written -/
def OwnG (p : Program) (e : Env) (below : List Frame) (s : State) (kc ks : Nat) (Q : Option Value → Heap → List Loc → Prop) (T : State) (g : JFrame) : Prop :=
  ∃ s₂ o, Steps p.tables e below (T.setTop g) s₂ ∧ s₂.status = .running ∧ Ended s₂ below o ∧ ∃ v L, o = .returned v ∧ Q v s₂.heap L ∧ FrameEnd s o s₂ L kc ks
theorem own_by (k : ∀ t, Steps p.tables e below (T'.setTop g') t → Steps p.tables e below (T.setTop g) t) (h : OwnG p e below s kc ks Q T' g') : OwnG p e below s kc ks Q T g := by
  obtain ⟨s₂, o, st, r⟩ := h
  exact ⟨s₂, o, k _ st, r⟩
theorem own_out (X : Stand p l e R s m args below meth c T locs cells slots) (hlk : meth.locks = false) {v : Option Value} (hv : meth.sig.returnType = none → v = none)
    (hst : ∀ fs, (∀ (f : JFrame) (acts : List Action), f.method = m → f.locked = none → f.entered = [] → (doReturn e (T.setTop f) acts v).1 = T.setFrames fs) → Steps p.tables e below (T.setTop g) (T.setFrames fs))
    (hq : Q v T.heap locs) (hc : cells ≤ kc) (hs : slots ≤ ks) : OwnG p e below s kc ks Q T g := by
  obtain ⟨fs, hr, hrun, hended, hW, hsame⟩ := X.leave (v := v) hv hlk
  exact ⟨_, _, hst fs hr, hrun, hended, v, locs, rfl, hq, ⟨_, rfl⟩, hW, hsame.mono hc hs⟩
def OwnGW (p : Program) (e : Env) (below : List Frame) (s : State) (kc ks : Nat) (Q : Option Value → Heap → List Loc → Prop) (T : State) (g : JFrame) : Prop :=
  ∃ s₂ o, Steps p.tables e below (T.setTop g) s₂ ∧ s₂.status = .running ∧ Ended s₂ below o ∧ ∃ v L, o = .returned v ∧ Q v s₂.heap L ∧ ReturnedEndW s o s₂ L kc ks
theorem own_byW (k : ∀ t, Steps p.tables e below (T'.setTop g') t → Steps p.tables e below (T.setTop g) t) (h : OwnGW p e below s kc ks Q T' g') : OwnGW p e below s kc ks Q T g := by
  obtain ⟨s₂, o, st, r⟩ := h
  exact ⟨s₂, o, k _ st, r⟩
theorem own_outW {vm : Vm} {k : Nat} (X : Stand p l e R (s.setVm vm) m args below meth c T locs cells slots) (hS : s.Since vm k) (hk : k ≤ T.heap.size) (hlk : meth.locks = false) {v : Option Value} (hv : meth.sig.returnType = none → v = none)
    (hst : ∀ fs, (∀ (f : JFrame) (acts : List Action), f.method = m → f.locked = none → f.entered = [] → (doReturn e (T.setTop f) acts v).1 = T.setFrames fs) → Steps p.tables e below (T.setTop g) (T.setFrames fs))
    (hq : Q v T.heap locs) (hc : cells ≤ kc) (hs : slots ≤ ks) : OwnGW p e below s kc ks Q T g := by
  obtain ⟨fs, hr, hrun, hended, h1, h2, h3, h4⟩ := X.leaveW hS hk (v := v) hv hlk
  exact ⟨_, _, hst fs hr, hrun, hended, v, locs, rfl, hq, h1, h2, h3, h4.mono hc hs⟩
def OwnGH (p : Program) (e : Env) (below : List Frame) (s Z : State) (EL : List (String × Nat)) (kc ks : Nat) (Q : Option Value → Heap → List Loc → Prop) (T : State) (g : JFrame) : Prop :=
  ∃ s₂ o, Steps p.tables e below (T.setTop g) s₂ ∧ s₂.status = .running ∧ Ended s₂ below o ∧ ∃ v L, o = .returned v ∧ Q v s₂.heap L ∧ CHr Z EL s.vm s.heap s₂.vm s₂.heap ∧ ReturnedEndW s o s₂ L kc ks
theorem own_byH {Z : State} {EL : List (String × Nat)} (k : ∀ t, Steps p.tables e below (T'.setTop g') t → Steps p.tables e below (T.setTop g) t) (h : OwnGH p e below s Z EL kc ks Q T' g') : OwnGH p e below s Z EL kc ks Q T g := by
  obtain ⟨s₂, o, st, r⟩ := h
  exact ⟨s₂, o, k _ st, r⟩
theorem own_outH {Z : State} {a0 : Array Value} {EL : List (String × Nat)} {h0 : Heap} {vm : Vm} {k : Nat} (X : Stand p l e R (s.setVm vm) m args below meth c T locs cells slots) (hh : s.heap = h0) (hEL : EW Z a0 EL) (hS : s.Since vm k) (hk : k ≤ T.heap.size) (HR : CHr Z EL s.vm h0 vm T.heap) (hZ : Z.Warmed39 vm) (hlk : meth.locks = false) {v : Option Value} (hv : meth.sig.returnType = none → v = none)
    (hst : ∀ fs, (∀ (f : JFrame) (acts : List Action), f.method = m → f.locked = none → f.entered = [] → (doReturn e (T.setTop f) acts v).1 = T.setFrames fs) → Steps p.tables e below (T.setTop g) (T.setFrames fs))
    (hq : Q v T.heap locs) (hc : cells ≤ kc) (hs : slots ≤ ks) : OwnGH p e below s Z EL kc ks Q T g := by
  obtain ⟨fs, hr, hrun, hended, h1, h2, h3, h4⟩ := X.leaveW hS hk (v := v) hv hlk
  have C := HR.trans (CHv.at X hZ hEL HR.1)
  exact ⟨_, _, hst fs hr, hrun, hended, v, locs, rfl, hq, (by rw [hh]; exact C), h1, h2, h3, h4.mono hc hs⟩
theorem own_lt (x y : Int64) : lcmpW x y < 0 ↔ x < y := by rw [lcW]; exact lc_lt x y
theorem own_gt (x y : Int64) : 0 < lcmpW x y ↔ y < x := by rw [lcW]; exact lc_gt x y
theorem own_eq (x y : Int64) : lcmpW x y = 0 ↔ x = y := by rw [lcW]; exact lc_eq x y
theorem own_fldI {Z : State} {a : Addr} {t : Jvm.Term} {C n d : String} {k : Int32} (ev : t.eval args Z none [] Z = some (.ref a)) (h : (Jvm.Cond.eq (Jvm.Term.field t C n d) (Jvm.Term.int k)).value args Z none Z [] = some true) : Fld Z Z.heap a C n d (.int k) := by
  obtain ⟨x, y, h1, h2, h3, h4⟩ := cmp_v (Or.inl h)
  cases (Term.int_eval k).symm.trans h2
  obtain ⟨z, rfl⟩ := h4
  rw [fld_at ev] at h1
  have h5 : (Jvm.Cond.eq (Jvm.Term.field t C n d) (Jvm.Term.int k)).value args Z none Z [] = some (decide (z = k)) := by simp [Jvm.Cond.value, fld_at ev, h1, Term.int_eval]
  cases gotT h5 h
  exact Fld.start h1
theorem own_fldJ {Z : State} {a : Addr} {t : Jvm.Term} {C n d : String} {k : Int64} (ev : t.eval args Z none [] Z = some (.ref a)) (h : (Jvm.Cond.eq (Jvm.Term.field t C n d) (Jvm.Term.long k)).value args Z none Z [] = some true) : Fld Z Z.heap a C n d (.long k) := by
  obtain ⟨x, y, h1, h2, h3, h4⟩ := cmp_v (Or.inl h)
  cases (long_at k).symm.trans h2
  obtain ⟨z, rfl⟩ := h4
  have h5 := gotT (eq_L h1 (long_at k)) h
  rw [fld_at ev] at h1
  cases h5
  exact Fld.start h1
theorem own_fldN {Z : State} {a : Addr} {t : Jvm.Term} {C n d : String} (ev : t.eval args Z none [] Z = some (.ref a)) (h : (Jvm.Cond.eq (Jvm.Term.field t C n d) Jvm.Term.null).value args Z none Z [] = some true) : Fld Z Z.heap a C n d .null := by
  have h1 := null_v h
  rw [fld_at ev] at h1
  exact Fld.start h1
theorem own_e0 {P : Prop} [Decidable P] (h : (if P then (1 : Int32) else (0 : Int32)) = 0) : ¬ P := fun q => by rw [if_pos q] at h; exact absurd h (by decide)
theorem own_e1 {P : Prop} [Decidable P] (h : ¬ (if P then (1 : Int32) else (0 : Int32)) = 0) : P := by
  by_cases q : P
  · exact q
  · exact absurd (if_neg q) h
theorem own_n2 {P Q : Prop} [Decidable P] [Decidable Q] {A : Int32} (h : ¬ (P ∧ Q)) : (if P then (if Q then A else (0 : Int32)) else (0 : Int32)) = 0 := by
  by_cases p : P
  · rw [if_pos p, if_neg (fun q => h ⟨p, q⟩)]
  · rw [if_neg p]
theorem own_narR {v : Value} {C : String} (h : v.isRef = true) : narrow (.object C) v = v := by rcases ref_cases h with rfl | ⟨_, rfl⟩ <;> rfl
theorem own_fitR {v : Value} {C : String} (h : v.isRef = true) : fits (.object C) v = true := by rcases ref_cases h with rfl | ⟨_, rfl⟩ <;> rfl
theorem own_len {Z : State} {t : Jvm.Term} {a : Addr} {cl : Cell} {ty : FieldType} {k : Int32} (et : t.eval args Z none [] Z = some (.ref a)) (A : Arr Z Z.heap a cl ty) (h : (Jvm.Term.length t).eval args Z none [] Z = some (.int k)) : cl.slots.size < 2 ^ 31 ∧ cl.slots.size.toInt32 = k := by
  have hA := A.fin (Vm.Alike.refl Z.vm)
  by_cases q : cl.slots.size < 2 ^ 31
  · rw [len_f et hA q] at h; exact ⟨q, by simpa using h⟩
  · simp [Jvm.Term.eval, et, hA] at h; exact absurd h.1 q
theorem own_mvM {Z : State} {a0 : Array Value} {own host : String} {index : Nat} {y : MethodName} (hZ : Z.Warmed39 s.vm) (w : (Jvm.Cond.methodLinkNest own index y host).before a0 Z = true) : (Jvm.Cond.methodLinkNest own index y host).before args s = true := (Cond.methodLinkNest_wide hZ w :)
end OwnKit
theorem d1_0 : decode method_2_code 0 = .ok (.iload_n 0, 1) := by decide +kernel
theorem d1_1 : decode method_2_code 1 = .ok (.ifCond .ne 6, 3) := by decide +kernel
theorem d1_4 : decode method_2_code 4 = .ok (.ldc 7, 2) := by decide +kernel
theorem d1_6 : decode method_2_code 6 = .ok (.areturn, 1) := by decide +kernel
theorem d1_7 : decode method_2_code 7 = .ok (.iload_n 0, 1) := by decide +kernel
theorem d1_8 : decode method_2_code 8 = .ok (.iconst 1, 1) := by decide +kernel
theorem d1_9 : decode method_2_code 9 = .ok (.if_icmp .ne 18, 3) := by decide +kernel
theorem d1_12 : decode method_2_code 12 = .ok (.new 9, 3) := by decide +kernel
theorem d1_15 : decode method_2_code 15 = .ok (.dup, 1) := by decide +kernel
theorem d1_16 : decode method_2_code 16 = .ok (.iconst 1, 1) := by decide +kernel
theorem d1_17 : decode method_2_code 17 = .ok (.newarray .char, 2) := by decide +kernel
theorem d1_19 : decode method_2_code 19 = .ok (.dup, 1) := by decide +kernel
theorem d1_20 : decode method_2_code 20 = .ok (.iconst 0, 1) := by decide +kernel
theorem d1_21 : decode method_2_code 21 = .ok (.iload_n 1, 1) := by decide +kernel
theorem d1_22 : decode method_2_code 22 = .ok (.castore, 1) := by decide +kernel
theorem d1_23 : decode method_2_code 23 = .ok (.invokespecial 11, 3) := by decide +kernel
theorem d1_26 : decode method_2_code 26 = .ok (.areturn, 1) := by decide +kernel
theorem d1_27 : decode method_2_code 27 = .ok (.new 9, 3) := by decide +kernel
theorem d1_30 : decode method_2_code 30 = .ok (.dup, 1) := by decide +kernel
theorem d1_31 : decode method_2_code 31 = .ok (.iconst 2, 1) := by decide +kernel
theorem d1_32 : decode method_2_code 32 = .ok (.newarray .char, 2) := by decide +kernel
theorem d1_34 : decode method_2_code 34 = .ok (.dup, 1) := by decide +kernel
theorem d1_35 : decode method_2_code 35 = .ok (.iconst 0, 1) := by decide +kernel
theorem d1_36 : decode method_2_code 36 = .ok (.iload_n 1, 1) := by decide +kernel
theorem d1_37 : decode method_2_code 37 = .ok (.castore, 1) := by decide +kernel
theorem d1_38 : decode method_2_code 38 = .ok (.dup, 1) := by decide +kernel
theorem d1_39 : decode method_2_code 39 = .ok (.iconst 1, 1) := by decide +kernel
theorem d1_40 : decode method_2_code 40 = .ok (.iload_n 2, 1) := by decide +kernel
theorem d1_41 : decode method_2_code 41 = .ok (.castore, 1) := by decide +kernel
theorem d1_42 : decode method_2_code 42 = .ok (.invokespecial 11, 3) := by decide +kernel
theorem d1_45 : decode method_2_code 45 = .ok (.areturn, 1) := by decide +kernel
theorem d2_0 : decode prog_19_method_1_code 0 = .ok (.aload_n 0, 1) := by decide +kernel
theorem d2_1 : decode prog_19_method_1_code 1 = .ok (.invokespecial 1, 3) := by decide +kernel
theorem d2_4 : decode prog_19_method_1_code 4 = .ok (.aload_n 1, 1) := by decide +kernel
theorem d2_5 : decode prog_19_method_1_code 5 = .ok (.aload_n 2, 1) := by decide +kernel
theorem d2_6 : decode prog_19_method_1_code 6 = .ok (.invokevirtual 7, 3) := by decide +kernel
theorem d2_9 : decode prog_19_method_1_code 9 = .ok (.ifCond .eq 12, 3) := by decide +kernel
theorem d2_12 : decode prog_19_method_1_code 12 = .ok (.aload_n 1, 1) := by decide +kernel
theorem d2_13 : decode prog_19_method_1_code 13 = .ok (.aload 4, 2) := by decide +kernel
theorem d2_15 : decode prog_19_method_1_code 15 = .ok (.invokevirtual 7, 3) := by decide +kernel
theorem d2_18 : decode prog_19_method_1_code 18 = .ok (.ifCond .ne 20, 3) := by decide +kernel
theorem d2_38 : decode prog_19_method_1_code 38 = .ok (.aload_n 0, 1) := by decide +kernel
theorem d2_39 : decode prog_19_method_1_code 39 = .ok (.aload_n 1, 1) := by decide +kernel
theorem d2_40 : decode prog_19_method_1_code 40 = .ok (.putfield 22, 3) := by decide +kernel
theorem d2_43 : decode prog_19_method_1_code 43 = .ok (.aload_n 0, 1) := by decide +kernel
theorem d2_44 : decode prog_19_method_1_code 44 = .ok (.aload_n 2, 1) := by decide +kernel
theorem d2_45 : decode prog_19_method_1_code 45 = .ok (.invokevirtual 28, 3) := by decide +kernel
theorem d2_48 : decode prog_19_method_1_code 48 = .ok (.putfield 32, 3) := by decide +kernel
theorem d2_51 : decode prog_19_method_1_code 51 = .ok (.aload_n 0, 1) := by decide +kernel
theorem d2_52 : decode prog_19_method_1_code 52 = .ok (.aload_n 3, 1) := by decide +kernel
theorem d2_53 : decode prog_19_method_1_code 53 = .ok (.ldc 36, 2) := by decide +kernel
theorem d2_55 : decode prog_19_method_1_code 55 = .ok (.invokestatic 38, 3) := by decide +kernel
theorem d2_58 : decode prog_19_method_1_code 58 = .ok (.checkcast 8, 3) := by decide +kernel
theorem d2_61 : decode prog_19_method_1_code 61 = .ok (.putfield 44, 3) := by decide +kernel
theorem d2_64 : decode prog_19_method_1_code 64 = .ok (.aload_n 0, 1) := by decide +kernel
theorem d2_65 : decode prog_19_method_1_code 65 = .ok (.aload 4, 2) := by decide +kernel
theorem d2_67 : decode prog_19_method_1_code 67 = .ok (.invokevirtual 28, 3) := by decide +kernel
theorem d2_70 : decode prog_19_method_1_code 70 = .ok (.putfield 46, 3) := by decide +kernel
theorem d2_73 : decode prog_19_method_1_code 73 = .ok (.aload_n 0, 1) := by decide +kernel
theorem d2_74 : decode prog_19_method_1_code 74 = .ok (.iload 5, 2) := by decide +kernel
theorem d2_76 : decode prog_19_method_1_code 76 = .ok (.putfield 49, 3) := by decide +kernel
theorem d2_79 : decode prog_19_method_1_code 79 = .ok (.return_, 1) := by decide +kernel
theorem d4_0 : decode jdk_42_method_76_code 0 = .ok (.aload_n 0, 1) := by decide +kernel
theorem d4_1 : decode jdk_42_method_76_code 1 = .ok (.aload_n 1, 1) := by decide +kernel
theorem d4_2 : decode jdk_42_method_76_code 2 = .ok (.iconst 0, 1) := by decide +kernel
theorem d4_3 : decode jdk_42_method_76_code 3 = .ok (.invokevirtual 624, 3) := by decide +kernel
theorem d4_6 : decode jdk_42_method_76_code 6 = .ok (.ireturn, 1) := by decide +kernel
theorem d5_0 : decode jdk_42_method_75_code 0 = .ok (.iload_n 2, 1) := by decide +kernel
theorem d5_1 : decode jdk_42_method_75_code 1 = .ok (.ifCond .lt 16, 3) := by decide +kernel
theorem d5_4 : decode jdk_42_method_75_code 4 = .ok (.iload_n 2, 1) := by decide +kernel
theorem d5_5 : decode jdk_42_method_75_code 5 = .ok (.aload_n 0, 1) := by decide +kernel
theorem d5_6 : decode jdk_42_method_75_code 6 = .ok (.invokevirtual 505, 3) := by decide +kernel
theorem d5_9 : decode jdk_42_method_75_code 9 = .ok (.aload_n 1, 1) := by decide +kernel
theorem d5_10 : decode jdk_42_method_75_code 10 = .ok (.invokevirtual 505, 3) := by decide +kernel
theorem d5_13 : decode jdk_42_method_75_code 13 = .ok (.isub, 1) := by decide +kernel
theorem d5_14 : decode jdk_42_method_75_code 14 = .ok (.if_icmp .le 5, 3) := by decide +kernel
theorem d5_19 : decode jdk_42_method_75_code 19 = .ok (.aload_n 0, 1) := by decide +kernel
theorem d5_20 : decode jdk_42_method_75_code 20 = .ok (.getfield 9, 3) := by decide +kernel
theorem d5_23 : decode jdk_42_method_75_code 23 = .ok (.astore_n 3, 1) := by decide +kernel
theorem d5_24 : decode jdk_42_method_75_code 24 = .ok (.aload_n 1, 1) := by decide +kernel
theorem d5_25 : decode jdk_42_method_75_code 25 = .ok (.getfield 9, 3) := by decide +kernel
theorem d5_28 : decode jdk_42_method_75_code 28 = .ok (.astore 4, 2) := by decide +kernel
theorem d5_30 : decode jdk_42_method_75_code 30 = .ok (.iconst 0, 1) := by decide +kernel
theorem d5_31 : decode jdk_42_method_75_code 31 = .ok (.istore 5, 2) := by decide +kernel
theorem d5_33 : decode jdk_42_method_75_code 33 = .ok (.aload 4, 2) := by decide +kernel
theorem d5_35 : decode jdk_42_method_75_code 35 = .ok (.arraylength, 1) := by decide +kernel
theorem d5_36 : decode jdk_42_method_75_code 36 = .ok (.istore 6, 2) := by decide +kernel
theorem d5_38 : decode jdk_42_method_75_code 38 = .ok (.aload_n 0, 1) := by decide +kernel
theorem d5_39 : decode jdk_42_method_75_code 39 = .ok (.invokevirtual 335, 3) := by decide +kernel
theorem d5_42 : decode jdk_42_method_75_code 42 = .ok (.istore 7, 2) := by decide +kernel
theorem d5_44 : decode jdk_42_method_75_code 44 = .ok (.iload 7, 2) := by decide +kernel
theorem d5_46 : decode jdk_42_method_75_code 46 = .ok (.aload_n 1, 1) := by decide +kernel
theorem d5_47 : decode jdk_42_method_75_code 47 = .ok (.invokevirtual 335, 3) := by decide +kernel
theorem d5_50 : decode jdk_42_method_75_code 50 = .ok (.if_icmp .ne 32, 3) := by decide +kernel
theorem d5_53 : decode jdk_42_method_75_code 53 = .ok (.iload 7, 2) := by decide +kernel
theorem d5_55 : decode jdk_42_method_75_code 55 = .ok (.iconst 1, 1) := by decide +kernel
theorem d5_56 : decode jdk_42_method_75_code 56 = .ok (.if_icmp .ne 7, 3) := by decide +kernel
theorem d5_63 : decode jdk_42_method_75_code 63 = .ok (.aload_n 3, 1) := by decide +kernel
theorem d5_64 : decode jdk_42_method_75_code 64 = .ok (.iload_n 2, 1) := by decide +kernel
theorem d5_65 : decode jdk_42_method_75_code 65 = .ok (.aload 4, 2) := by decide +kernel
theorem d5_67 : decode jdk_42_method_75_code 67 = .ok (.iconst 0, 1) := by decide +kernel
theorem d5_68 : decode jdk_42_method_75_code 68 = .ok (.iload 6, 2) := by decide +kernel
theorem d5_70 : decode jdk_42_method_75_code 70 = .ok (.invokestatic 607, 3) := by decide +kernel
theorem d5_73 : decode jdk_42_method_75_code 73 = .ok (.ifCond .ge 7, 3) := by decide +kernel
theorem d5_76 : decode jdk_42_method_75_code 76 = .ok (.iconst 1, 1) := by decide +kernel
theorem d5_77 : decode jdk_42_method_75_code 77 = .ok (.goto 4, 3) := by decide +kernel
theorem d5_81 : decode jdk_42_method_75_code 81 = .ok (.ireturn, 1) := by decide +kernel
theorem d6_0 : decode jdk_42_method_54_code 0 = .ok (.aload_n 0, 1) := by decide +kernel
theorem d6_1 : decode jdk_42_method_54_code 1 = .ok (.getfield 9, 3) := by decide +kernel
theorem d6_4 : decode jdk_42_method_54_code 4 = .ok (.arraylength, 1) := by decide +kernel
theorem d6_5 : decode jdk_42_method_54_code 5 = .ok (.aload_n 0, 1) := by decide +kernel
theorem d6_6 : decode jdk_42_method_54_code 6 = .ok (.invokevirtual 335, 3) := by decide +kernel
theorem d6_9 : decode jdk_42_method_54_code 9 = .ok (.ishr, 1) := by decide +kernel
theorem d6_10 : decode jdk_42_method_54_code 10 = .ok (.ireturn, 1) := by decide +kernel
theorem d7_0 : decode jdk_42_method_152_code 0 = .ok (.getstatic 38, 3) := by decide +kernel
theorem d7_3 : decode jdk_42_method_152_code 3 = .ok (.ifCond .eq 10, 3) := by decide +kernel
theorem d7_6 : decode jdk_42_method_152_code 6 = .ok (.aload_n 0, 1) := by decide +kernel
theorem d7_7 : decode jdk_42_method_152_code 7 = .ok (.getfield 15, 3) := by decide +kernel
theorem d7_10 : decode jdk_42_method_152_code 10 = .ok (.goto 4, 3) := by decide +kernel
theorem d7_14 : decode jdk_42_method_152_code 14 = .ok (.ireturn, 1) := by decide +kernel
theorem d8_0 : decode jdk_48_method_14_code 0 = .ok (.iconst 0, 1) := by decide +kernel
theorem d8_1 : decode jdk_48_method_14_code 1 = .ok (.istore 5, 2) := by decide +kernel
theorem d8_3 : decode jdk_48_method_14_code 3 = .ok (.iload 4, 2) := by decide +kernel
theorem d8_5 : decode jdk_48_method_14_code 5 = .ok (.bipush 7, 2) := by decide +kernel
theorem d8_7 : decode jdk_48_method_14_code 7 = .ok (.if_icmp .le 63, 3) := by decide +kernel
theorem d8_70 : decode jdk_48_method_14_code 70 = .ok (.iload 5, 2) := by decide +kernel
theorem d8_72 : decode jdk_48_method_14_code 72 = .ok (.iload 4, 2) := by decide +kernel
theorem d8_74 : decode jdk_48_method_14_code 74 = .ok (.if_icmp .ge 27, 3) := by decide +kernel
theorem d8_77 : decode jdk_48_method_14_code 77 = .ok (.aload_n 0, 1) := by decide +kernel
theorem d8_78 : decode jdk_48_method_14_code 78 = .ok (.iload_n 1, 1) := by decide +kernel
theorem d8_79 : decode jdk_48_method_14_code 79 = .ok (.iload 5, 2) := by decide +kernel
theorem d8_81 : decode jdk_48_method_14_code 81 = .ok (.iadd, 1) := by decide +kernel
theorem d8_82 : decode jdk_48_method_14_code 82 = .ok (.baload, 1) := by decide +kernel
theorem d8_83 : decode jdk_48_method_14_code 83 = .ok (.aload_n 2, 1) := by decide +kernel
theorem d8_84 : decode jdk_48_method_14_code 84 = .ok (.iload_n 3, 1) := by decide +kernel
theorem d8_85 : decode jdk_48_method_14_code 85 = .ok (.iload 5, 2) := by decide +kernel
theorem d8_87 : decode jdk_48_method_14_code 87 = .ok (.iadd, 1) := by decide +kernel
theorem d8_88 : decode jdk_48_method_14_code 88 = .ok (.baload, 1) := by decide +kernel
theorem d8_89 : decode jdk_48_method_14_code 89 = .ok (.if_icmp .eq 6, 3) := by decide +kernel
theorem d8_95 : decode jdk_48_method_14_code 95 = .ok (.iinc 5 1, 3) := by decide +kernel
theorem d8_98 : decode jdk_48_method_14_code 98 = .ok (.goto (-28), 3) := by decide +kernel
theorem d8_101 : decode jdk_48_method_14_code 101 = .ok (.iconst (-1), 1) := by decide +kernel
theorem d8_102 : decode jdk_48_method_14_code 102 = .ok (.ireturn, 1) := by decide +kernel
theorem d9_0 : decode jdk_31_method_11_code 0 = .ok (.aload_n 0, 1) := by decide +kernel
theorem d9_1 : decode jdk_31_method_11_code 1 = .ok (.ifnonnull 12, 3) := by decide +kernel
theorem d9_13 : decode jdk_31_method_11_code 13 = .ok (.aload_n 0, 1) := by decide +kernel
theorem d9_14 : decode jdk_31_method_11_code 14 = .ok (.areturn, 1) := by decide +kernel
theorem d10_0 : decode prog_19_method_7_code 0 = .ok (.aload_n 1, 1) := by decide +kernel
theorem d10_1 : decode prog_19_method_7_code 1 = .ok (.instanceof 23, 3) := by decide +kernel
theorem d10_4 : decode prog_19_method_7_code 4 = .ok (.ifCond .eq 73, 3) := by decide +kernel
theorem d10_7 : decode prog_19_method_7_code 7 = .ok (.aload_n 1, 1) := by decide +kernel
theorem d10_8 : decode prog_19_method_7_code 8 = .ok (.checkcast 23, 3) := by decide +kernel
theorem d10_11 : decode prog_19_method_7_code 11 = .ok (.astore_n 2, 1) := by decide +kernel
theorem d10_12 : decode prog_19_method_7_code 12 = .ok (.aload_n 0, 1) := by decide +kernel
theorem d10_13 : decode prog_19_method_7_code 13 = .ok (.getfield 22, 3) := by decide +kernel
theorem d10_16 : decode prog_19_method_7_code 16 = .ok (.aload_n 2, 1) := by decide +kernel
theorem d10_17 : decode prog_19_method_7_code 17 = .ok (.getfield 22, 3) := by decide +kernel
theorem d10_20 : decode prog_19_method_7_code 20 = .ok (.invokevirtual 120, 3) := by decide +kernel
theorem d10_23 : decode prog_19_method_7_code 23 = .ok (.ifCond .eq 54, 3) := by decide +kernel
theorem d10_26 : decode prog_19_method_7_code 26 = .ok (.aload_n 0, 1) := by decide +kernel
theorem d10_27 : decode prog_19_method_7_code 27 = .ok (.getfield 32, 3) := by decide +kernel
theorem d10_30 : decode prog_19_method_7_code 30 = .ok (.aload_n 2, 1) := by decide +kernel
theorem d10_31 : decode prog_19_method_7_code 31 = .ok (.getfield 32, 3) := by decide +kernel
theorem d10_34 : decode prog_19_method_7_code 34 = .ok (.if_icmp .ne 43, 3) := by decide +kernel
theorem d10_37 : decode prog_19_method_7_code 37 = .ok (.aload_n 0, 1) := by decide +kernel
theorem d10_38 : decode prog_19_method_7_code 38 = .ok (.getfield 44, 3) := by decide +kernel
theorem d10_41 : decode prog_19_method_7_code 41 = .ok (.aload_n 2, 1) := by decide +kernel
theorem d10_42 : decode prog_19_method_7_code 42 = .ok (.getfield 44, 3) := by decide +kernel
theorem d10_45 : decode prog_19_method_7_code 45 = .ok (.invokevirtual 120, 3) := by decide +kernel
theorem d10_48 : decode prog_19_method_7_code 48 = .ok (.ifCond .eq 29, 3) := by decide +kernel
theorem d10_51 : decode prog_19_method_7_code 51 = .ok (.aload_n 0, 1) := by decide +kernel
theorem d10_52 : decode prog_19_method_7_code 52 = .ok (.getfield 46, 3) := by decide +kernel
theorem d10_55 : decode prog_19_method_7_code 55 = .ok (.aload_n 2, 1) := by decide +kernel
theorem d10_56 : decode prog_19_method_7_code 56 = .ok (.getfield 46, 3) := by decide +kernel
theorem d10_59 : decode prog_19_method_7_code 59 = .ok (.if_icmp .ne 18, 3) := by decide +kernel
theorem d10_62 : decode prog_19_method_7_code 62 = .ok (.aload_n 0, 1) := by decide +kernel
theorem d10_63 : decode prog_19_method_7_code 63 = .ok (.getfield 49, 3) := by decide +kernel
theorem d10_66 : decode prog_19_method_7_code 66 = .ok (.aload_n 2, 1) := by decide +kernel
theorem d10_67 : decode prog_19_method_7_code 67 = .ok (.getfield 49, 3) := by decide +kernel
theorem d10_70 : decode prog_19_method_7_code 70 = .ok (.if_icmp .ne 7, 3) := by decide +kernel
theorem d10_73 : decode prog_19_method_7_code 73 = .ok (.iconst 1, 1) := by decide +kernel
theorem d10_74 : decode prog_19_method_7_code 74 = .ok (.goto 4, 3) := by decide +kernel
theorem d10_77 : decode prog_19_method_7_code 77 = .ok (.iconst 0, 1) := by decide +kernel
theorem d10_78 : decode prog_19_method_7_code 78 = .ok (.ireturn, 1) := by decide +kernel
theorem d11_0 : decode jdk_42_method_66_code 0 = .ok (.aload_n 0, 1) := by decide +kernel
theorem d11_1 : decode jdk_42_method_66_code 1 = .ok (.aload_n 1, 1) := by decide +kernel
theorem d11_2 : decode jdk_42_method_66_code 2 = .ok (.if_acmp .ne 5, 3) := by decide +kernel
theorem d11_5 : decode jdk_42_method_66_code 5 = .ok (.iconst 1, 1) := by decide +kernel
theorem d11_6 : decode jdk_42_method_66_code 6 = .ok (.ireturn, 1) := by decide +kernel
theorem d11_7 : decode jdk_42_method_66_code 7 = .ok (.aload_n 1, 1) := by decide +kernel
theorem d11_8 : decode jdk_42_method_66_code 8 = .ok (.instanceof 10, 3) := by decide +kernel
theorem d11_11 : decode jdk_42_method_66_code 11 = .ok (.ifCond .eq 43, 3) := by decide +kernel
theorem d11_14 : decode jdk_42_method_66_code 14 = .ok (.aload_n 1, 1) := by decide +kernel
theorem d11_15 : decode jdk_42_method_66_code 15 = .ok (.checkcast 10, 3) := by decide +kernel
theorem d11_18 : decode jdk_42_method_66_code 18 = .ok (.astore_n 2, 1) := by decide +kernel
theorem d11_19 : decode jdk_42_method_66_code 19 = .ok (.getstatic 38, 3) := by decide +kernel
theorem d11_22 : decode jdk_42_method_66_code 22 = .ok (.ifCond .eq 14, 3) := by decide +kernel
theorem d11_25 : decode jdk_42_method_66_code 25 = .ok (.aload_n 0, 1) := by decide +kernel
theorem d11_26 : decode jdk_42_method_66_code 26 = .ok (.getfield 15, 3) := by decide +kernel
theorem d11_29 : decode jdk_42_method_66_code 29 = .ok (.aload_n 2, 1) := by decide +kernel
theorem d11_30 : decode jdk_42_method_66_code 30 = .ok (.getfield 15, 3) := by decide +kernel
theorem d11_33 : decode jdk_42_method_66_code 33 = .ok (.if_icmp .ne 21, 3) := by decide +kernel
theorem d11_36 : decode jdk_42_method_66_code 36 = .ok (.aload_n 0, 1) := by decide +kernel
theorem d11_37 : decode jdk_42_method_66_code 37 = .ok (.getfield 9, 3) := by decide +kernel
theorem d11_40 : decode jdk_42_method_66_code 40 = .ok (.aload_n 2, 1) := by decide +kernel
theorem d11_41 : decode jdk_42_method_66_code 41 = .ok (.getfield 9, 3) := by decide +kernel
theorem d11_44 : decode jdk_42_method_66_code 44 = .ok (.invokestatic 541, 3) := by decide +kernel
theorem d11_47 : decode jdk_42_method_66_code 47 = .ok (.ifCond .eq 7, 3) := by decide +kernel
theorem d11_50 : decode jdk_42_method_66_code 50 = .ok (.iconst 1, 1) := by decide +kernel
theorem d11_51 : decode jdk_42_method_66_code 51 = .ok (.goto 4, 3) := by decide +kernel
theorem d11_54 : decode jdk_42_method_66_code 54 = .ok (.iconst 0, 1) := by decide +kernel
theorem d11_55 : decode jdk_42_method_66_code 55 = .ok (.ireturn, 1) := by decide +kernel
theorem d12_0 : decode jdk_33_method_22_code 0 = .ok (.iload_n 0, 1) := by decide +kernel
theorem d12_1 : decode jdk_33_method_22_code 1 = .ok (.bipush (-128), 2) := by decide +kernel
theorem d12_3 : decode jdk_33_method_22_code 3 = .ok (.if_icmp .lt 20, 3) := by decide +kernel
theorem d12_6 : decode jdk_33_method_22_code 6 = .ok (.iload_n 0, 1) := by decide +kernel
theorem d12_7 : decode jdk_33_method_22_code 7 = .ok (.getstatic 191, 3) := by decide +kernel
theorem d12_10 : decode jdk_33_method_22_code 10 = .ok (.if_icmp .gt 13, 3) := by decide +kernel
theorem d12_13 : decode jdk_33_method_22_code 13 = .ok (.getstatic 195, 3) := by decide +kernel
theorem d12_16 : decode jdk_33_method_22_code 16 = .ok (.iload_n 0, 1) := by decide +kernel
theorem d12_17 : decode jdk_33_method_22_code 17 = .ok (.sipush 128, 3) := by decide +kernel
theorem d12_20 : decode jdk_33_method_22_code 20 = .ok (.iadd, 1) := by decide +kernel
theorem d12_21 : decode jdk_33_method_22_code 21 = .ok (.aaload, 1) := by decide +kernel
theorem d12_22 : decode jdk_33_method_22_code 22 = .ok (.areturn, 1) := by decide +kernel
theorem d12_23 : decode jdk_33_method_22_code 23 = .ok (.new 1, 3) := by decide +kernel
theorem d12_26 : decode jdk_33_method_22_code 26 = .ok (.dup, 1) := by decide +kernel
theorem d12_27 : decode jdk_33_method_22_code 27 = .ok (.iload_n 0, 1) := by decide +kernel
theorem d12_28 : decode jdk_33_method_22_code 28 = .ok (.invokespecial 199, 3) := by decide +kernel
theorem d12_31 : decode jdk_33_method_22_code 31 = .ok (.areturn, 1) := by decide +kernel
theorem d13_0 : decode jdk_42_method_3_code 0 = .ok (.aload_n 0, 1) := by decide +kernel
theorem d13_1 : decode jdk_42_method_3_code 1 = .ok (.aload_n 1, 1) := by decide +kernel
theorem d13_2 : decode jdk_42_method_3_code 2 = .ok (.iconst 0, 1) := by decide +kernel
theorem d13_3 : decode jdk_42_method_3_code 3 = .ok (.aload_n 1, 1) := by decide +kernel
theorem d13_4 : decode jdk_42_method_3_code 4 = .ok (.arraylength, 1) := by decide +kernel
theorem d13_5 : decode jdk_42_method_3_code 5 = .ok (.aconst_null, 1) := by decide +kernel
theorem d13_6 : decode jdk_42_method_3_code 6 = .ok (.invokespecial 27, 3) := by decide +kernel
theorem d13_9 : decode jdk_42_method_3_code 9 = .ok (.return_, 1) := by decide +kernel
theorem d14_0 : decode jdk_42_method_149_code 0 = .ok (.aload_n 0, 1) := by decide +kernel
theorem d14_1 : decode jdk_42_method_149_code 1 = .ok (.invokespecial 1, 3) := by decide +kernel
theorem d14_4 : decode jdk_42_method_149_code 4 = .ok (.iload_n 3, 1) := by decide +kernel
theorem d14_5 : decode jdk_42_method_149_code 5 = .ok (.ifCond .ne 22, 3) := by decide +kernel
theorem d14_27 : decode jdk_42_method_149_code 27 = .ok (.getstatic 38, 3) := by decide +kernel
theorem d14_30 : decode jdk_42_method_149_code 30 = .ok (.ifCond .eq 28, 3) := by decide +kernel
theorem d14_33 : decode jdk_42_method_149_code 33 = .ok (.aload_n 1, 1) := by decide +kernel
theorem d14_34 : decode jdk_42_method_149_code 34 = .ok (.iload_n 2, 1) := by decide +kernel
theorem d14_35 : decode jdk_42_method_149_code 35 = .ok (.iload_n 3, 1) := by decide +kernel
theorem d14_36 : decode jdk_42_method_149_code 36 = .ok (.invokestatic 177, 3) := by decide +kernel
theorem d14_39 : decode jdk_42_method_149_code 39 = .ok (.astore 5, 2) := by decide +kernel
theorem d14_41 : decode jdk_42_method_149_code 41 = .ok (.aload_n 0, 1) := by decide +kernel
theorem d14_42 : decode jdk_42_method_149_code 42 = .ok (.aload 5, 2) := by decide +kernel
theorem d14_44 : decode jdk_42_method_149_code 44 = .ok (.iload_n 3, 1) := by decide +kernel
theorem d14_45 : decode jdk_42_method_149_code 45 = .ok (.invokestatic 47, 3) := by decide +kernel
theorem d14_48 : decode jdk_42_method_149_code 48 = .ok (.putfield 15, 3) := by decide +kernel
theorem d14_51 : decode jdk_42_method_149_code 51 = .ok (.aload_n 0, 1) := by decide +kernel
theorem d14_52 : decode jdk_42_method_149_code 52 = .ok (.aload 5, 2) := by decide +kernel
theorem d14_54 : decode jdk_42_method_149_code 54 = .ok (.putfield 9, 3) := by decide +kernel
theorem d14_57 : decode jdk_42_method_149_code 57 = .ok (.return_, 1) := by decide +kernel
theorem d15_0 : decode jdk_52_method_16_code 0 = .ok (.iload_n 2, 1) := by decide +kernel
theorem d15_1 : decode jdk_52_method_16_code 1 = .ok (.newarray .byte, 2) := by decide +kernel
theorem d15_3 : decode jdk_52_method_16_code 3 = .ok (.astore_n 3, 1) := by decide +kernel
theorem d15_4 : decode jdk_52_method_16_code 4 = .ok (.aload_n 0, 1) := by decide +kernel
theorem d15_5 : decode jdk_52_method_16_code 5 = .ok (.iload_n 1, 1) := by decide +kernel
theorem d15_6 : decode jdk_52_method_16_code 6 = .ok (.aload_n 3, 1) := by decide +kernel
theorem d15_7 : decode jdk_52_method_16_code 7 = .ok (.iconst 0, 1) := by decide +kernel
theorem d15_8 : decode jdk_52_method_16_code 8 = .ok (.iload_n 2, 1) := by decide +kernel
theorem d15_9 : decode jdk_52_method_16_code 9 = .ok (.invokestatic 115, 3) := by decide +kernel
theorem d15_12 : decode jdk_52_method_16_code 12 = .ok (.istore 4, 2) := by decide +kernel
theorem d15_14 : decode jdk_52_method_16_code 14 = .ok (.iload 4, 2) := by decide +kernel
theorem d15_16 : decode jdk_52_method_16_code 16 = .ok (.iload_n 2, 1) := by decide +kernel
theorem d15_17 : decode jdk_52_method_16_code 17 = .ok (.if_icmp .eq 40, 3) := by decide +kernel
theorem d15_57 : decode jdk_52_method_16_code 57 = .ok (.aload_n 3, 1) := by decide +kernel
theorem d15_58 : decode jdk_52_method_16_code 58 = .ok (.areturn, 1) := by decide +kernel
theorem d16_0 : decode jdk_52_method_21_code 0 = .ok (.iconst 0, 1) := by decide +kernel
theorem d16_1 : decode jdk_52_method_21_code 1 = .ok (.istore 5, 2) := by decide +kernel
theorem d16_3 : decode jdk_52_method_21_code 3 = .ok (.iload 5, 2) := by decide +kernel
theorem d16_5 : decode jdk_52_method_21_code 5 = .ok (.iload 4, 2) := by decide +kernel
theorem d16_7 : decode jdk_52_method_21_code 7 = .ok (.if_icmp .ge 37, 3) := by decide +kernel
theorem d16_10 : decode jdk_52_method_21_code 10 = .ok (.aload_n 0, 1) := by decide +kernel
theorem d16_11 : decode jdk_52_method_21_code 11 = .ok (.iload_n 1, 1) := by decide +kernel
theorem d16_12 : decode jdk_52_method_21_code 12 = .ok (.caload, 1) := by decide +kernel
theorem d16_13 : decode jdk_52_method_21_code 13 = .ok (.istore 6, 2) := by decide +kernel
theorem d16_15 : decode jdk_52_method_21_code 15 = .ok (.iload 6, 2) := by decide +kernel
theorem d16_17 : decode jdk_52_method_21_code 17 = .ok (.sipush 255, 3) := by decide +kernel
theorem d16_20 : decode jdk_52_method_21_code 20 = .ok (.if_icmp .le 6, 3) := by decide +kernel
theorem d16_26 : decode jdk_52_method_21_code 26 = .ok (.aload_n 2, 1) := by decide +kernel
theorem d16_27 : decode jdk_52_method_21_code 27 = .ok (.iload_n 3, 1) := by decide +kernel
theorem d16_28 : decode jdk_52_method_21_code 28 = .ok (.iload 6, 2) := by decide +kernel
theorem d16_30 : decode jdk_52_method_21_code 30 = .ok (.i2b, 1) := by decide +kernel
theorem d16_31 : decode jdk_52_method_21_code 31 = .ok (.bastore, 1) := by decide +kernel
theorem d16_32 : decode jdk_52_method_21_code 32 = .ok (.iinc 1 1, 3) := by decide +kernel
theorem d16_35 : decode jdk_52_method_21_code 35 = .ok (.iinc 3 1, 3) := by decide +kernel
theorem d16_38 : decode jdk_52_method_21_code 38 = .ok (.iinc 5 1, 3) := by decide +kernel
theorem d16_41 : decode jdk_52_method_21_code 41 = .ok (.goto (-38), 3) := by decide +kernel
theorem d16_44 : decode jdk_52_method_21_code 44 = .ok (.iload 4, 2) := by decide +kernel
theorem d16_46 : decode jdk_52_method_21_code 46 = .ok (.ireturn, 1) := by decide +kernel
theorem d17_0 : decode jdk_52_method_15_code 0 = .ok (.iload_n 1, 1) := by decide +kernel
theorem d17_1 : decode jdk_52_method_15_code 1 = .ok (.aload_n 0, 1) := by decide +kernel
theorem d17_2 : decode jdk_52_method_15_code 2 = .ok (.arraylength, 1) := by decide +kernel
theorem d17_3 : decode jdk_52_method_15_code 3 = .ok (.isub, 1) := by decide +kernel
theorem d17_4 : decode jdk_52_method_15_code 4 = .ok (.bipush 31, 2) := by decide +kernel
theorem d17_6 : decode jdk_52_method_15_code 6 = .ok (.iushr, 1) := by decide +kernel
theorem d17_7 : decode jdk_52_method_15_code 7 = .ok (.i2b, 1) := by decide +kernel
theorem d17_8 : decode jdk_52_method_15_code 8 = .ok (.ireturn, 1) := by decide +kernel
theorem d18_0 : decode jdk_43_method_13_code 0 = .ok (.aload_n 0, 1) := by decide +kernel
theorem d18_1 : decode jdk_43_method_13_code 1 = .ok (.arraylength, 1) := by decide +kernel
theorem d18_2 : decode jdk_43_method_13_code 2 = .ok (.aload_n 1, 1) := by decide +kernel
theorem d18_3 : decode jdk_43_method_13_code 3 = .ok (.arraylength, 1) := by decide +kernel
theorem d18_4 : decode jdk_43_method_13_code 4 = .ok (.if_icmp .ne 30, 3) := by decide +kernel
theorem d18_7 : decode jdk_43_method_13_code 7 = .ok (.iconst 0, 1) := by decide +kernel
theorem d18_8 : decode jdk_43_method_13_code 8 = .ok (.istore_n 2, 1) := by decide +kernel
theorem d18_9 : decode jdk_43_method_13_code 9 = .ok (.iload_n 2, 1) := by decide +kernel
theorem d18_10 : decode jdk_43_method_13_code 10 = .ok (.aload_n 0, 1) := by decide +kernel
theorem d18_11 : decode jdk_43_method_13_code 11 = .ok (.arraylength, 1) := by decide +kernel
theorem d18_12 : decode jdk_43_method_13_code 12 = .ok (.if_icmp .ge 20, 3) := by decide +kernel
theorem d18_15 : decode jdk_43_method_13_code 15 = .ok (.aload_n 0, 1) := by decide +kernel
theorem d18_16 : decode jdk_43_method_13_code 16 = .ok (.iload_n 2, 1) := by decide +kernel
theorem d18_17 : decode jdk_43_method_13_code 17 = .ok (.baload, 1) := by decide +kernel
theorem d18_18 : decode jdk_43_method_13_code 18 = .ok (.aload_n 1, 1) := by decide +kernel
theorem d18_19 : decode jdk_43_method_13_code 19 = .ok (.iload_n 2, 1) := by decide +kernel
theorem d18_20 : decode jdk_43_method_13_code 20 = .ok (.baload, 1) := by decide +kernel
theorem d18_21 : decode jdk_43_method_13_code 21 = .ok (.if_icmp .eq 5, 3) := by decide +kernel
theorem d18_24 : decode jdk_43_method_13_code 24 = .ok (.iconst 0, 1) := by decide +kernel
theorem d18_25 : decode jdk_43_method_13_code 25 = .ok (.ireturn, 1) := by decide +kernel
theorem d18_26 : decode jdk_43_method_13_code 26 = .ok (.iinc 2 1, 3) := by decide +kernel
theorem d18_29 : decode jdk_43_method_13_code 29 = .ok (.goto (-20), 3) := by decide +kernel
theorem d18_32 : decode jdk_43_method_13_code 32 = .ok (.iconst 1, 1) := by decide +kernel
theorem d18_33 : decode jdk_43_method_13_code 33 = .ok (.ireturn, 1) := by decide +kernel
theorem d18_34 : decode jdk_43_method_13_code 34 = .ok (.iconst 0, 1) := by decide +kernel
theorem d18_35 : decode jdk_43_method_13_code 35 = .ok (.ireturn, 1) := by decide +kernel
theorem d19_0 : decode jdk_33_method_23_code 0 = .ok (.aload_n 0, 1) := by decide +kernel
theorem d19_1 : decode jdk_33_method_23_code 1 = .ok (.invokespecial 202, 3) := by decide +kernel
theorem d19_4 : decode jdk_33_method_23_code 4 = .ok (.aload_n 0, 1) := by decide +kernel
theorem d19_5 : decode jdk_33_method_23_code 5 = .ok (.iload_n 1, 1) := by decide +kernel
theorem d19_6 : decode jdk_33_method_23_code 6 = .ok (.putfield 205, 3) := by decide +kernel
theorem d19_9 : decode jdk_33_method_23_code 9 = .ok (.return_, 1) := by decide +kernel
theorem d20_0 : decode jdk_18_method_1_code 0 = .ok (.aload_n 0, 1) := by decide +kernel
theorem d20_1 : decode jdk_18_method_1_code 1 = .ok (.invokespecial 1, 3) := by decide +kernel
theorem d20_4 : decode jdk_18_method_1_code 4 = .ok (.return_, 1) := by decide +kernel
theorem pn_0 : plainName "java/lang/StringUTF16" = true := by first | (simp [plainName, overriddenIn]; done) | decide +kernel
theorem pn_1 : plainName "java/lang/String" = true := by first | (simp [plainName, overriddenIn]; done) | decide +kernel
theorem pn_2 : plainName "java/lang/StringLatin1" = true := by first | (simp [plainName, overriddenIn]; done) | decide +kernel
theorem pn_3 : plainName "com/example/wrought_gate/wroughtgate/engine/SchemaLocationEqualsPinLaw" = true := by first | (simp [plainName, overriddenIn]; done) | decide +kernel
theorem pn_4 : plainName "jdk/internal/util/ArraysSupport" = true := by first | (simp [plainName, overriddenIn]; done) | decide +kernel
theorem pn_5 : plainName "java/util/Objects" = true := by first | (simp [plainName, overriddenIn]; done) | decide +kernel
theorem pn_6 : plainName "com/example/wrought_gate/wroughtgate/engine/SchemaLocation" = true := by first | (simp [plainName, overriddenIn]; done) | decide +kernel
theorem pn_7 : plainName "java/lang/Number" = true := by first | (simp [plainName, overriddenIn]; done) | decide +kernel
theorem pn_8 : plainName "java/lang/Integer" = true := by first | (simp [plainName, overriddenIn]; done) | decide +kernel
theorem pd_0 : parseMethodDescriptor "([CI[BII)I" = some ⟨[(.array .char), .int, (.array .byte), .int, .int], some .int⟩ := by decide +kernel
theorem pd_1 : parseMethodDescriptor "([CII)[B" = some ⟨[(.array .char), .int, .int], some (.array .byte)⟩ := by decide +kernel
theorem pd_2 : parseMethodDescriptor "([BI)B" = some ⟨[(.array .byte), .int], some .byte⟩ := by decide +kernel
theorem pd_3 : parseMethodDescriptor "([CIILjava/lang/Void;)V" = some ⟨[(.array .char), .int, .int, (.object "java/lang/Void")], none⟩ := by decide +kernel
theorem pd_4 : parseMethodDescriptor "([B[B)Z" = some ⟨[(.array .byte), (.array .byte)], some .boolean⟩ := by decide +kernel
theorem pd_5 : parseMethodDescriptor "([C)V" = some ⟨[(.array .char)], none⟩ := by decide +kernel
theorem pd_6 : parseMethodDescriptor "()B" = some ⟨[], some .byte⟩ := by decide +kernel
theorem pd_7 : parseMethodDescriptor "()I" = some ⟨[], some .int⟩ := by decide +kernel
theorem pd_8 : parseMethodDescriptor "([BI[BII)I" = some ⟨[(.array .byte), .int, (.array .byte), .int, .int], some .int⟩ := by decide +kernel
theorem pd_9 : parseMethodDescriptor "(Ljava/lang/String;I)Z" = some ⟨[(.object "java/lang/String"), .int], some .boolean⟩ := by decide +kernel
theorem pd_10 : parseMethodDescriptor "(Ljava/lang/String;)Z" = some ⟨[(.object "java/lang/String")], some .boolean⟩ := by decide +kernel
theorem pd_11 : parseMethodDescriptor "(Ljava/lang/Object;Ljava/lang/String;)Ljava/lang/Object;" = some ⟨[(.object "java/lang/Object"), (.object "java/lang/String")], some (.object "java/lang/Object")⟩ := by decide +kernel
theorem pd_12 : parseMethodDescriptor "(Ljava/lang/Object;)Z" = some ⟨[(.object "java/lang/Object")], some .boolean⟩ := by decide +kernel
theorem pd_13 : parseMethodDescriptor "()V" = some ⟨[], none⟩ := by decide +kernel
theorem pd_14 : parseMethodDescriptor "(I)V" = some ⟨[.int], none⟩ := by decide +kernel
theorem pd_15 : parseMethodDescriptor "(ICC)Ljava/lang/String;" = some ⟨[.int, .char, .char], some (.object "java/lang/String")⟩ := by decide +kernel
theorem pd_16 : parseMethodDescriptor "(Ljava/lang/String;Ljava/lang/String;Ljava/lang/String;Ljava/lang/String;Z)V" = some ⟨[(.object "java/lang/String"), (.object "java/lang/String"), (.object "java/lang/String"), (.object "java/lang/String"), .boolean], none⟩ := by decide +kernel
theorem pd_17 : parseMethodDescriptor "(I)Ljava/lang/Integer;" = some ⟨[.int], some (.object "java/lang/Integer")⟩ := by decide +kernel
theorem ef_rmC2_1 (m : MethodId) (x0 : Addr) (x1 : Int32) (x2 : Addr) (x3 : Int32) (x4 : Int32) : entryFrame m #[(.ref x0), (.int x1), (.ref x2), (.int x3), (.int x4)] 7 = mkF m 0 #[.val (.ref x0), .val (.int x1), .val (.ref x2), .val (.int x3), .val (.int x4), .unset, .unset] [] := by first | (simp [entryFrame, mkF, argsToLocals, Value.category]; done) | rfl
theorem ef_rmC1_1 (m : MethodId) (x0 : Addr) (x1 : Int32) (x2 : Int32) : entryFrame m #[(.ref x0), (.int x1), (.int x2)] 6 = mkF m 0 #[.val (.ref x0), .val (.int x1), .val (.int x2), .unset, .unset, .unset] [] := by first | (simp [entryFrame, mkF, argsToLocals, Value.category]; done) | rfl
theorem ef_rmCo_1 (m : MethodId) (x0 : Addr) (x1 : Int32) : entryFrame m #[(.ref x0), (.int x1)] 2 = mkF m 0 #[.val (.ref x0), .val (.int x1)] [] := by first | (simp [entryFrame, mkF, argsToLocals, Value.category]; done) | rfl
theorem ef_rmS4_1 (m : MethodId) (x0 : Addr) (x1 : Addr) (x2 : Int32) (x3 : Int32) : entryFrame m #[(.ref x0), (.ref x1), (.int x2), (.int x3), .null] 6 = mkF m 0 #[.val (.ref x0), .val (.ref x1), .val (.int x2), .val (.int x3), .val .null, .unset] [] := by first | (simp [entryFrame, mkF, argsToLocals, Value.category]; done) | rfl
theorem ef_rmS1_1 (m : MethodId) (x0 : Addr) (x1 : Addr) : entryFrame m #[(.ref x0), (.ref x1)] 2 = mkF m 0 #[.val (.ref x0), .val (.ref x1)] [] := by first | (simp [entryFrame, mkF, argsToLocals, Value.category]; done) | rfl
theorem ef_rmC2_2 (m : MethodId) (x0 : Addr) (x1 : Int32) (x2 : Addr) (x3 : Int32) (x4 : Int32) : entryFrame m #[(.ref x0), (.int x1), (.ref x2), (.int x3), (.int x4)] 7 = mkF m 0 #[.val (.ref x0), .val (.int x1), .val (.ref x2), .val (.int x3), .val (.int x4), .unset, .unset] [] := by first | (simp [entryFrame, mkF, argsToLocals, Value.category]; done) | rfl
theorem ef_rmC1_2 (m : MethodId) (x0 : Addr) (x1 : Int32) (x2 : Int32) : entryFrame m #[(.ref x0), (.int x1), (.int x2)] 6 = mkF m 0 #[.val (.ref x0), .val (.int x1), .val (.int x2), .unset, .unset, .unset] [] := by first | (simp [entryFrame, mkF, argsToLocals, Value.category]; done) | rfl
theorem ef_rmCo_2 (m : MethodId) (x0 : Addr) (x1 : Int32) : entryFrame m #[(.ref x0), (.int x1)] 2 = mkF m 0 #[.val (.ref x0), .val (.int x1)] [] := by first | (simp [entryFrame, mkF, argsToLocals, Value.category]; done) | rfl
theorem ef_rmS4_2 (m : MethodId) (x0 : Addr) (x1 : Addr) (x2 : Int32) (x3 : Int32) : entryFrame m #[(.ref x0), (.ref x1), (.int x2), (.int x3), .null] 6 = mkF m 0 #[.val (.ref x0), .val (.ref x1), .val (.int x2), .val (.int x3), .val .null, .unset] [] := by first | (simp [entryFrame, mkF, argsToLocals, Value.category]; done) | rfl
theorem ef_rmS1_2 (m : MethodId) (x0 : Addr) (x1 : Addr) : entryFrame m #[(.ref x0), (.ref x1)] 2 = mkF m 0 #[.val (.ref x0), .val (.ref x1)] [] := by first | (simp [entryFrame, mkF, argsToLocals, Value.category]; done) | rfl
theorem ef_rmLE (m : MethodId) (x0 : Addr) (x1 : Addr) : entryFrame m #[(.ref x0), (.ref x1)] 3 = mkF m 0 #[.val (.ref x0), .val (.ref x1), .unset] [] := by first | (simp [entryFrame, mkF, argsToLocals, Value.category]; done) | rfl
theorem ef_rmEq (m : MethodId) (x0 : Addr) (x1 : Addr) : entryFrame m #[(.ref x0), (.ref x1)] 3 = mkF m 0 #[.val (.ref x0), .val (.ref x1), .unset] [] := by first | (simp [entryFrame, mkF, argsToLocals, Value.category]; done) | rfl
theorem ef_rmS (m : MethodId) (x0 : Int32) (x1 : Int32) (x2 : Int32) : entryFrame m #[(.int x0), (.int x1), (.int x2)] 3 = mkF m 0 #[.val (.int x0), .val (.int x1), .val (.int x2)] [] := by first | (simp [entryFrame, mkF, argsToLocals, Value.category]; done) | rfl
theorem ef_rmCd (m : MethodId) (x0 : Addr) : entryFrame m #[(.ref x0)] 1 = mkF m 0 #[.val (.ref x0)] [] := by first | (simp [entryFrame, mkF, argsToLocals, Value.category]; done) | rfl
theorem ef_rmLn (m : MethodId) (x0 : Addr) : entryFrame m #[(.ref x0)] 1 = mkF m 0 #[.val (.ref x0)] [] := by first | (simp [entryFrame, mkF, argsToLocals, Value.category]; done) | rfl
theorem ef_rmMM (m : MethodId) (x0 : Addr) (x1 : Int32) (x2 : Addr) (x3 : Int32) (x4 : Int32) : entryFrame m #[(.ref x0), (.int x1), (.ref x2), (.int x3), (.int x4)] 8 = mkF m 0 #[.val (.ref x0), .val (.int x1), .val (.ref x2), .val (.int x3), .val (.int x4), .unset, .unset, .unset] [] := by first | (simp [entryFrame, mkF, argsToLocals, Value.category]; done) | rfl
theorem ef_rmSw2 (m : MethodId) (x0 : Addr) (x1 : Addr) (x2 : Int32) : entryFrame m #[(.ref x0), (.ref x1), (.int x2)] 8 = mkF m 0 #[.val (.ref x0), .val (.ref x1), .val (.int x2), .unset, .unset, .unset, .unset, .unset] [] := by first | (simp [entryFrame, mkF, argsToLocals, Value.category]; done) | rfl
theorem ef_rmSw (m : MethodId) (x0 : Addr) (x1 : Addr) : entryFrame m #[(.ref x0), (.ref x1)] 2 = mkF m 0 #[.val (.ref x0), .val (.ref x1)] [] := by first | (simp [entryFrame, mkF, argsToLocals, Value.category]; done) | rfl
theorem ef_rmRN (m : MethodId) (x0 : Addr) (x1 : Addr) : entryFrame m #[(.ref x0), (.ref x1)] 2 = mkF m 0 #[.val (.ref x0), .val (.ref x1)] [] := by first | (simp [entryFrame, mkF, argsToLocals, Value.category]; done) | rfl
theorem ef_rmI (m : MethodId) (x0 : Addr) (x1 : Addr) (x2 : Addr) (x3 : Addr) (x4 : Addr) (x5 : Int32) : entryFrame m #[(.ref x0), (.ref x1), (.ref x2), (.ref x3), (.ref x4), (.int x5)] 6 = mkF m 0 #[.val (.ref x0), .val (.ref x1), .val (.ref x2), .val (.ref x3), .val (.ref x4), .val (.int x5)] [] := by first | (simp [entryFrame, mkF, argsToLocals, Value.category]; done) | rfl
theorem ef_rmQ (m : MethodId) (x0 : Addr) (x1 : Addr) : entryFrame m #[(.ref x0), (.ref x1)] 3 = mkF m 0 #[.val (.ref x0), .val (.ref x1), .unset] [] := by first | (simp [entryFrame, mkF, argsToLocals, Value.category]; done) | rfl
theorem ef_rmQN (m : MethodId) (x0 : Addr) : entryFrame m #[(.ref x0), .null] 3 = mkF m 0 #[.val (.ref x0), .val .null, .unset] [] := by first | (simp [entryFrame, mkF, argsToLocals, Value.category]; done) | rfl
theorem ef_rmQI (m : MethodId) (x0 : Addr) (x1 : Addr) : entryFrame m #[(.ref x0), (.ref x1)] 3 = mkF m 0 #[.val (.ref x0), .val (.ref x1), .unset] [] := by first | (simp [entryFrame, mkF, argsToLocals, Value.category]; done) | rfl
theorem ef_rmNI (m : MethodId) (x0 : Addr) : entryFrame m #[(.ref x0)] 1 = mkF m 0 #[.val (.ref x0)] [] := by first | (simp [entryFrame, mkF, argsToLocals, Value.category]; done) | rfl
theorem ef_rmII (m : MethodId) (x0 : Addr) (x1 : Int32) : entryFrame m #[(.ref x0), (.int x1)] 2 = mkF m 0 #[.val (.ref x0), .val (.int x1)] [] := by first | (simp [entryFrame, mkF, argsToLocals, Value.category]; done) | rfl
theorem ef_rmIV (m : MethodId) (x0 : Int32) : entryFrame m #[(.int x0)] 1 = mkF m 0 #[.val (.int x0)] [] := by first | (simp [entryFrame, mkF, argsToLocals, Value.category]; done) | rfl
theorem ef_rm0 (m : MethodId) (x0 : Int32) (x1 : Int32) (x2 : Int32) (x3 : Int32) : entryFrame m #[(.int x0), (.int x1), (.int x2), (.int x3)] maxLocals = mkF m 0 #[.val (.int x0), .val (.int x1), .val (.int x2), .val (.int x3), .unset, .unset, .unset, .unset, .unset, .unset, .unset, .unset, .unset, .unset, .unset, .unset, .unset, .unset, .unset, .unset, .unset, .unset, .unset, .unset, .unset, .unset, .unset] [] := by first | (simp [entryFrame, mkF, argsToLocals, Value.category, maxLocals]; done) | rfl
theorem own_wS {Z : State} {a0 : Array Value} (hw : ∀ d ∈ tables_1, d.before a0 Z = true) : ∀ a ∈ Bundle.stringAtoms, a.before a0 Z = true := by
  intro a ha
  simp only [Bundle.stringAtoms, List.mem_cons, List.not_mem_nil, or_false] at ha
  rcases ha with rfl | rfl | rfl | rfl | rfl | rfl | rfl
  · exact (ow hw 8 rfl)
  · exact (ow hw 9 rfl)
  · exact (ow hw 10 rfl)
  · exact (ow hw 11 rfl)
  · exact (ow hw 12 rfl)
  · exact (ow hw 13 rfl)
  · exact (ow hw 14 rfl)
theorem own_idx {j : Int32} (h : ¬ j < 0) : j.toNatClampNeg.toInt32 = j := by
  have a0 : (0 : Int32).toInt = 0 := rfl
  have h1 := Int32.toInt_lt j
  have h2 : j.toNatClampNeg = j.toInt.toNat := rfl
  rw [Int32.lt_iff_toInt_lt] at h
  apply Int32.toInt_inj.mp
  rw [len_toInt (by rw [h2]; omega), h2]
  omega
theorem own_i2c (x : Int32) (h0 : 0 ≤ x.toInt) (h1 : x.toInt ≤ 65535) : x.toUInt32.toUInt16.toUInt32.toInt32 = x := by
  have h := c_i2c x
  exact Int32.toInt_inj.mp (by omega)
theorem own_narc (x : Int32) : nar .char x = x.toUInt32.toUInt16.toUInt32.toInt32 := rfl
theorem own_c8 (x : Int32) : ((x &&& (255 : Int32)).toUInt32.toUInt16.toUInt32.toInt32) = (x &&& (255 : Int32)) := by
  have h := c_and x (255 : Int32) (by decide)
  have h2 : (255 : Int32).toInt = 255 := rfl
  exact own_i2c _ h.1 (by omega)
theorem own_n8 (x : Int32) : nar .char (x &&& (255 : Int32)) = (x &&& (255 : Int32)) := own_c8 x
theorem own_nc {x : Int32} (h0 : ¬ (x < (0 : Int32))) (h1 : ¬ ((255 : Int32) < x)) : nar .char x = x := by
  have a0 : (0 : Int32).toInt = 0 := rfl
  have a1 : (255 : Int32).toInt = 255 := rfl
  rw [Int32.lt_iff_toInt_lt] at h0 h1
  exact own_i2c x (by omega) (by omega)
theorem own_ic {x : Int32} (h0 : ¬ (x < (0 : Int32))) (h1 : ¬ ((255 : Int32) < x)) : x.toUInt32.toUInt16.toUInt32.toInt32 = x := own_nc h0 h1
theorem own_ch8 (x : Int32) : nar .char (((x &&& (255 : Int32)).toUInt32.toUInt16.toUInt32.toInt32)) = (x &&& (255 : Int32)) := by
  have h := c_and x (255 : Int32) (by decide)
  have h2 : (255 : Int32).toInt = 255 := rfl
  rw [own_narc, own_i2c _ h.1 (by omega), own_i2c _ h.1 (by omega)]
theorem own_le255 (x : Int32) : ¬ ((255 : Int32) < (x &&& (255 : Int32))) := by
  have h := c_and x (255 : Int32) (by decide)
  rw [Int32.lt_iff_toInt_lt]; omega
theorem own_ge0 (x : Int32) : ¬ ((x &&& (255 : Int32)) < (0 : Int32)) := by
  have h := c_and x (255 : Int32) (by decide)
  have h2 : (0 : Int32).toInt = 0 := rfl
  rw [Int32.lt_iff_toInt_lt]; omega
theorem own_ob {c d : Int32} (c0 : ¬ (c < (0 : Int32))) (c1 : ¬ ((255 : Int32) < c)) (d0 : ¬ (d < (0 : Int32))) (d1 : ¬ ((255 : Int32) < d)) (h : nar .byte (c.toInt8.toInt32) = nar .byte (d.toInt8.toInt32)) : c = d := by
  have a0 : (0 : Int32).toInt = 0 := rfl
  have a1 : (255 : Int32).toInt = 255 := rfl
  rw [Int32.lt_iff_toInt_lt] at c0 c1 d0 d1
  have e : ∀ x : Int32, (nar .byte (x.toInt8.toInt32)).toInt = x.toInt.bmod 256 := fun x => by
    show (x.toInt8.toInt32.toInt8.toInt32).toInt = _
    rw [Int8.toInt_toInt32, Int32.toInt_toInt8, Int8.toInt_toInt32, Int32.toInt_toInt8]
    simp
  have q : (nar .byte (c.toInt8.toInt32)).toInt = (nar .byte (d.toInt8.toInt32)).toInt := by rw [h]
  rw [e, e] at q
  simp only [Int.bmod] at q
  apply Int32.toInt_inj.mp
  split at q <;> split at q <;> omega
theorem own_ofNat {i n : Nat} {z : Int32} (hz : z.toNatClampNeg = n) (h : i < n) : (Int32.ofNat i) < z ∧ ¬ (Int32.ofNat i) < 0 ∧ (Int32.ofNat i).toNatClampNeg = i := by
  have h1 := Int32.toInt_lt z
  have h2 : z.toInt.toNat = n := hz
  have h3 : (Int32.ofNat i).toInt = i := Int32.toInt_ofNat_small (by omega)
  have a0 : (0 : Int32).toInt = 0 := rfl
  refine ⟨?_, ?_, ?_⟩
  · rw [Int32.lt_iff_toInt_lt, h3]; omega
  · rw [Int32.lt_iff_toInt_lt, h3]; omega
  · show (Int32.ofNat i).toInt.toNat = i
    rw [h3]; rfl
theorem own_ofNatG {i n : Nat} {z : Int32} (hz : z.toNatClampNeg = n) (hn : ¬ z < 0) (h : i = n) : ¬ (Int32.ofNat i) < z := by
  have h1 := Int32.toInt_lt z
  have h2 : z.toInt.toNat = n := hz
  have a0 : (0 : Int32).toInt = 0 := rfl
  rw [Int32.lt_iff_toInt_lt] at hn
  have h3 : (Int32.ofNat i).toInt = i := Int32.toInt_ofNat_small (by omega)
  rw [Int32.lt_iff_toInt_lt, h3]; omega
theorem own_zeq {z w : Int32} {n k : Nat} (hz : z.toNatClampNeg = n) (hw : w.toNatClampNeg = k) (h1 : ¬ z < 0) (h2 : ¬ w < 0) : z = w ↔ n = k := by
  have a0 : (0 : Int32).toInt = 0 := rfl
  have e1 : z.toInt.toNat = n := hz
  have e2 : w.toInt.toNat = k := hw
  rw [Int32.lt_iff_toInt_lt] at h1 h2
  constructor
  · rintro rfl; omega
  · intro h; exact Int32.toInt_inj.mp (by omega)
theorem own_getD (xs : List Int32) (i : Nat) : (xs.map Value.int).getD i (.int (0 : Int32)) = .int (xs.getD i 0) := by
  simp only [List.getD_eq_getElem?_getD, List.getElem?_map]
  cases xs[i]? <;> rfl
theorem own_lists {xs ys : List Int32} (h : xs.length = ys.length) (q : ∀ j, j < xs.length → xs.getD j 0 = ys.getD j 0) : xs = ys := by
  apply List.ext_getElem h
  intro i h1 h2
  have := q i h1
  simpa [List.getD_eq_getElem?_getD, h1, h2] using this
theorem own_succ32 (i : Nat) : Int32.ofNat i + (1 : Int32) = Int32.ofNat (i + 1) := by
  rw [Int32.ofNat_add]; rfl
theorem own_neEE {Z : State} {h : Heap} {x y : Addr} {C D : String} (E : Exa Z h x C) (F : Exa Z h y D) (n : C ≠ D) : x ≠ y := by
  intro q
  subst q
  obtain ⟨c1, k1, e1, e2, -⟩ := E
  obtain ⟨c2, k2, f1, f2, -⟩ := F
  cases e1.symm.trans f1
  obtain ⟨k3, q1, q2⟩ := Vm.findClass_spec e2
  obtain ⟨k4, q3, q4⟩ := Vm.findClass_spec f2
  cases q1.symm.trans q3
  exact n (q2.symm.trans q4)
theorem own_neEV {Z : State} {a0 : Array Value} {h : Heap} {o b : Addr} {C : String} {n : Nat} {k : ClassId} {ty : FieldType} {z : Int32} {vs : List Value} {d : Value} (E : Exa Z h o C) (V : Arv Z h b k ty z vs d) (wi : (Jvm.Cond.instantiable C n).before a0 Z = true) : b ≠ o := by
  intro q
  subst q
  obtain ⟨c1, k1, e1, e2, -⟩ := E
  obtain ⟨c2, ⟨v1, ⟨-, kv, v2, comp, v3⟩, -⟩, -⟩ := V
  cases e1.symm.trans v1
  obtain ⟨t, kt, g1, g2, g3, -⟩ := Cond.instantiable_spec wi
  cases e2.symm.trans g1
  cases v2.symm.trans g2
  rw [v3] at g3
  cases g3
theorem own_neVV {Z : State} {h : Heap} {a b : Addr} {k k' : ClassId} {ty ty' : FieldType} {z z' : Int32} {vs vs' : List Value} {d d' : Value} (V : Arv Z h a k ty z vs d) (W : Arv Z h b k' ty' z' vs' d') (n : ty ≠ ty') : a ≠ b := by
  intro q
  subst q
  obtain ⟨c1, ⟨v1, ⟨-, kv, v2, comp, v3⟩, -⟩, -⟩ := V
  obtain ⟨c2, ⟨w1, ⟨-, kw, w2, comp', w3⟩, -⟩, -⟩ := W
  cases v1.symm.trans w1
  cases v2.symm.trans w2
  rw [v3] at w3
  cases w3
  exact n rfl
theorem own_same {Z : State} {h : Heap} {a1 a2 a3 a4 : Addr} {k3 k4 : ClassId} {z3 z4 : Int32} {xs ys : List Int32} (q : a1 = a2) (F1 : Fld Z h a1 "java/lang/String" "value" "[B" (.ref a3)) (F2 : Fld Z h a2 "java/lang/String" "value" "[B" (.ref a4))
    (V3 : Arv Z h a3 k3 .byte z3 (xs.map Value.int) (.int (0 : Int32))) (V4 : Arv Z h a4 k4 .byte z4 (ys.map Value.int) (.int (0 : Int32))) (h3 : z3.toNatClampNeg = xs.length) (h4 : z4.toNatClampNeg = ys.length) : xs = ys := by
  subst q
  obtain ⟨c1, cf, kf, i, f, e1, e2, -, -, -, -, e7⟩ := F1
  obtain ⟨c2, cf', kf', i', f', f1, f2, -, -, -, -, f7⟩ := F2
  cases e1.symm.trans f1
  cases e2.symm.trans f2
  cases e7.symm.trans f7
  obtain ⟨c3, ⟨v1, -⟩, -, v3, -, v5, -⟩ := V3
  obtain ⟨c4, ⟨w1, -⟩, -, w3, -, w5, -⟩ := V4
  cases v1.symm.trans w1
  refine own_lists (by omega) (fun j hj => ?_)
  have u1 := v5 j (by omega)
  have u2 := w5 j (by omega)
  rw [own_getD] at u1 u2
  exact Value.int.inj (Option.some.inj (u1.symm.trans u2))
def own_sl (n c0 c1 : Int32) : List Int32 := if n = 0 then [] else if n = 1 then [(nar .byte (c0.toInt8.toInt32))] else [(nar .byte (c0.toInt8.toInt32)), (nar .byte (c1.toInt8.toInt32))]
theorem own_one : (1 : Int32).toInt = 1 := rfl
theorem own_zero : (0 : Int32).toInt = 0 := rfl
theorem own_l3 (x : Int32) : 0 ≤ ((x &&& (3 : Int32)) % (3 : Int32)).toInt ∧ ((x &&& (3 : Int32)) % (3 : Int32)).toInt ≤ 2 := by
  have h := c_and x (3 : Int32) (by decide)
  have h2 := (c_irem (x &&& (3 : Int32)) (3 : Int32) 3 rfl).1 h.1
  generalize ((x &&& (3 : Int32)) % (3 : Int32)) = y at h2 ⊢
  omega
theorem own_cases {x : Int32} (h : 0 ≤ x.toInt ∧ x.toInt ≤ 2) : x = 0 ∨ x = 1 ∨ x = 2 := by
  have a2 : (2 : Int32).toInt = 2 := rfl
  rcases (by omega : x.toInt = 0 ∨ x.toInt = 1 ∨ x.toInt = 2) with q | q | q
  · exact Or.inl (Int32.toInt_inj.mp q)
  · exact Or.inr (Or.inl (Int32.toInt_inj.mp q))
  · exact Or.inr (Or.inr (Int32.toInt_inj.mp q))
theorem own_inc {x : Int32} (h : 0 ≤ x.toInt ∧ x.toInt ≤ 2) : (x + (1 : Int32)).toInt = x.toInt + 1 := by
  rcases own_cases h with rfl | rfl | rfl <;> rfl
theorem own_nz {x : Int32} (h : 0 ≤ x.toInt ∧ x.toInt ≤ 2) : x + (1 : Int32) ≠ 0 := by
  rcases own_cases h with rfl | rfl | rfl <;> decide
theorem own_rem {x l : Int32} (hx : 0 ≤ x.toInt) (h : 0 ≤ l.toInt ∧ l.toInt ≤ 2) : 0 ≤ (x % (l + (1 : Int32))).toInt ∧ (x % (l + (1 : Int32))).toInt ≤ l.toInt := by
  have h1 := own_inc h
  have h2 := (c_iremV x (l + (1 : Int32))).1 hx (by omega)
  omega
theorem own_31 (x : Int32) : 0 ≤ (x &&& (31 : Int32)).toInt := (c_and x (31 : Int32) (by decide)).1
theorem own_bit (x : Int32) : (x &&& (1 : Int32)) = 0 ∨ (x &&& (1 : Int32)) = 1 := by
  have h := c_and x (1 : Int32) (by decide)
  rw [own_one] at h
  rcases (by omega : (x &&& (1 : Int32)).toInt = 0 ∨ (x &&& (1 : Int32)).toInt = 1) with q | q
  · exact Or.inl (Int32.toInt_inj.mp q)
  · exact Or.inr (Int32.toInt_inj.mp q)
theorem own_bit2 {x : Int32} (h : x = 0 ∨ x = 1) : 0 ≤ x.toInt ∧ x.toInt ≤ 2 := by rcases h with rfl | rfl <;> decide
theorem own_shr0 (z : Int32) : (z >>> ((0 : Int32) &&& 31)) = z := by
  have : ((0 : Int32) &&& 31) = 0 := by decide
  rw [this]; exact Int32.shiftRight_zero
theorem own_two {x : Int32} (h : 0 ≤ x.toInt ∧ x.toInt ≤ 2) (h0 : ¬ x = 0) (h1 : ¬ x = 1) : x = 2 := by
  rcases own_cases h with q | q | q
  · exact absurd q h0
  · exact absurd q h1
  · exact q
theorem own_z7 {x : Int32} (h : 0 ≤ x.toInt ∧ x.toInt ≤ 2) : ¬ (7 : Int32) < x := by
  rcases own_cases h with rfl | rfl | rfl <;> decide
theorem own_app (ys zs : List Int32) : ys.length ≤ (ys ++ zs).length ∧ ∀ j, j < ys.length → (ys ++ zs).getD j 0 = ys.getD j 0 := ⟨by simp, fun j hj => by simp [List.getD_eq_getElem?_getD, List.getElem?_append_left hj]⟩
theorem own_pre {p l c0 c1 : Int32} (hl : 0 ≤ l.toInt ∧ l.toInt ≤ 2) (hp : 0 ≤ p.toInt ∧ p.toInt ≤ l.toInt) : (own_sl p c0 c1).length ≤ (own_sl l c0 c1).length ∧ ∀ j, j < (own_sl p c0 c1).length → (own_sl l c0 c1).getD j 0 = (own_sl p c0 c1).getD j 0 := by
  have hp2 : 0 ≤ p.toInt ∧ p.toInt ≤ 2 := by omega
  have a2 : (2 : Int32).toInt = 2 := rfl
  have s0 : own_sl 0 c0 c1 = [] := by unfold own_sl; rw [if_pos rfl]
  have s1 : own_sl 1 c0 c1 = [(nar .byte (c0.toInt8.toInt32))] := by unfold own_sl; rw [if_neg (by decide), if_pos rfl]
  have s2 : own_sl 2 c0 c1 = [(nar .byte (c0.toInt8.toInt32)), (nar .byte (c1.toInt8.toInt32))] := by unfold own_sl; rw [if_neg (by decide), if_neg (by decide)]
  rcases own_cases hl with rfl | rfl | rfl <;> rcases own_cases hp2 with rfl | rfl | rfl
  · rw [s0]; exact own_app [] []
  · exact absurd hp.2 (by decide)
  · exact absurd hp.2 (by decide)
  · rw [s0, s1]; exact own_app [] [_]
  · rw [s1]; exact own_app [_] []
  · exact absurd hp.2 (by decide)
  · rw [s0, s2]; exact own_app [] [_, _]
  · rw [s1, s2]; exact own_app [_] [_]
  · rw [s2]; exact own_app [_, _] []
theorem own_sp {l m c0 c1 d0 d1 : Int32} (hl : 0 ≤ l.toInt ∧ l.toInt ≤ 2) (hm : 0 ≤ m.toInt ∧ m.toInt ≤ 2) (g0 : ¬ c0 < 0) (b0 : ¬ 255 < c0) (g1 : ¬ c1 < 0) (b1 : ¬ 255 < c1) (e0 : ¬ d0 < 0) (f0 : ¬ 255 < d0) (e1 : ¬ d1 < 0) (f1 : ¬ 255 < d1) :
    own_sl l c0 c1 = own_sl m d0 d1 ↔ l = m ∧ (l < 1 ∨ c0 = d0) ∧ (l < 2 ∨ c1 = d1) := by
  have s0 : ∀ c0 c1, own_sl 0 c0 c1 = [] := fun _ _ => by unfold own_sl; rw [if_pos rfl]
  have s1 : ∀ c0 c1, own_sl 1 c0 c1 = [(nar .byte (c0.toInt8.toInt32))] := fun _ _ => by unfold own_sl; rw [if_neg (by decide), if_pos rfl]
  have s2 : ∀ c0 c1, own_sl 2 c0 c1 = [(nar .byte (c0.toInt8.toInt32)), (nar .byte (c1.toInt8.toInt32))] := fun _ _ => by unfold own_sl; rw [if_neg (by decide), if_neg (by decide)]
  rcases own_cases hl with rfl | rfl | rfl <;> rcases own_cases hm with rfl | rfl | rfl
  · rw [s0, s0]; exact ⟨fun _ => ⟨rfl, Or.inl (by decide), Or.inl (by decide)⟩, fun _ => rfl⟩
  · rw [s0, s1]; exact ⟨fun q => absurd q.symm (List.cons_ne_nil _ _), fun q => absurd q.1 (by decide)⟩
  · rw [s0, s2]; exact ⟨fun q => absurd q.symm (List.cons_ne_nil _ _), fun q => absurd q.1 (by decide)⟩
  · rw [s1, s0]; exact ⟨fun q => absurd q (List.cons_ne_nil _ _), fun q => absurd q.1 (by decide)⟩
  · rw [s1, s1]; exact ⟨fun q => ⟨rfl, Or.inr (own_ob g0 b0 e0 f0 (List.cons.inj q).1), Or.inl (by decide)⟩, fun q => by rw [q.2.1.resolve_left (by decide)]⟩
  · rw [s1, s2]; exact ⟨fun q => absurd (List.cons.inj q).2.symm (List.cons_ne_nil _ _), fun q => absurd q.1 (by decide)⟩
  · rw [s2, s0]; exact ⟨fun q => absurd q (List.cons_ne_nil _ _), fun q => absurd q.1 (by decide)⟩
  · rw [s2, s1]; exact ⟨fun q => absurd (List.cons.inj q).2 (List.cons_ne_nil _ _), fun q => absurd q.1 (by decide)⟩
  · rw [s2, s2]; exact ⟨fun q => ⟨rfl, Or.inr (own_ob g0 b0 e0 f0 (List.cons.inj q).1), Or.inr (own_ob g1 b1 e1 f1 (List.cons.inj (List.cons.inj q).2).1)⟩, fun q => by rw [q.2.1.resolve_left (by decide), q.2.2.resolve_left (by decide)]⟩
theorem own_sr {k j c d : Int32} (hk : k = 0 ∨ k = 1) (hj : j = 0 ∨ j = 1) (g0 : ¬ c < 0) (b0 : ¬ 255 < c) (e0 : ¬ d < 0) (f0 : ¬ 255 < d) : own_sl k c c = own_sl j d d ↔ k = j ∧ (k = 0 ∨ c = d) := by
  rw [own_sp (own_bit2 hk) (own_bit2 hj) g0 b0 g0 b0 e0 f0 e0 f0]
  rcases hk with rfl | rfl
  · exact ⟨fun q => ⟨q.1, Or.inl rfl⟩, fun q => ⟨q.1, Or.inl (by decide), Or.inl (by decide)⟩⟩
  · exact ⟨fun q => ⟨q.1, Or.inr (q.2.1.resolve_left (by decide))⟩, fun q => ⟨q.1, Or.inr (q.2.resolve_left (by decide)), Or.inl (by decide)⟩⟩
def own_E (xs ys : List Int32) (u v : Int32) (xr yr : List Int32) (u4 v4 d1 d2 : Int32) : Int32 := if xs = ys then (if u = v then (if xr = yr then (if u4 = v4 then (if d1 = d2 then (1 : Int32) else (0 : Int32)) else (0 : Int32)) else (0 : Int32)) else (0 : Int32)) else (0 : Int32)
theorem own_Esym (xs ys : List Int32) (u v : Int32) (xr yr : List Int32) (u4 v4 d1 d2 : Int32) : own_E ys xs v u yr xr v4 u4 d2 d1 = own_E xs ys u v xr yr u4 v4 d1 d2 := by
  unfold own_E
  by_cases h1 : xs = ys
  · rw [if_pos h1, if_pos h1.symm]
    by_cases h2 : u = v
    · rw [if_pos h2, if_pos h2.symm]
      by_cases h3 : xr = yr
      · rw [if_pos h3, if_pos h3.symm]
        by_cases h4 : u4 = v4
        · rw [if_pos h4, if_pos h4.symm]
          by_cases h5 : d1 = d2
          · rw [if_pos h5, if_pos h5.symm]
          · rw [if_neg h5, if_neg (fun q => h5 q.symm)]
        · rw [if_neg h4, if_neg (fun q => h4 q.symm)]
      · rw [if_neg h3, if_neg (fun q => h3 q.symm)]
    · rw [if_neg h2, if_neg (fun q => h2 q.symm)]
  · rw [if_neg h1, if_neg (fun q => h1 q.symm)]
theorem own_Eself (xs : List Int32) (u : Int32) (xr : List Int32) (u4 d1 : Int32) : own_E xs xs u u xr xr u4 u4 d1 d1 = 1 := by
  unfold own_E
  rw [if_pos rfl, if_pos rfl, if_pos rfl, if_pos rfl, if_pos rfl]
theorem own_notInst2 {Z : State} {a0 : Array Value} {C S R K : String} {n : Nat} (w : (Jvm.Cond.superclass C S).before a0 Z = true) (w2 : (Jvm.Cond.superclass S R).before a0 Z = true) (wr : (Jvm.Cond.noSuperclass R).before a0 Z = true) (wi : (Jvm.Cond.instantiable K n).before a0 Z = true) (h1 : C ≠ K) (h2 : S ≠ K) (h3 : R ≠ K) : ∃ c t, Z.vm.findClass C = some c ∧ Z.vm.findClass K = some t ∧ Z.vm.assignable c t = false := by
  obtain ⟨t, kt, g1, g2, g3, g4, -, -⟩ := Cond.instantiable_spec wi
  obtain ⟨r, kr, r1, r2, r3, -, -⟩ := Cond.noSuperclass_spec wr
  have hroot : NS Z R K := ⟨r, t, r1, g1, fun fuel => by
    have ne := ids_ne r1 g1 h3
    cases fuel with
    | zero => rfl
    | succ f => simp [Vm.isSubclassAux, ne, r2, r3]⟩
  obtain ⟨c, t', q1, q2, q3⟩ := NS.step w (NS.step w2 hroot h2) h1
  cases g1.symm.trans q2
  obtain ⟨p, k, kp, s1, s2, s3, s4, s5, -, s7⟩ := Cond.superclass_spec q1 w
  have ne := ids_ne q1 g1 h1
  have g5 : kt.isInterface = false := by
    cases hq : kt.isInterface
    · rfl
    · rw [hq] at g4; simp at g4
  refine ⟨c, t, q1, g1, ?_⟩
  show Z.vm.assignableAux (255 + 1) c t = false
  simp [Vm.assignableAux, ne, s2, g2, s5, g3, g5, Vm.isSubclass, q3]
def Q_rmC2_1 (Z : State) (a1 a2 : Addr) (k1 k2 : ClassId) (c0 : Int32) (h0 : Heap) (n0 : Nat) : Option Value → Heap → List Loc → Prop := fun v h L => v = some (.int (1 : Int32)) ∧ Fr n0 L ∧ Keep h0 h [a2] ∧ Arv Z h a2 k2 .byte (1 : Int32) [(.int (nar .byte (c0.toInt8.toInt32)))] (.int (0 : Int32))
set_option maxRecDepth 65536 in
set_option maxHeartbeats 40000000 in
theorem rmC2_1 (l : Launch) (Z : State) (a0 : Array Value) (hw : ∀ d ∈ tables_1, d.before a0 Z = true) (ws : List Jvm.Cond) (a1 a2 : Addr) (k1 k2 : ClassId) (c0 : Int32) (h0 : Heap) (n0 : Nat) (O : Old Z n0 h0) (V_a1 : Arv Z h0 a1 k1 .char (1 : Int32) [(.int c0)] (.int (0 : Int32))) (V_a2 : Arv Z h0 a2 k2 .byte (1 : Int32) [(.int (0 : Int32))] (.int (0 : Int32))) (g_a2 : n0 ≤ a2) (ne_a1_a2 : a1 ≠ a2) (hb0 : ¬ ((255 : Int32) < c0)) :
    MetFree l (⟨"java/lang/StringUTF16", "compress", "([CI[BII)I"⟩ : MethodName) (head1 (Jvm.Cond.code (⟨"java/lang/StringUTF16", "compress", "([CI[BII)I"⟩ : MethodName) jdk_52_method_21_code 7 (some .int) :: ws) ({ frames := 0, cells := 0, slots := 0, locals := 0 } : Room)) (fun a U => a = #[(.ref a1), (.int (0 : Int32)), (.ref a2), (.int (0 : Int32)), (.int (1 : Int32))] ∧ Z.Warmed39 U.vm ∧ U.heap = h0) (fun _ _ _ _ _ => True) (fun _ U o U' => ∃ v L, o = .returned v ∧ (Q_rmC2_1 Z a1 a2 k1 k2 c0 h0 n0) v U'.heap L ∧ FrameEnd U o U' L ({ frames := 0, cells := 0, slots := 0, locals := 0 } : Room).cells ({ frames := 0, cells := 0, slots := 0, locals := 0 } : Room).slots) := by
  refine MetFree.of_bodySF (plainFor_of_name pn_0) hisR ?_
  intro p e s m args below meth c s₁ Bd hml0 hP hK
  obtain ⟨rfl, hZ, hh⟩ := hP
  have hx := Bd.exec
  have hby := Bd.bytes
  have hml : c.maxLocals = 7 := hml0
  have hown : s.vm.findClass "java/lang/StringUTF16" = some m.cls := findClass_of_methodNamed Bd.named
  have hnm := (name_of_methodNamed Bd.named Bd.method).1
  have hlk := BodyLoose.notSynchronized Bd
  have X0 : Stand p l e ({ frames := 0, cells := 0, slots := 0, locals := 0 } : Room) s m #[(.ref a1), (.int (0 : Int32)), (.ref a2), (.int (0 : Int32)), (.int (1 : Int32))] below meth c s₁ [] 0 0 := Stand.of_body Bd
  have e0 : s₁.heap = h0 := by rw [← hh, Bd.state]; rfl
  have N := Fr.nil n0
  have K := Keep.refl h0 [a2]
  obtain ⟨G, hG⟩ : ∃ G : State → JFrame → Prop, G = OwnG p e below s ({ frames := 0, cells := 0, slots := 0, locals := 0 } : Room).cells ({ frames := 0, cells := 0, slots := 0, locals := 0 } : Room).slots (Q_rmC2_1 Z a1 a2 k1 k2 c0 h0 n0) := ⟨_, rfl⟩
  have gb : ∀ {T T' : State} {g g' : JFrame}, (∀ t, Steps p.tables e below (T'.setTop g') t → Steps p.tables e below (T.setTop g) t) → G T' g' → G T g := by subst hG; exact fun k h => own_by k h
  have go : ∀ {T : State} {locs : List Loc} {cells slots : Nat} {g : JFrame} {v : Option Value}, Stand p l e ({ frames := 0, cells := 0, slots := 0, locals := 0 } : Room) s m #[(.ref a1), (.int (0 : Int32)), (.ref a2), (.int (0 : Int32)), (.int (1 : Int32))] below meth c T locs cells slots → (meth.sig.returnType = none → v = none) → (∀ fs, (∀ (f : JFrame) (acts : List Action), f.method = m → f.locked = none → f.entered = [] → (doReturn e (T.setTop f) acts v).1 = T.setFrames fs) → Steps p.tables e below (T.setTop g) (T.setFrames fs)) → (Q_rmC2_1 Z a1 a2 k1 k2 c0 h0 n0) v T.heap locs → cells ≤ ({ frames := 0, cells := 0, slots := 0, locals := 0 } : Room).cells → slots ≤ ({ frames := 0, cells := 0, slots := 0, locals := 0 } : Room).slots → G T g := by subst hG; exact fun X h1 h2 h3 h4 h5 => own_out X hlk h1 h2 h3 h4 h5
  show OwnG p e below s ({ frames := 0, cells := 0, slots := 0, locals := 0 } : Room).cells ({ frames := 0, cells := 0, slots := 0, locals := 0 } : Room).slots (Q_rmC2_1 Z a1 a2 k1 k2 c0 h0 n0) s₁ (entryFrame m #[(.ref a1), (.int (0 : Int32)), (.ref a2), (.int (0 : Int32)), (.int (1 : Int32))] 7)
  rw [← hG, ef_rmC2_1 m a1 (0 : Int32) a2 (0 : Int32) (1 : Int32)]
  clear hG
  show G s₁ (mkF m 0 #[.val (.ref a1), .val (.int (0 : Int32)), .val (.ref a2), .val (.int (0 : Int32)), .val (.int (1 : Int32)), .unset, .unset] [])
  refine gb (fun _ k => XS.iconst X0.here hx rfl (hb hby d16_0) (XS.istore X0.here hx rfl (hb hby d16_1) rfl (l' := #[rv a1, iv 0, rv a2, iv 0, iv 1, iv 0, .unset]) rfl (XS.iload X0.here hx rfl (hb hby d16_3) rfl (XS.iload X0.here hx rfl (hb hby d16_5) rfl (XS.icmpNo X0.here hx rfl (hb hby d16_7) rfl (tlt (by decide : (0 : Int32) < (1 : Int32))).2.1 (XS.aloadN X0.here hx rfl (hb hby d16_10) rfl rfl k)))))) ?_
  show G s₁ (mkF m 11 #[rv a1, iv 0, rv a2, iv 0, iv 1, iv 0, .unset] [.ref a1])
  refine gb (fun _ k => XS.iloadN X0.here hx rfl (hb hby d16_11) rfl k) ?_
  show G s₁ (mkF m 12 #[rv a1, iv 0, rv a2, iv 0, iv 1, iv 0, .unset] [.int 0, .ref a1])
  have V'1 := V_a1
  obtain ⟨cl1, Ar1, qk1, sz1, nn1, hs1, ft1⟩ := V'1
  have hin1 : ¬ ((0 : Int32) < 0 ∨ cl1.slots.size ≤ ((0 : Int32)).toNatClampNeg) := inb_of sz1 ⟨by decide, by decide⟩
  have hat1 : cl1.slots[((0 : Int32)).toNatClampNeg]? = some (.int c0) := hs1.at hin1 rfl
  refine gb (X0.caload hx (j := (0 : Int32)) (v := (.int c0)) (by rw [e0]; exact Ar1.1) (State.isArrayOf_alike hZ.alike Ar1.2.1) Ar1.2.2 hin1 hat1 (g := (mkF m 12 #[rv a1, iv 0, rv a2, iv 0, iv 1, iv 0, .unset] [.int 0, .ref a1])) rfl rfl (hb hby d16_12)) ?_
  show G s₁ (mkF m 13 #[rv a1, iv 0, rv a2, iv 0, iv 1, iv 0, .unset] [.int c0])
  refine gb (fun _ k => XS.istore X0.here hx rfl (hb hby d16_13) rfl (l' := #[rv a1, iv 0, rv a2, iv 0, iv 1, iv 0, iv c0]) rfl (XS.iload X0.here hx rfl (hb hby d16_15) rfl (XS.sipush X0.here hx rfl (hb hby d16_17) (XS.icmpYes X0.here hx rfl (pc0 := 20) (pc' := 26) rfl (hb hby d16_20) rfl (flt hb0).2.2.2 (by decide) (by decide) (XS.aloadN X0.here hx rfl (hb hby d16_26) rfl rfl (XS.iloadN X0.here hx rfl (hb hby d16_27) rfl k)))))) ?_
  show G s₁ (mkF m 28 #[rv a1, iv 0, rv a2, iv 0, iv 1, iv 0, iv c0] [.int 0, .ref a2])
  refine gb (fun _ k => XS.iload X0.here hx rfl (hb hby d16_28) rfl (XS.i2b X0.here hx rfl (hb hby d16_30) rfl k)) ?_
  show G s₁ (mkF m 31 #[rv a1, iv 0, rv a2, iv 0, iv 1, iv 0, iv c0] [.int (c0.toInt8.toInt32), .int 0, .ref a2])
  have V'2 := V_a2
  obtain ⟨cl2, Ar2, qk2, sz2, nn2, hs2, ft2⟩ := V'2
  have hin2 : ¬ ((0 : Int32) < 0 ∨ cl2.slots.size ≤ ((0 : Int32)).toNatClampNeg) := inb_of sz2 ⟨by decide, by decide⟩
  obtain ⟨T3, h3, X3, e3, W3, st3⟩ := stB X0 hx hZ e0 Ar2 (j := (0 : Int32)) hin2 (g := (mkF m 31 #[rv a1, iv 0, rv a2, iv 0, iv 1, iv 0, iv c0] [.int (c0.toInt8.toInt32), .int 0, .ref a2])) rfl rfl (hb hby d16_31)
  have V_a2 : Arv Z h3 a2 k2 .byte (1 : Int32) [(.int (nar .byte (c0.toInt8.toInt32)))] (.int (0 : Int32)) := Arv.set Ar2 qk2 sz2 nn2 hs2 ft2 (fits_nar_byte _) W3 0 rfl (Nat.le_of_ble_eq_true rfl)
  have V_a1 := V_a1.other W3 ne_a1_a2
  have O := O.wr W3 g_a2
  have K := K.wr W3 (Or.inl (List.mem_of_getElem? (i := 0) rfl))
  have N := Fr.snoc X3 N g_a2
  refine gb st3 ?_
  show G T3 (mkF m 32 #[rv a1, iv 0, rv a2, iv 0, iv 1, iv 0, iv c0] [])
  refine gb (fun _ k => XS.iinc X3.here hx rfl (hb hby d16_32) rfl (l' := #[rv a1, iv 1, rv a2, iv 0, iv 1, iv 0, iv c0]) rfl (XS.iinc X3.here hx rfl (hb hby d16_35) rfl (l' := #[rv a1, iv 1, rv a2, iv 1, iv 1, iv 0, iv c0]) rfl (XS.iinc X3.here hx rfl (hb hby d16_38) rfl (l' := #[rv a1, iv 1, rv a2, iv 1, iv 1, iv 1, iv c0]) rfl (XS.goto X3.here hx rfl (pc0 := 41) (pc' := 3) rfl (hb hby d16_41) (by decide) (by decide) (XS.iload X3.here hx rfl (hb hby d16_3) rfl (XS.iload X3.here hx rfl (hb hby d16_5) rfl k)))))) ?_
  show G T3 (mkF m 7 #[rv a1, iv 1, rv a2, iv 1, iv 1, iv 1, iv c0] [.int 1, .int 1])
  refine gb (fun _ k => XS.icmpYes X3.here hx rfl (pc0 := 7) (pc' := 44) rfl (hb hby d16_7) rfl (flt (by decide : ¬ ((1 : Int32) < (1 : Int32)))).2.1 (by decide) (by decide) (XS.iload X3.here hx rfl (hb hby d16_44) rfl k)) ?_
  show G T3 (mkF m 46 #[rv a1, iv 1, rv a2, iv 1, iv 1, iv 1, iv c0] [.int 1])
  exact go X3 (v := (some (.int (1 : Int32)))) (fun h => by rw [Bd.returns] at h; cases h) (fun fs hr => retOut X3 hx Bd.returns rfl (Or.inl ⟨rfl, by simp, _, rfl⟩) (hb hby d16_46) hr) (by rw [e3]; exact ⟨rfl, N, K, V_a2⟩) (by decide) (by decide)
def Q_rmC1_1 (Z : State) (a1 : Addr) (k1 : ClassId) (c0 : Int32) (h0 : Heap) (n0 : Nat) : Option Value → Heap → List Loc → Prop := fun v h L => ∃ (b : Addr) (kb : ClassId), v = some (.ref b) ∧ Fr n0 L ∧ Keep h0 h [] ∧ n0 ≤ b ∧ h0.size ≤ b ∧ Arv Z h b kb .byte (1 : Int32) [(.int (nar .byte (c0.toInt8.toInt32)))] (.int (0 : Int32))
set_option maxRecDepth 65536 in
set_option maxHeartbeats 40000000 in
theorem rmC1_1 (l : Launch) (Z : State) (a0 : Array Value) (hw : ∀ d ∈ tables_1, d.before a0 Z = true) (ws : List Jvm.Cond) (a1 : Addr) (k1 : ClassId) (c0 : Int32) (h0 : Heap) (n0 : Nat) (O : Old Z n0 h0) (V_a1 : Arv Z h0 a1 k1 .char (1 : Int32) [(.int c0)] (.int (0 : Int32))) (hb0 : ¬ ((255 : Int32) < c0)) :
    MetFree l (⟨"java/lang/StringUTF16", "compress", "([CII)[B"⟩ : MethodName) (head1 (Jvm.Cond.code (⟨"java/lang/StringUTF16", "compress", "([CII)[B"⟩ : MethodName) jdk_52_method_16_code 6 (some (.array .byte)) :: ws) ({ frames := 1, cells := 1, slots := 1, locals := 18 } : Room)) (fun a U => a = #[(.ref a1), (.int (0 : Int32)), (.int (1 : Int32))] ∧ Z.Warmed39 U.vm ∧ U.heap = h0) (fun _ _ _ _ _ => True) (fun _ U o U' => ∃ v L, o = .returned v ∧ (Q_rmC1_1 Z a1 k1 c0 h0 n0) v U'.heap L ∧ FrameEnd U o U' L ({ frames := 1, cells := 1, slots := 1, locals := 18 } : Room).cells ({ frames := 1, cells := 1, slots := 1, locals := 18 } : Room).slots) := by
  refine MetFree.of_bodySF (plainFor_of_name pn_0) hisR ?_
  intro p e s m args below meth c s₁ Bd hml0 hP hK
  obtain ⟨rfl, hZ, hh⟩ := hP
  have hx := Bd.exec
  have hby := Bd.bytes
  have hml : c.maxLocals = 6 := hml0
  have hown : s.vm.findClass "java/lang/StringUTF16" = some m.cls := findClass_of_methodNamed Bd.named
  have hnm := (name_of_methodNamed Bd.named Bd.method).1
  have hlk := BodyLoose.notSynchronized Bd
  have X0 : Stand p l e ({ frames := 1, cells := 1, slots := 1, locals := 18 } : Room) s m #[(.ref a1), (.int (0 : Int32)), (.int (1 : Int32))] below meth c s₁ [] 0 0 := Stand.of_body Bd
  have e0 : s₁.heap = h0 := by rw [← hh, Bd.state]; rfl
  have N := Fr.nil n0
  have K := Keep.refl h0 []
  obtain ⟨G, hG⟩ : ∃ G : State → JFrame → Prop, G = OwnG p e below s ({ frames := 1, cells := 1, slots := 1, locals := 18 } : Room).cells ({ frames := 1, cells := 1, slots := 1, locals := 18 } : Room).slots (Q_rmC1_1 Z a1 k1 c0 h0 n0) := ⟨_, rfl⟩
  have gb : ∀ {T T' : State} {g g' : JFrame}, (∀ t, Steps p.tables e below (T'.setTop g') t → Steps p.tables e below (T.setTop g) t) → G T' g' → G T g := by subst hG; exact fun k h => own_by k h
  have go : ∀ {T : State} {locs : List Loc} {cells slots : Nat} {g : JFrame} {v : Option Value}, Stand p l e ({ frames := 1, cells := 1, slots := 1, locals := 18 } : Room) s m #[(.ref a1), (.int (0 : Int32)), (.int (1 : Int32))] below meth c T locs cells slots → (meth.sig.returnType = none → v = none) → (∀ fs, (∀ (f : JFrame) (acts : List Action), f.method = m → f.locked = none → f.entered = [] → (doReturn e (T.setTop f) acts v).1 = T.setFrames fs) → Steps p.tables e below (T.setTop g) (T.setFrames fs)) → (Q_rmC1_1 Z a1 k1 c0 h0 n0) v T.heap locs → cells ≤ ({ frames := 1, cells := 1, slots := 1, locals := 18 } : Room).cells → slots ≤ ({ frames := 1, cells := 1, slots := 1, locals := 18 } : Room).slots → G T g := by subst hG; exact fun X h1 h2 h3 h4 h5 => own_out X hlk h1 h2 h3 h4 h5
  show OwnG p e below s ({ frames := 1, cells := 1, slots := 1, locals := 18 } : Room).cells ({ frames := 1, cells := 1, slots := 1, locals := 18 } : Room).slots (Q_rmC1_1 Z a1 k1 c0 h0 n0) s₁ (entryFrame m #[(.ref a1), (.int (0 : Int32)), (.int (1 : Int32))] 6)
  rw [← hG, ef_rmC1_1 m a1 (0 : Int32) (1 : Int32)]
  clear hG
  show G s₁ (mkF m 0 #[.val (.ref a1), .val (.int (0 : Int32)), .val (.int (1 : Int32)), .unset, .unset, .unset] [])
  refine gb (fun _ k => XS.iloadN X0.here hx rfl (hb hby d15_0) rfl k) ?_
  show G s₁ (mkF m 1 #[rv a1, iv 0, iv 1, .unset, .unset, .unset] [.int 1])
  obtain ⟨T1, h1, kA1, X1, e1, E1, A1, st1⟩ := newP X0 hx hZ (ow hw 10 rfl) e0 (g := (mkF m 1 #[rv a1, iv 0, iv 1, .unset, .unset, .unset] [.int 1])) rfl (hb hby d15_1) rfl (by decide) (cap := 1) (by decide) (by decide) (by decide) (by decide)
  obtain ⟨b1, g1⟩ : ∃ z, z = h0.size := ⟨_, rfl⟩
  rw [← g1] at A1 st1
  have g_b1 : n0 ≤ b1 := Nat.le_trans (by have := O.2.1; rw [O.1] at this; exact this) (Nat.le_of_eq g1.symm)
  have sz_b1 : h0.size ≤ b1 := Nat.le_trans K.1 (Nat.le_of_eq g1.symm)
  have ne_a1_b1 : a1 ≠ b1 := Nat.ne_of_lt (Nat.lt_of_lt_of_le V_a1.lt (Nat.le_of_eq g1.symm))
  have V_a1 := V_a1.ext E1
  have O := O.ext E1
  have K := K.ext E1
  have V_b1 : Arv Z h1 b1 kA1 .byte (1 : Int32) [(.int (0 : Int32))] (.int (0 : Int32)) := (Arv.new A1 (by decide)).pad (pad_rep [] (.int (0 : Int32)) 1)
  refine gb st1 ?_
  show G T1 (mkF m 3 #[rv a1, iv 0, iv 1, .unset, .unset, .unset] [.ref b1])
  refine gb (fun _ k => XS.astoreN X1.here hx rfl (hb hby d15_3) rfl rfl (l' := #[rv a1, iv 0, iv 1, rv b1, .unset, .unset]) rfl (XS.aloadN X1.here hx rfl (hb hby d15_4) rfl rfl (XS.iloadN X1.here hx rfl (hb hby d15_5) rfl (XS.aloadN X1.here hx rfl (hb hby d15_6) rfl rfl (XS.iconst X1.here hx rfl (hb hby d15_7) (XS.iloadN X1.here hx rfl (hb hby d15_8) rfl k)))))) ?_
  show G T1 (mkF m 9 #[rv a1, iv 0, iv 1, rv b1, .unset, .unset] [.int 1, .int 0, .ref b1, .int 0, .ref a1])
  obtain ⟨_, _, ⟨T2, Lz2, kz2, nz2⟩, -, X2, ⟨Lc2, hQ2, lq2, yq2, zq2⟩, st2⟩ := Jvm.LawKit.callS X1 hx (y := (⟨"java/lang/StringUTF16", "compress", "([CI[BII)I"⟩ : MethodName)) hown (mvT hZ (ow hw 101 rfl)) (mvT hZ (ow hw 102 rfl)) (mvT hZ (ow hw 99 rfl)) (mvT hZ (ow hw 103 rfl)) (by decide) (backOf (W := 0) (rmC2_1 l Z a0 hw [] a1 b1 k1 kA1 c0 h1 n0 O V_a1 V_b1 g_b1 ne_a1_b1 hb0) hZ (ow hw 103 rfl) (ow hw 99 rfl) (by decide) (by decide)) (g := (mkF m 9 #[rv a1, iv 0, iv 1, rv b1, .unset, .unset] [.int 1, .int 0, .ref b1, .int 0, .ref a1])) rfl (by rw [hml]; rfl) (argsL := [(.ref a1), (.int (0 : Int32)), (.ref b1), (.int (0 : Int32)), (.int (1 : Int32))]) (rest := []) (lenOf pd_0 rfl) rfl (by show 2 * 0 + _ ≤ _; exact Nat.le_of_eq rfl) (hb hby d15_9) (fun _ _ => ⟨rfl, e1, (by decide : 1 + 0 ≤ _), (by decide : 1 + 0 ≤ _)⟩)
  dsimp only [Pt.U, Pt.locs, Pt.cells, Pt.slots] at X2 lq2 yq2 zq2 st2 hQ2
  subst lq2 yq2 zq2
  obtain ⟨h2, e2⟩ : ∃ z, z = T2.heap := ⟨_, rfl⟩
  rw [← e2] at hQ2
  replace e2 := e2.symm
  obtain ⟨rfl, Nq2, Kq2, hR2⟩ := hQ2
  have N := Fr.app N Nq2
  have V_a1 := V_a1.keep Kq2 (ninS ne_a1_b1 nin0)
  have V_b1 := hR2
  have O := O.keep Kq2 (allS g_b1 all0)
  have K := K.trans Kq2 (allS (Or.inr sz_b1) all0)
  refine gb st2 ?_
  show G T2 (mkF m 12 #[rv a1, iv 0, iv 1, rv b1, .unset, .unset] [.int 1])
  refine gb (fun _ k => XS.istore X2.here hx rfl (hb hby d15_12) rfl (l' := #[rv a1, iv 0, iv 1, rv b1, iv 1, .unset]) rfl (XS.iload X2.here hx rfl (hb hby d15_14) rfl (XS.iloadN X2.here hx rfl (hb hby d15_16) rfl (XS.icmpYes X2.here hx rfl (pc0 := 17) (pc' := 57) rfl (hb hby d15_17) rfl (teq (by decide : (1 : Int32) = (1 : Int32))).1 (by decide) (by decide) (XS.aloadN X2.here hx rfl (hb hby d15_57) rfl rfl k))))) ?_
  show G T2 (mkF m 58 #[rv a1, iv 0, iv 1, rv b1, iv 1, .unset] [.ref b1])
  exact go X2 (v := (some (.ref b1))) (fun h => by rw [Bd.returns] at h; cases h) (fun fs hr => retOut X2 hx Bd.returns rfl (Or.inr (Or.inr (Or.inr (Or.inr ⟨rfl, rfl, rfl⟩)))) (hb hby d15_58) hr) (by rw [e2]; exact ⟨_, _, rfl, N, K, g_b1, sz_b1, V_b1⟩) (by decide) (by decide)
def Q_rmCo_1 (Z : State) (a1 : Addr) (k1 : ClassId) (vs1 : List Value) (h0 : Heap) (n0 : Nat) : Option Value → Heap → List Loc → Prop := fun v h L => v = some (.int (0 : Int32)) ∧ L = [] ∧ h = h0
set_option maxRecDepth 65536 in
set_option maxHeartbeats 40000000 in
theorem rmCo_1 (l : Launch) (Z : State) (a0 : Array Value) (hw : ∀ d ∈ tables_1, d.before a0 Z = true) (ws : List Jvm.Cond) (a1 : Addr) (k1 : ClassId) (vs1 : List Value) (h0 : Heap) (n0 : Nat) (O : Old Z n0 h0) (V_a1 : Arv Z h0 a1 k1 .byte (1 : Int32) vs1 (.int (0 : Int32))) :
    MetFree l (⟨"java/lang/StringUTF16", "coderFromArrayLen", "([BI)B"⟩ : MethodName) (head1 (Jvm.Cond.code (⟨"java/lang/StringUTF16", "coderFromArrayLen", "([BI)B"⟩ : MethodName) jdk_52_method_15_code 2 (some .byte) :: ws) ({ frames := 0, cells := 0, slots := 0, locals := 0 } : Room)) (fun a U => a = #[(.ref a1), (.int (1 : Int32))] ∧ Z.Warmed39 U.vm ∧ U.heap = h0) (fun _ _ _ _ _ => True) (fun _ U o U' => ∃ v L, o = .returned v ∧ (Q_rmCo_1 Z a1 k1 vs1 h0 n0) v U'.heap L ∧ FrameEnd U o U' L ({ frames := 0, cells := 0, slots := 0, locals := 0 } : Room).cells ({ frames := 0, cells := 0, slots := 0, locals := 0 } : Room).slots) := by
  refine MetFree.of_bodySF (plainFor_of_name pn_0) hisR ?_
  intro p e s m args below meth c s₁ Bd hml0 hP hK
  obtain ⟨rfl, hZ, hh⟩ := hP
  have hx := Bd.exec
  have hby := Bd.bytes
  have hml : c.maxLocals = 2 := hml0
  have hown : s.vm.findClass "java/lang/StringUTF16" = some m.cls := findClass_of_methodNamed Bd.named
  have hnm := (name_of_methodNamed Bd.named Bd.method).1
  have hlk := BodyLoose.notSynchronized Bd
  have X0 : Stand p l e ({ frames := 0, cells := 0, slots := 0, locals := 0 } : Room) s m #[(.ref a1), (.int (1 : Int32))] below meth c s₁ [] 0 0 := Stand.of_body Bd
  have e0 : s₁.heap = h0 := by rw [← hh, Bd.state]; rfl
  have N := Fr.nil n0
  obtain ⟨G, hG⟩ : ∃ G : State → JFrame → Prop, G = OwnG p e below s ({ frames := 0, cells := 0, slots := 0, locals := 0 } : Room).cells ({ frames := 0, cells := 0, slots := 0, locals := 0 } : Room).slots (Q_rmCo_1 Z a1 k1 vs1 h0 n0) := ⟨_, rfl⟩
  have gb : ∀ {T T' : State} {g g' : JFrame}, (∀ t, Steps p.tables e below (T'.setTop g') t → Steps p.tables e below (T.setTop g) t) → G T' g' → G T g := by subst hG; exact fun k h => own_by k h
  have go : ∀ {T : State} {locs : List Loc} {cells slots : Nat} {g : JFrame} {v : Option Value}, Stand p l e ({ frames := 0, cells := 0, slots := 0, locals := 0 } : Room) s m #[(.ref a1), (.int (1 : Int32))] below meth c T locs cells slots → (meth.sig.returnType = none → v = none) → (∀ fs, (∀ (f : JFrame) (acts : List Action), f.method = m → f.locked = none → f.entered = [] → (doReturn e (T.setTop f) acts v).1 = T.setFrames fs) → Steps p.tables e below (T.setTop g) (T.setFrames fs)) → (Q_rmCo_1 Z a1 k1 vs1 h0 n0) v T.heap locs → cells ≤ ({ frames := 0, cells := 0, slots := 0, locals := 0 } : Room).cells → slots ≤ ({ frames := 0, cells := 0, slots := 0, locals := 0 } : Room).slots → G T g := by subst hG; exact fun X h1 h2 h3 h4 h5 => own_out X hlk h1 h2 h3 h4 h5
  show OwnG p e below s ({ frames := 0, cells := 0, slots := 0, locals := 0 } : Room).cells ({ frames := 0, cells := 0, slots := 0, locals := 0 } : Room).slots (Q_rmCo_1 Z a1 k1 vs1 h0 n0) s₁ (entryFrame m #[(.ref a1), (.int (1 : Int32))] 2)
  rw [← hG, ef_rmCo_1 m a1 (1 : Int32)]
  clear hG
  show G s₁ (mkF m 0 #[.val (.ref a1), .val (.int (1 : Int32))] [])
  refine gb (fun _ k => XS.iloadN X0.here hx rfl (hb hby d17_0) rfl (XS.aloadN X0.here hx rfl (hb hby d17_1) rfl rfl k)) ?_
  show G s₁ (mkF m 2 #[rv a1, iv 1] [.ref a1, .int 1])
  have V'1 := V_a1
  obtain ⟨cl1, Ar1, qk1, sz1, nn1, hs1, ft1⟩ := V'1
  refine gb (X0.arraylength hx (by rw [e0]; exact Ar1.1) (State.isArrayOf_alike hZ.alike Ar1.2.1) (g := (mkF m 2 #[rv a1, iv 1] [.ref a1, .int 1])) rfl rfl (hb hby d17_2)) ?_
  rw [len_of sz1 nn1]
  show G s₁ (mkF m 3 #[rv a1, iv 1] [.int 1, .int 1])
  refine gb (fun _ k => XS.isub X0.here hx rfl (hb hby d17_3) rfl (XS.bipush X0.here hx rfl (hb hby d17_4) (XS.iushr X0.here hx rfl (hb hby d17_6) rfl (XS.i2b X0.here hx rfl (hb hby d17_7) rfl k)))) ?_
  show G s₁ (mkF m 8 #[rv a1, iv 1] [.int 0])
  exact go X0 (v := (some (.int (0 : Int32)))) (fun h => by rw [Bd.returns] at h; cases h) (fun fs hr => retOut X0 hx Bd.returns rfl (Or.inl ⟨rfl, by simp, _, rfl⟩) (hb hby d17_8) hr) (⟨rfl, rfl, e0⟩) (by decide) (by decide)
def Q_rmS4_1 (Z : State) (a1 a2 : Addr) (k2 : ClassId) (c0 : Int32) (h0 : Heap) (n0 : Nat) (zc : Int32) : Option Value → Heap → List Loc → Prop := fun v h L => ∃ (b : Addr) (kb : ClassId), v = none ∧ Fr n0 L ∧ Keep h0 h [a1] ∧ Exa Z h a1 "java/lang/String" ∧ Fld Z h a1 "java/lang/String" "coder" "B" (.int (0 : Int32)) ∧ Fld Z h a1 "java/lang/String" "value" "[B" (.ref b) ∧ n0 ≤ b ∧ h0.size ≤ b ∧ Arv Z h b kb .byte (1 : Int32) [(.int (nar .byte (c0.toInt8.toInt32)))] (.int (0 : Int32))
set_option maxRecDepth 65536 in
set_option maxHeartbeats 40000000 in
theorem rmS4_1 (l : Launch) (Z : State) (a0 : Array Value) (hw : ∀ d ∈ tables_1, d.before a0 Z = true) (ws : List Jvm.Cond) (a1 a2 : Addr) (k2 : ClassId) (c0 : Int32) (h0 : Heap) (n0 : Nat) (O : Old Z n0 h0) (E_a1 : Exa Z h0 a1 "java/lang/String") (F_coder_a1 : Fld Z h0 a1 "java/lang/String" "coder" "B" (.int (0 : Int32))) (F_value_a1 : Fld Z h0 a1 "java/lang/String" "value" "[B" .null) (g_a1 : n0 ≤ a1) (V_a2 : Arv Z h0 a2 k2 .char (1 : Int32) [(.int c0)] (.int (0 : Int32))) (ne_a2_a1 : a2 ≠ a1) (hb0 : ¬ ((255 : Int32) < c0)) (zc : Int32) (S_cs : Sta Z Z.heap "java/lang/String" "COMPACT_STRINGS" "Z" (.int zc)) (hzc : ¬ zc = (0 : Int32)) :
    MetFree l (⟨"java/lang/String", "<init>", "([CIILjava/lang/Void;)V"⟩ : MethodName) (head1 (Jvm.Cond.code (⟨"java/lang/String", "<init>", "([CIILjava/lang/Void;)V"⟩ : MethodName) jdk_42_method_149_code 6 none :: ws) ({ frames := 2, cells := 1, slots := 1, locals := 35 } : Room)) (fun a U => a = #[(.ref a1), (.ref a2), (.int (0 : Int32)), (.int (1 : Int32)), .null] ∧ Z.Warmed39 U.vm ∧ U.heap = h0) (fun _ _ _ _ _ => True) (fun _ U o U' => ∃ v L, o = .returned v ∧ (Q_rmS4_1 Z a1 a2 k2 c0 h0 n0 zc) v U'.heap L ∧ FrameEnd U o U' L ({ frames := 2, cells := 1, slots := 1, locals := 35 } : Room).cells ({ frames := 2, cells := 1, slots := 1, locals := 35 } : Room).slots) := by
  refine MetFree.of_bodySF (plainFor_of_name pn_1) hisR ?_
  intro p e s m args below meth c s₁ Bd hml0 hP hK
  obtain ⟨rfl, hZ, hh⟩ := hP
  have hx := Bd.exec
  have hby := Bd.bytes
  have hml : c.maxLocals = 6 := hml0
  have hown : s.vm.findClass "java/lang/String" = some m.cls := findClass_of_methodNamed Bd.named
  have hnm := (name_of_methodNamed Bd.named Bd.method).1
  have hlk := BodyLoose.notSynchronized Bd
  have X0 : Stand p l e ({ frames := 2, cells := 1, slots := 1, locals := 35 } : Room) s m #[(.ref a1), (.ref a2), (.int (0 : Int32)), (.int (1 : Int32)), .null] below meth c s₁ [] 0 0 := Stand.of_body Bd
  have e0 : s₁.heap = h0 := by rw [← hh, Bd.state]; rfl
  have N := Fr.nil n0
  have K := Keep.refl h0 [a1]
  obtain ⟨G, hG⟩ : ∃ G : State → JFrame → Prop, G = OwnG p e below s ({ frames := 2, cells := 1, slots := 1, locals := 35 } : Room).cells ({ frames := 2, cells := 1, slots := 1, locals := 35 } : Room).slots (Q_rmS4_1 Z a1 a2 k2 c0 h0 n0 zc) := ⟨_, rfl⟩
  have gb : ∀ {T T' : State} {g g' : JFrame}, (∀ t, Steps p.tables e below (T'.setTop g') t → Steps p.tables e below (T.setTop g) t) → G T' g' → G T g := by subst hG; exact fun k h => own_by k h
  have go : ∀ {T : State} {locs : List Loc} {cells slots : Nat} {g : JFrame} {v : Option Value}, Stand p l e ({ frames := 2, cells := 1, slots := 1, locals := 35 } : Room) s m #[(.ref a1), (.ref a2), (.int (0 : Int32)), (.int (1 : Int32)), .null] below meth c T locs cells slots → (meth.sig.returnType = none → v = none) → (∀ fs, (∀ (f : JFrame) (acts : List Action), f.method = m → f.locked = none → f.entered = [] → (doReturn e (T.setTop f) acts v).1 = T.setFrames fs) → Steps p.tables e below (T.setTop g) (T.setFrames fs)) → (Q_rmS4_1 Z a1 a2 k2 c0 h0 n0 zc) v T.heap locs → cells ≤ ({ frames := 2, cells := 1, slots := 1, locals := 35 } : Room).cells → slots ≤ ({ frames := 2, cells := 1, slots := 1, locals := 35 } : Room).slots → G T g := by subst hG; exact fun X h1 h2 h3 h4 h5 => own_out X hlk h1 h2 h3 h4 h5
  show OwnG p e below s ({ frames := 2, cells := 1, slots := 1, locals := 35 } : Room).cells ({ frames := 2, cells := 1, slots := 1, locals := 35 } : Room).slots (Q_rmS4_1 Z a1 a2 k2 c0 h0 n0 zc) s₁ (entryFrame m #[(.ref a1), (.ref a2), (.int (0 : Int32)), (.int (1 : Int32)), .null] 6)
  rw [← hG, ef_rmS4_1 m a1 a2 (0 : Int32) (1 : Int32)]
  clear hG
  show G s₁ (mkF m 0 #[.val (.ref a1), .val (.ref a2), .val (.int (0 : Int32)), .val (.int (1 : Int32)), .val .null, .unset] [])
  refine gb (fun _ k => XS.aloadN X0.here hx rfl (hb hby d14_0) rfl rfl k) ?_
  show G s₁ (mkF m 1 #[rv a1, rv a2, iv 0, iv 1, .val .null, .unset] [.ref a1])
  obtain ⟨T1, X1, e1, st1⟩ := initO X0 hx hZ hown (ow hw 96 rfl) (ow hw 19 rfl) (ow hw 20 rfl) e0 (g := (mkF m 1 #[rv a1, rv a2, iv 0, iv 1, .val .null, .unset] [.ref a1])) rfl (by rw [hml]; rfl) rfl (hb hby d14_1) (by decide) (W := 0) (by show 2 * 0 + _ ≤ _; exact Nat.le_of_eq rfl) (by decide)
  refine gb st1 ?_
  show G T1 (mkF m 4 #[rv a1, rv a2, iv 0, iv 1, .val .null, .unset] [])
  refine gb (fun _ k => XS.iloadN X1.here hx rfl (hb hby d14_4) rfl (XS.ifYes X1.here hx rfl (pc0 := 5) (pc' := 27) rfl (hb hby d14_5) rfl ((if0 _ _).trans (feq (by decide : ¬ ((1 : Int32) = (0 : Int32)))).2) (by decide) (by decide) k)) ?_
  show G T1 (mkF m 27 #[rv a1, rv a2, iv 0, iv 1, .val .null, .unset] [])
  obtain ⟨T2, X2, e2, st2⟩ := getS2 X1 hx hZ hown (host := "") (Or.inl (ow hw 42 rfl)) Via.refl e1 (S_cs.ext O.2) (g := (mkF m 27 #[rv a1, rv a2, iv 0, iv 1, .val .null, .unset] [])) rfl (hb hby d14_27)
  refine gb st2 ?_
  show G T2 (mkF m 30 #[rv a1, rv a2, iv 0, iv 1, .val .null, .unset] [.int zc])
  refine gb (fun _ k => XS.ifNo X2.here hx rfl (hb hby d14_30) rfl ((if0 _ _).trans (feq hzc).1) (XS.aloadN X2.here hx rfl (hb hby d14_33) rfl rfl (XS.iloadN X2.here hx rfl (hb hby d14_34) rfl (XS.iloadN X2.here hx rfl (hb hby d14_35) rfl k)))) ?_
  show G T2 (mkF m 36 #[rv a1, rv a2, iv 0, iv 1, .val .null, .unset] [.int 1, .int 0, .ref a2])
  have lt_a1 := E_a1.lt
  have lt_a2 := V_a2.lt
  have szK := K.1
  obtain ⟨_, _, ⟨T3, Lz3, kz3, nz3⟩, -, X3, ⟨Lc3, hQ3, lq3, yq3, zq3⟩, st3⟩ := Jvm.LawKit.callS X2 hx (y := (⟨"java/lang/StringUTF16", "compress", "([CII)[B"⟩ : MethodName)) hown (mvT hZ (ow hw 97 rfl)) (mvT hZ (ow hw 98 rfl)) (mvT hZ (ow hw 99 rfl)) (mvT hZ (ow hw 100 rfl)) (by decide) (backOf (W := 0) (rmC1_1 l Z a0 hw [] a2 k2 c0 h0 n0 O V_a2 hb0) hZ (ow hw 100 rfl) (ow hw 99 rfl) (by decide) (by decide)) (g := (mkF m 36 #[rv a1, rv a2, iv 0, iv 1, .val .null, .unset] [.int 1, .int 0, .ref a2])) rfl (by rw [hml]; rfl) (argsL := [(.ref a2), (.int (0 : Int32)), (.int (1 : Int32))]) (rest := []) (lenOf pd_1 rfl) rfl (by show 2 * 0 + _ ≤ _; exact Nat.le_of_eq rfl) (hb hby d14_36) (fun _ _ => ⟨rfl, e2, (by decide : 0 + 1 ≤ _), (by decide : 0 + 1 ≤ _)⟩)
  dsimp only [Pt.U, Pt.locs, Pt.cells, Pt.slots] at X3 lq3 yq3 zq3 st3 hQ3
  subst lq3 yq3 zq3
  obtain ⟨h3, e3⟩ : ∃ z, z = T3.heap := ⟨_, rfl⟩
  rw [← e3] at hQ3
  replace e3 := e3.symm
  obtain ⟨b3, kb3, rfl, Nq3, Kq3, hR3⟩ := hQ3
  have N := Fr.app N Nq3
  have E_a1 := E_a1.keep Kq3
  have F_coder_a1 := F_coder_a1.keep Kq3 nin0
  have F_value_a1 := F_value_a1.keep Kq3 nin0
  have V_a2 := V_a2.keep Kq3 nin0
  obtain ⟨g_b3, sz_b3, V_b3⟩ := hR3
  have O := O.keep Kq3 all0
  have K := K.trans Kq3 all0
  have ne_a1_b3 : a1 ≠ b3 := Nat.ne_of_lt (Nat.lt_of_lt_of_le lt_a1 sz_b3)
  have ne_a2_b3 : a2 ≠ b3 := Nat.ne_of_lt (Nat.lt_of_lt_of_le lt_a2 sz_b3)
  have sz_b3 := Nat.le_trans szK sz_b3
  refine gb st3 ?_
  show G T3 (mkF m 39 #[rv a1, rv a2, iv 0, iv 1, .val .null, .unset] [.ref b3])
  refine gb (fun _ k => XS.astore X3.here hx rfl (hb hby d14_39) rfl rfl (l' := #[rv a1, rv a2, iv 0, iv 1, .val .null, rv b3]) rfl (XS.aloadN X3.here hx rfl (hb hby d14_41) rfl rfl (XS.aload X3.here hx rfl (hb hby d14_42) rfl rfl (XS.iloadN X3.here hx rfl (hb hby d14_44) rfl k)))) ?_
  show G T3 (mkF m 45 #[rv a1, rv a2, iv 0, iv 1, .val .null, rv b3] [.int 1, .ref b3, .ref a1])
  obtain ⟨_, _, ⟨T4, Lz4, kz4, nz4⟩, -, X4, ⟨Lc4, hQ4, lq4, yq4, zq4⟩, st4⟩ := Jvm.LawKit.callS X3 hx (y := (⟨"java/lang/StringUTF16", "coderFromArrayLen", "([BI)B"⟩ : MethodName)) hown (mvT hZ (ow hw 104 rfl)) (mvT hZ (ow hw 105 rfl)) (mvT hZ (ow hw 99 rfl)) (mvT hZ (ow hw 106 rfl)) (by decide) (backOf (W := 1) (rmCo_1 l Z a0 hw [] b3 kb3 _ h3 n0 O V_b3) hZ (ow hw 106 rfl) (ow hw 99 rfl) (by decide) (by decide)) (g := (mkF m 45 #[rv a1, rv a2, iv 0, iv 1, .val .null, rv b3] [.int 1, .ref b3, .ref a1])) rfl (by rw [hml]; rfl) (argsL := [(.ref b3), (.int (1 : Int32))]) (rest := [(.ref a1)]) (lenOf pd_2 rfl) rfl (by show 2 * 0 + _ ≤ _; exact Nat.le_of_eq rfl) (hb hby d14_45) (fun _ _ => ⟨rfl, e3, (by decide : 1 + 0 ≤ _), (by decide : 1 + 0 ≤ _)⟩)
  dsimp only [Pt.U, Pt.locs, Pt.cells, Pt.slots] at X4 lq4 yq4 zq4 st4 hQ4
  subst lq4 yq4 zq4
  obtain ⟨rfl, rfl, e4⟩ := hQ4
  try rw [List.append_nil] at X4
  refine gb st4 ?_
  show G T4 (mkF m 48 #[rv a1, rv a2, iv 0, iv 1, .val .null, rv b3] [.int 0, .ref a1])
  obtain ⟨T5, h5, X5, e5, W5, st5⟩ := putFN X4 hx hZ hown (ow hw 43 rfl) Via.refl e4 F_coder_a1 E_a1 (Or.inr ⟨(ow hw 12 rfl), rfl, hnm⟩) (ow hw 9 rfl) (ty := .byte) (v' := (.int (0 : Int32))) (by decide) rfl (by decide) (g := (mkF m 48 #[rv a1, rv a2, iv 0, iv 1, .val .null, rv b3] [.int 0, .ref a1])) rfl rfl (hb hby d14_48)
  refine gb st5 ?_
  have F_coder_a1 := F_coder_a1.same W5
  have E_a1 := E_a1.wr W5
  have F_value_a1 := F_value_a1.other W5 (Or.inr (slot_ne (Or.inr (ow hw 11 rfl)) (Or.inr (ow hw 12 rfl)) (by decide) (t := (.array .byte)) (t' := .byte) (by decide) (by decide)))
  have V_a2 := V_a2.other W5 ne_a2_a1
  have V_b3 := V_b3.other W5 (Ne.symm ne_a1_b3)
  have O := O.wr W5 g_a1
  have K := K.wr W5 (Or.inl (List.mem_of_getElem? (i := 0) rfl))
  have N := Fr.snoc X5 N g_a1
  show G T5 (mkF m 51 #[rv a1, rv a2, iv 0, iv 1, .val .null, rv b3] [])
  refine gb (fun _ k => XS.aloadN X5.here hx rfl (hb hby d14_51) rfl rfl (XS.aload X5.here hx rfl (hb hby d14_52) rfl rfl k)) ?_
  show G T5 (mkF m 54 #[rv a1, rv a2, iv 0, iv 1, .val .null, rv b3] [.ref b3, .ref a1])
  obtain ⟨T6, h6, X6, e6, W6, st6⟩ := putF X5 hx hZ hown (host := "") (Or.inl (ow hw 36 rfl)) Via.refl e5 F_value_a1 E_a1 (Or.inr ⟨(ow hw 11 rfl), rfl, hnm⟩) (ow hw 9 rfl) (ty := (.array .byte)) (by decide) rfl rfl (g := (mkF m 54 #[rv a1, rv a2, iv 0, iv 1, .val .null, rv b3] [.ref b3, .ref a1])) rfl rfl (hb hby d14_54)
  refine gb st6 ?_
  have F_value_a1 := F_value_a1.same W6
  have E_a1 := E_a1.wr W6
  have V_a2 := V_a2.other W6 ne_a2_a1
  have V_b3 := V_b3.other W6 (Ne.symm ne_a1_b3)
  have F_coder_a1 := F_coder_a1.other W6 (Or.inr (slot_ne (Or.inr (ow hw 12 rfl)) (Or.inr (ow hw 11 rfl)) (by decide) (t := .byte) (t' := (.array .byte)) (by decide) (by decide)))
  have O := O.wr W6 g_a1
  have K := K.wr W6 (Or.inl (List.mem_of_getElem? (i := 0) rfl))
  have N := Fr.snoc X6 N g_a1
  show G T6 (mkF m 57 #[rv a1, rv a2, iv 0, iv 1, .val .null, rv b3] [])
  exact go X6 (v := none) (fun _ => rfl) (fun fs hr => X6.returnOut hx Bd.returns (hb hby d14_57) hr) (by rw [e6]; exact ⟨_, _, rfl, N, K, E_a1, F_coder_a1, F_value_a1, g_b3, sz_b3, V_b3⟩) (by decide) (by decide)
def Q_rmS1_1 (Z : State) (a1 a2 : Addr) (k2 : ClassId) (c0 : Int32) (h0 : Heap) (n0 : Nat) (zc : Int32) : Option Value → Heap → List Loc → Prop := fun v h L => ∃ (b : Addr) (kb : ClassId), v = none ∧ Fr n0 L ∧ Keep h0 h [a1] ∧ Exa Z h a1 "java/lang/String" ∧ Fld Z h a1 "java/lang/String" "coder" "B" (.int (0 : Int32)) ∧ Fld Z h a1 "java/lang/String" "value" "[B" (.ref b) ∧ n0 ≤ b ∧ h0.size ≤ b ∧ Arv Z h b kb .byte (1 : Int32) [(.int (nar .byte (c0.toInt8.toInt32)))] (.int (0 : Int32))
set_option maxRecDepth 65536 in
set_option maxHeartbeats 40000000 in
theorem rmS1_1 (l : Launch) (Z : State) (a0 : Array Value) (hw : ∀ d ∈ tables_1, d.before a0 Z = true) (ws : List Jvm.Cond) (a1 a2 : Addr) (k2 : ClassId) (c0 : Int32) (h0 : Heap) (n0 : Nat) (O : Old Z n0 h0) (E_a1 : Exa Z h0 a1 "java/lang/String") (F_coder_a1 : Fld Z h0 a1 "java/lang/String" "coder" "B" (.int (0 : Int32))) (F_value_a1 : Fld Z h0 a1 "java/lang/String" "value" "[B" .null) (g_a1 : n0 ≤ a1) (V_a2 : Arv Z h0 a2 k2 .char (1 : Int32) [(.int c0)] (.int (0 : Int32))) (ne_a2_a1 : a2 ≠ a1) (hb0 : ¬ ((255 : Int32) < c0)) (zc : Int32) (S_cs : Sta Z Z.heap "java/lang/String" "COMPACT_STRINGS" "Z" (.int zc)) (hzc : ¬ zc = (0 : Int32)) :
    MetFree l (⟨"java/lang/String", "<init>", "([C)V"⟩ : MethodName) (head1 (Jvm.Cond.code (⟨"java/lang/String", "<init>", "([C)V"⟩ : MethodName) jdk_42_method_3_code 2 none :: ws) ({ frames := 3, cells := 1, slots := 1, locals := 52 } : Room)) (fun a U => a = #[(.ref a1), (.ref a2)] ∧ Z.Warmed39 U.vm ∧ U.heap = h0) (fun _ _ _ _ _ => True) (fun _ U o U' => ∃ v L, o = .returned v ∧ (Q_rmS1_1 Z a1 a2 k2 c0 h0 n0 zc) v U'.heap L ∧ FrameEnd U o U' L ({ frames := 3, cells := 1, slots := 1, locals := 52 } : Room).cells ({ frames := 3, cells := 1, slots := 1, locals := 52 } : Room).slots) := by
  refine MetFree.of_bodySF (plainFor_of_name pn_1) hisR ?_
  intro p e s m args below meth c s₁ Bd hml0 hP hK
  obtain ⟨rfl, hZ, hh⟩ := hP
  have hx := Bd.exec
  have hby := Bd.bytes
  have hml : c.maxLocals = 2 := hml0
  have hown : s.vm.findClass "java/lang/String" = some m.cls := findClass_of_methodNamed Bd.named
  have hnm := (name_of_methodNamed Bd.named Bd.method).1
  have hlk := BodyLoose.notSynchronized Bd
  have X0 : Stand p l e ({ frames := 3, cells := 1, slots := 1, locals := 52 } : Room) s m #[(.ref a1), (.ref a2)] below meth c s₁ [] 0 0 := Stand.of_body Bd
  have e0 : s₁.heap = h0 := by rw [← hh, Bd.state]; rfl
  have N := Fr.nil n0
  have K := Keep.refl h0 [a1]
  obtain ⟨G, hG⟩ : ∃ G : State → JFrame → Prop, G = OwnG p e below s ({ frames := 3, cells := 1, slots := 1, locals := 52 } : Room).cells ({ frames := 3, cells := 1, slots := 1, locals := 52 } : Room).slots (Q_rmS1_1 Z a1 a2 k2 c0 h0 n0 zc) := ⟨_, rfl⟩
  have gb : ∀ {T T' : State} {g g' : JFrame}, (∀ t, Steps p.tables e below (T'.setTop g') t → Steps p.tables e below (T.setTop g) t) → G T' g' → G T g := by subst hG; exact fun k h => own_by k h
  have go : ∀ {T : State} {locs : List Loc} {cells slots : Nat} {g : JFrame} {v : Option Value}, Stand p l e ({ frames := 3, cells := 1, slots := 1, locals := 52 } : Room) s m #[(.ref a1), (.ref a2)] below meth c T locs cells slots → (meth.sig.returnType = none → v = none) → (∀ fs, (∀ (f : JFrame) (acts : List Action), f.method = m → f.locked = none → f.entered = [] → (doReturn e (T.setTop f) acts v).1 = T.setFrames fs) → Steps p.tables e below (T.setTop g) (T.setFrames fs)) → (Q_rmS1_1 Z a1 a2 k2 c0 h0 n0 zc) v T.heap locs → cells ≤ ({ frames := 3, cells := 1, slots := 1, locals := 52 } : Room).cells → slots ≤ ({ frames := 3, cells := 1, slots := 1, locals := 52 } : Room).slots → G T g := by subst hG; exact fun X h1 h2 h3 h4 h5 => own_out X hlk h1 h2 h3 h4 h5
  show OwnG p e below s ({ frames := 3, cells := 1, slots := 1, locals := 52 } : Room).cells ({ frames := 3, cells := 1, slots := 1, locals := 52 } : Room).slots (Q_rmS1_1 Z a1 a2 k2 c0 h0 n0 zc) s₁ (entryFrame m #[(.ref a1), (.ref a2)] 2)
  rw [← hG, ef_rmS1_1 m a1 a2]
  clear hG
  show G s₁ (mkF m 0 #[.val (.ref a1), .val (.ref a2)] [])
  refine gb (fun _ k => XS.aloadN X0.here hx rfl (hb hby d13_0) rfl rfl (XS.aloadN X0.here hx rfl (hb hby d13_1) rfl rfl (XS.iconst X0.here hx rfl (hb hby d13_2) (XS.aloadN X0.here hx rfl (hb hby d13_3) rfl rfl k)))) ?_
  show G s₁ (mkF m 4 #[rv a1, rv a2] [.ref a2, .int 0, .ref a2, .ref a1])
  have V'1 := V_a2
  obtain ⟨cl1, Ar1, qk1, sz1, nn1, hs1, ft1⟩ := V'1
  refine gb (X0.arraylength hx (by rw [e0]; exact Ar1.1) (State.isArrayOf_alike hZ.alike Ar1.2.1) (g := (mkF m 4 #[rv a1, rv a2] [.ref a2, .int 0, .ref a2, .ref a1])) rfl rfl (hb hby d13_4)) ?_
  rw [len_of sz1 nn1]
  show G s₁ (mkF m 5 #[rv a1, rv a2] [.int 1, .int 0, .ref a2, .ref a1])
  refine gb (fun _ k => XS.aconstNull X0.here hx rfl (hb hby d13_5) k) ?_
  show G s₁ (mkF m 6 #[rv a1, rv a2] [.null, .int 1, .int 0, .ref a2, .ref a1])
  obtain ⟨_, _, ⟨T2, Lz2, kz2, nz2⟩, -, X2, ⟨Lc2, hQ2, lq2, yq2, zq2⟩, st2⟩ := X0.specialBack hx (y := (⟨"java/lang/String", "<init>", "([CIILjava/lang/Void;)V"⟩ : MethodName)) rfl hown (mvT hZ (ow hw 93 rfl)) (mvT hZ (ow hw 94 rfl)) (mvT hZ (ow hw 95 rfl)) (by decide) (backOf (W := 0) (rmS4_1 l Z a0 hw [] a1 a2 k2 c0 h0 n0 O E_a1 F_coder_a1 F_value_a1 g_a1 V_a2 ne_a2_a1 hb0 zc S_cs hzc) hZ (ow hw 95 rfl) (ow hw 8 rfl) (by decide) (by decide)) (g := (mkF m 6 #[rv a1, rv a2] [.null, .int 1, .int 0, .ref a2, .ref a1])) rfl (by rw [hml]; rfl) (Steps.refl _) (a := a1) (argsL := [(.ref a2), (.int (0 : Int32)), (.int (1 : Int32)), .null]) (rest := []) (lenOf pd_3 rfl) rfl (by show 2 * 0 + _ ≤ _; exact Nat.le_of_eq rfl) (hb hby d13_6) (fun _ _ => ⟨rfl, e0, (by decide : 0 + 1 ≤ _), (by decide : 0 + 1 ≤ _)⟩)
  dsimp only [Pt.U, Pt.locs, Pt.cells, Pt.slots] at X2 lq2 yq2 zq2 st2 hQ2
  subst lq2 yq2 zq2
  obtain ⟨h2, e2⟩ : ∃ z, z = T2.heap := ⟨_, rfl⟩
  rw [← e2] at hQ2
  replace e2 := e2.symm
  obtain ⟨b2, kb2, rfl, Nq2, Kq2, hR2⟩ := hQ2
  have N := Fr.app N Nq2
  have E_a1 := E_a1.keep Kq2
  have V_a2 := V_a2.keep Kq2 (ninS ne_a2_a1 nin0)
  obtain ⟨E_a1, Fc2, Fv2, gb2, sb2, Vb2⟩ := hR2
  have O := O.keep Kq2 (allS g_a1 all0)
  have K := K.trans Kq2 (allS (Or.inl (List.mem_of_getElem? (i := 0) rfl)) all0)
  refine gb (fun _ k => st2.trans k) ?_
  show G T2 (mkF m 9 #[rv a1, rv a2] [])
  exact go X2 (v := none) (fun _ => rfl) (fun fs hr => X2.returnOut hx Bd.returns (hb hby d13_9) hr) (by rw [e2]; exact ⟨_, _, rfl, N, K, E_a1, Fc2, Fv2, gb2, sb2, Vb2⟩) (by decide) (by decide)
def Q_rmC2_2 (Z : State) (a1 a2 : Addr) (k1 k2 : ClassId) (c0 c1 : Int32) (h0 : Heap) (n0 : Nat) : Option Value → Heap → List Loc → Prop := fun v h L => v = some (.int (2 : Int32)) ∧ Fr n0 L ∧ Keep h0 h [a2] ∧ Arv Z h a2 k2 .byte (2 : Int32) [(.int (nar .byte (c0.toInt8.toInt32))), (.int (nar .byte (c1.toInt8.toInt32)))] (.int (0 : Int32))
set_option maxRecDepth 65536 in
set_option maxHeartbeats 40000000 in
theorem rmC2_2 (l : Launch) (Z : State) (a0 : Array Value) (hw : ∀ d ∈ tables_1, d.before a0 Z = true) (ws : List Jvm.Cond) (a1 a2 : Addr) (k1 k2 : ClassId) (c0 c1 : Int32) (h0 : Heap) (n0 : Nat) (O : Old Z n0 h0) (V_a1 : Arv Z h0 a1 k1 .char (2 : Int32) [(.int c0), (.int c1)] (.int (0 : Int32))) (V_a2 : Arv Z h0 a2 k2 .byte (2 : Int32) [(.int (0 : Int32)), (.int (0 : Int32))] (.int (0 : Int32))) (g_a2 : n0 ≤ a2) (ne_a1_a2 : a1 ≠ a2) (hb0 : ¬ ((255 : Int32) < c0)) (hb1 : ¬ ((255 : Int32) < c1)) :
    MetFree l (⟨"java/lang/StringUTF16", "compress", "([CI[BII)I"⟩ : MethodName) (head1 (Jvm.Cond.code (⟨"java/lang/StringUTF16", "compress", "([CI[BII)I"⟩ : MethodName) jdk_52_method_21_code 7 (some .int) :: ws) ({ frames := 0, cells := 0, slots := 0, locals := 0 } : Room)) (fun a U => a = #[(.ref a1), (.int (0 : Int32)), (.ref a2), (.int (0 : Int32)), (.int (2 : Int32))] ∧ Z.Warmed39 U.vm ∧ U.heap = h0) (fun _ _ _ _ _ => True) (fun _ U o U' => ∃ v L, o = .returned v ∧ (Q_rmC2_2 Z a1 a2 k1 k2 c0 c1 h0 n0) v U'.heap L ∧ FrameEnd U o U' L ({ frames := 0, cells := 0, slots := 0, locals := 0 } : Room).cells ({ frames := 0, cells := 0, slots := 0, locals := 0 } : Room).slots) := by
  refine MetFree.of_bodySF (plainFor_of_name pn_0) hisR ?_
  intro p e s m args below meth c s₁ Bd hml0 hP hK
  obtain ⟨rfl, hZ, hh⟩ := hP
  have hx := Bd.exec
  have hby := Bd.bytes
  have hml : c.maxLocals = 7 := hml0
  have hown : s.vm.findClass "java/lang/StringUTF16" = some m.cls := findClass_of_methodNamed Bd.named
  have hnm := (name_of_methodNamed Bd.named Bd.method).1
  have hlk := BodyLoose.notSynchronized Bd
  have X0 : Stand p l e ({ frames := 0, cells := 0, slots := 0, locals := 0 } : Room) s m #[(.ref a1), (.int (0 : Int32)), (.ref a2), (.int (0 : Int32)), (.int (2 : Int32))] below meth c s₁ [] 0 0 := Stand.of_body Bd
  have e0 : s₁.heap = h0 := by rw [← hh, Bd.state]; rfl
  have N := Fr.nil n0
  have K := Keep.refl h0 [a2]
  obtain ⟨G, hG⟩ : ∃ G : State → JFrame → Prop, G = OwnG p e below s ({ frames := 0, cells := 0, slots := 0, locals := 0 } : Room).cells ({ frames := 0, cells := 0, slots := 0, locals := 0 } : Room).slots (Q_rmC2_2 Z a1 a2 k1 k2 c0 c1 h0 n0) := ⟨_, rfl⟩
  have gb : ∀ {T T' : State} {g g' : JFrame}, (∀ t, Steps p.tables e below (T'.setTop g') t → Steps p.tables e below (T.setTop g) t) → G T' g' → G T g := by subst hG; exact fun k h => own_by k h
  have go : ∀ {T : State} {locs : List Loc} {cells slots : Nat} {g : JFrame} {v : Option Value}, Stand p l e ({ frames := 0, cells := 0, slots := 0, locals := 0 } : Room) s m #[(.ref a1), (.int (0 : Int32)), (.ref a2), (.int (0 : Int32)), (.int (2 : Int32))] below meth c T locs cells slots → (meth.sig.returnType = none → v = none) → (∀ fs, (∀ (f : JFrame) (acts : List Action), f.method = m → f.locked = none → f.entered = [] → (doReturn e (T.setTop f) acts v).1 = T.setFrames fs) → Steps p.tables e below (T.setTop g) (T.setFrames fs)) → (Q_rmC2_2 Z a1 a2 k1 k2 c0 c1 h0 n0) v T.heap locs → cells ≤ ({ frames := 0, cells := 0, slots := 0, locals := 0 } : Room).cells → slots ≤ ({ frames := 0, cells := 0, slots := 0, locals := 0 } : Room).slots → G T g := by subst hG; exact fun X h1 h2 h3 h4 h5 => own_out X hlk h1 h2 h3 h4 h5
  show OwnG p e below s ({ frames := 0, cells := 0, slots := 0, locals := 0 } : Room).cells ({ frames := 0, cells := 0, slots := 0, locals := 0 } : Room).slots (Q_rmC2_2 Z a1 a2 k1 k2 c0 c1 h0 n0) s₁ (entryFrame m #[(.ref a1), (.int (0 : Int32)), (.ref a2), (.int (0 : Int32)), (.int (2 : Int32))] 7)
  rw [← hG, ef_rmC2_2 m a1 (0 : Int32) a2 (0 : Int32) (2 : Int32)]
  clear hG
  show G s₁ (mkF m 0 #[.val (.ref a1), .val (.int (0 : Int32)), .val (.ref a2), .val (.int (0 : Int32)), .val (.int (2 : Int32)), .unset, .unset] [])
  refine gb (fun _ k => XS.iconst X0.here hx rfl (hb hby d16_0) (XS.istore X0.here hx rfl (hb hby d16_1) rfl (l' := #[rv a1, iv 0, rv a2, iv 0, iv 2, iv 0, .unset]) rfl (XS.iload X0.here hx rfl (hb hby d16_3) rfl (XS.iload X0.here hx rfl (hb hby d16_5) rfl (XS.icmpNo X0.here hx rfl (hb hby d16_7) rfl (tlt (by decide : (0 : Int32) < (2 : Int32))).2.1 (XS.aloadN X0.here hx rfl (hb hby d16_10) rfl rfl k)))))) ?_
  show G s₁ (mkF m 11 #[rv a1, iv 0, rv a2, iv 0, iv 2, iv 0, .unset] [.ref a1])
  refine gb (fun _ k => XS.iloadN X0.here hx rfl (hb hby d16_11) rfl k) ?_
  show G s₁ (mkF m 12 #[rv a1, iv 0, rv a2, iv 0, iv 2, iv 0, .unset] [.int 0, .ref a1])
  have V'1 := V_a1
  obtain ⟨cl1, Ar1, qk1, sz1, nn1, hs1, ft1⟩ := V'1
  have hin1 : ¬ ((0 : Int32) < 0 ∨ cl1.slots.size ≤ ((0 : Int32)).toNatClampNeg) := inb_of sz1 ⟨by decide, by decide⟩
  have hat1 : cl1.slots[((0 : Int32)).toNatClampNeg]? = some (.int c0) := hs1.at hin1 rfl
  refine gb (X0.caload hx (j := (0 : Int32)) (v := (.int c0)) (by rw [e0]; exact Ar1.1) (State.isArrayOf_alike hZ.alike Ar1.2.1) Ar1.2.2 hin1 hat1 (g := (mkF m 12 #[rv a1, iv 0, rv a2, iv 0, iv 2, iv 0, .unset] [.int 0, .ref a1])) rfl rfl (hb hby d16_12)) ?_
  show G s₁ (mkF m 13 #[rv a1, iv 0, rv a2, iv 0, iv 2, iv 0, .unset] [.int c0])
  refine gb (fun _ k => XS.istore X0.here hx rfl (hb hby d16_13) rfl (l' := #[rv a1, iv 0, rv a2, iv 0, iv 2, iv 0, iv c0]) rfl (XS.iload X0.here hx rfl (hb hby d16_15) rfl (XS.sipush X0.here hx rfl (hb hby d16_17) (XS.icmpYes X0.here hx rfl (pc0 := 20) (pc' := 26) rfl (hb hby d16_20) rfl (flt hb0).2.2.2 (by decide) (by decide) (XS.aloadN X0.here hx rfl (hb hby d16_26) rfl rfl (XS.iloadN X0.here hx rfl (hb hby d16_27) rfl k)))))) ?_
  show G s₁ (mkF m 28 #[rv a1, iv 0, rv a2, iv 0, iv 2, iv 0, iv c0] [.int 0, .ref a2])
  refine gb (fun _ k => XS.iload X0.here hx rfl (hb hby d16_28) rfl (XS.i2b X0.here hx rfl (hb hby d16_30) rfl k)) ?_
  show G s₁ (mkF m 31 #[rv a1, iv 0, rv a2, iv 0, iv 2, iv 0, iv c0] [.int (c0.toInt8.toInt32), .int 0, .ref a2])
  have V'2 := V_a2
  obtain ⟨cl2, Ar2, qk2, sz2, nn2, hs2, ft2⟩ := V'2
  have hin2 : ¬ ((0 : Int32) < 0 ∨ cl2.slots.size ≤ ((0 : Int32)).toNatClampNeg) := inb_of sz2 ⟨by decide, by decide⟩
  obtain ⟨T3, h3, X3, e3, W3, st3⟩ := stB X0 hx hZ e0 Ar2 (j := (0 : Int32)) hin2 (g := (mkF m 31 #[rv a1, iv 0, rv a2, iv 0, iv 2, iv 0, iv c0] [.int (c0.toInt8.toInt32), .int 0, .ref a2])) rfl rfl (hb hby d16_31)
  have V_a2 : Arv Z h3 a2 k2 .byte (2 : Int32) [(.int (nar .byte (c0.toInt8.toInt32))), (.int (0 : Int32))] (.int (0 : Int32)) := Arv.set Ar2 qk2 sz2 nn2 hs2 ft2 (fits_nar_byte _) W3 0 rfl (Nat.le_of_ble_eq_true rfl)
  have V_a1 := V_a1.other W3 ne_a1_a2
  have O := O.wr W3 g_a2
  have K := K.wr W3 (Or.inl (List.mem_of_getElem? (i := 0) rfl))
  have N := Fr.snoc X3 N g_a2
  refine gb st3 ?_
  show G T3 (mkF m 32 #[rv a1, iv 0, rv a2, iv 0, iv 2, iv 0, iv c0] [])
  refine gb (fun _ k => XS.iinc X3.here hx rfl (hb hby d16_32) rfl (l' := #[rv a1, iv 1, rv a2, iv 0, iv 2, iv 0, iv c0]) rfl (XS.iinc X3.here hx rfl (hb hby d16_35) rfl (l' := #[rv a1, iv 1, rv a2, iv 1, iv 2, iv 0, iv c0]) rfl (XS.iinc X3.here hx rfl (hb hby d16_38) rfl (l' := #[rv a1, iv 1, rv a2, iv 1, iv 2, iv 1, iv c0]) rfl (XS.goto X3.here hx rfl (pc0 := 41) (pc' := 3) rfl (hb hby d16_41) (by decide) (by decide) (XS.iload X3.here hx rfl (hb hby d16_3) rfl (XS.iload X3.here hx rfl (hb hby d16_5) rfl k)))))) ?_
  show G T3 (mkF m 7 #[rv a1, iv 1, rv a2, iv 1, iv 2, iv 1, iv c0] [.int 2, .int 1])
  refine gb (fun _ k => XS.icmpNo X3.here hx rfl (hb hby d16_7) rfl (tlt (by decide : (1 : Int32) < (2 : Int32))).2.1 (XS.aloadN X3.here hx rfl (hb hby d16_10) rfl rfl (XS.iloadN X3.here hx rfl (hb hby d16_11) rfl k))) ?_
  show G T3 (mkF m 12 #[rv a1, iv 1, rv a2, iv 1, iv 2, iv 1, iv c0] [.int 1, .ref a1])
  have V'4 := V_a1
  obtain ⟨cl4, Ar4, qk4, sz4, nn4, hs4, ft4⟩ := V'4
  have hin4 : ¬ ((1 : Int32) < 0 ∨ cl4.slots.size ≤ ((1 : Int32)).toNatClampNeg) := inb_of sz4 ⟨by decide, by decide⟩
  have hat4 : cl4.slots[((1 : Int32)).toNatClampNeg]? = some (.int c1) := hs4.at hin4 rfl
  refine gb (X3.caload hx (j := (1 : Int32)) (v := (.int c1)) (by rw [e3]; exact Ar4.1) (State.isArrayOf_alike hZ.alike Ar4.2.1) Ar4.2.2 hin4 hat4 (g := (mkF m 12 #[rv a1, iv 1, rv a2, iv 1, iv 2, iv 1, iv c0] [.int 1, .ref a1])) rfl rfl (hb hby d16_12)) ?_
  show G T3 (mkF m 13 #[rv a1, iv 1, rv a2, iv 1, iv 2, iv 1, iv c0] [.int c1])
  refine gb (fun _ k => XS.istore X3.here hx rfl (hb hby d16_13) rfl (l' := #[rv a1, iv 1, rv a2, iv 1, iv 2, iv 1, iv c1]) rfl (XS.iload X3.here hx rfl (hb hby d16_15) rfl (XS.sipush X3.here hx rfl (hb hby d16_17) (XS.icmpYes X3.here hx rfl (pc0 := 20) (pc' := 26) rfl (hb hby d16_20) rfl (flt hb1).2.2.2 (by decide) (by decide) (XS.aloadN X3.here hx rfl (hb hby d16_26) rfl rfl (XS.iloadN X3.here hx rfl (hb hby d16_27) rfl k)))))) ?_
  show G T3 (mkF m 28 #[rv a1, iv 1, rv a2, iv 1, iv 2, iv 1, iv c1] [.int 1, .ref a2])
  refine gb (fun _ k => XS.iload X3.here hx rfl (hb hby d16_28) rfl (XS.i2b X3.here hx rfl (hb hby d16_30) rfl k)) ?_
  show G T3 (mkF m 31 #[rv a1, iv 1, rv a2, iv 1, iv 2, iv 1, iv c1] [.int (c1.toInt8.toInt32), .int 1, .ref a2])
  have V'5 := V_a2
  obtain ⟨cl5, Ar5, qk5, sz5, nn5, hs5, ft5⟩ := V'5
  have hin5 : ¬ ((1 : Int32) < 0 ∨ cl5.slots.size ≤ ((1 : Int32)).toNatClampNeg) := inb_of sz5 ⟨by decide, by decide⟩
  obtain ⟨T6, h6, X6, e6, W6, st6⟩ := stB X3 hx hZ e3 Ar5 (j := (1 : Int32)) hin5 (g := (mkF m 31 #[rv a1, iv 1, rv a2, iv 1, iv 2, iv 1, iv c1] [.int (c1.toInt8.toInt32), .int 1, .ref a2])) rfl rfl (hb hby d16_31)
  have V_a2 : Arv Z h6 a2 k2 .byte (2 : Int32) [(.int (nar .byte (c0.toInt8.toInt32))), (.int (nar .byte (c1.toInt8.toInt32)))] (.int (0 : Int32)) := Arv.set Ar5 qk5 sz5 nn5 hs5 ft5 (fits_nar_byte _) W6 1 rfl (Nat.le_of_ble_eq_true rfl)
  have V_a1 := V_a1.other W6 ne_a1_a2
  have O := O.wr W6 g_a2
  have K := K.wr W6 (Or.inl (List.mem_of_getElem? (i := 0) rfl))
  have N := Fr.snoc X6 N g_a2
  refine gb st6 ?_
  show G T6 (mkF m 32 #[rv a1, iv 1, rv a2, iv 1, iv 2, iv 1, iv c1] [])
  refine gb (fun _ k => XS.iinc X6.here hx rfl (hb hby d16_32) rfl (l' := #[rv a1, iv 2, rv a2, iv 1, iv 2, iv 1, iv c1]) rfl (XS.iinc X6.here hx rfl (hb hby d16_35) rfl (l' := #[rv a1, iv 2, rv a2, iv 2, iv 2, iv 1, iv c1]) rfl (XS.iinc X6.here hx rfl (hb hby d16_38) rfl (l' := #[rv a1, iv 2, rv a2, iv 2, iv 2, iv 2, iv c1]) rfl (XS.goto X6.here hx rfl (pc0 := 41) (pc' := 3) rfl (hb hby d16_41) (by decide) (by decide) (XS.iload X6.here hx rfl (hb hby d16_3) rfl (XS.iload X6.here hx rfl (hb hby d16_5) rfl k)))))) ?_
  show G T6 (mkF m 7 #[rv a1, iv 2, rv a2, iv 2, iv 2, iv 2, iv c1] [.int 2, .int 2])
  refine gb (fun _ k => XS.icmpYes X6.here hx rfl (pc0 := 7) (pc' := 44) rfl (hb hby d16_7) rfl (flt (by decide : ¬ ((2 : Int32) < (2 : Int32)))).2.1 (by decide) (by decide) (XS.iload X6.here hx rfl (hb hby d16_44) rfl k)) ?_
  show G T6 (mkF m 46 #[rv a1, iv 2, rv a2, iv 2, iv 2, iv 2, iv c1] [.int 2])
  exact go X6 (v := (some (.int (2 : Int32)))) (fun h => by rw [Bd.returns] at h; cases h) (fun fs hr => retOut X6 hx Bd.returns rfl (Or.inl ⟨rfl, by simp, _, rfl⟩) (hb hby d16_46) hr) (by rw [e6]; exact ⟨rfl, N, K, V_a2⟩) (by decide) (by decide)
def Q_rmC1_2 (Z : State) (a1 : Addr) (k1 : ClassId) (c0 c1 : Int32) (h0 : Heap) (n0 : Nat) : Option Value → Heap → List Loc → Prop := fun v h L => ∃ (b : Addr) (kb : ClassId), v = some (.ref b) ∧ Fr n0 L ∧ Keep h0 h [] ∧ n0 ≤ b ∧ h0.size ≤ b ∧ Arv Z h b kb .byte (2 : Int32) [(.int (nar .byte (c0.toInt8.toInt32))), (.int (nar .byte (c1.toInt8.toInt32)))] (.int (0 : Int32))
set_option maxRecDepth 65536 in
set_option maxHeartbeats 40000000 in
theorem rmC1_2 (l : Launch) (Z : State) (a0 : Array Value) (hw : ∀ d ∈ tables_1, d.before a0 Z = true) (ws : List Jvm.Cond) (a1 : Addr) (k1 : ClassId) (c0 c1 : Int32) (h0 : Heap) (n0 : Nat) (O : Old Z n0 h0) (V_a1 : Arv Z h0 a1 k1 .char (2 : Int32) [(.int c0), (.int c1)] (.int (0 : Int32))) (hb0 : ¬ ((255 : Int32) < c0)) (hb1 : ¬ ((255 : Int32) < c1)) :
    MetFree l (⟨"java/lang/StringUTF16", "compress", "([CII)[B"⟩ : MethodName) (head1 (Jvm.Cond.code (⟨"java/lang/StringUTF16", "compress", "([CII)[B"⟩ : MethodName) jdk_52_method_16_code 6 (some (.array .byte)) :: ws) ({ frames := 1, cells := 1, slots := 2, locals := 18 } : Room)) (fun a U => a = #[(.ref a1), (.int (0 : Int32)), (.int (2 : Int32))] ∧ Z.Warmed39 U.vm ∧ U.heap = h0) (fun _ _ _ _ _ => True) (fun _ U o U' => ∃ v L, o = .returned v ∧ (Q_rmC1_2 Z a1 k1 c0 c1 h0 n0) v U'.heap L ∧ FrameEnd U o U' L ({ frames := 1, cells := 1, slots := 2, locals := 18 } : Room).cells ({ frames := 1, cells := 1, slots := 2, locals := 18 } : Room).slots) := by
  refine MetFree.of_bodySF (plainFor_of_name pn_0) hisR ?_
  intro p e s m args below meth c s₁ Bd hml0 hP hK
  obtain ⟨rfl, hZ, hh⟩ := hP
  have hx := Bd.exec
  have hby := Bd.bytes
  have hml : c.maxLocals = 6 := hml0
  have hown : s.vm.findClass "java/lang/StringUTF16" = some m.cls := findClass_of_methodNamed Bd.named
  have hnm := (name_of_methodNamed Bd.named Bd.method).1
  have hlk := BodyLoose.notSynchronized Bd
  have X0 : Stand p l e ({ frames := 1, cells := 1, slots := 2, locals := 18 } : Room) s m #[(.ref a1), (.int (0 : Int32)), (.int (2 : Int32))] below meth c s₁ [] 0 0 := Stand.of_body Bd
  have e0 : s₁.heap = h0 := by rw [← hh, Bd.state]; rfl
  have N := Fr.nil n0
  have K := Keep.refl h0 []
  obtain ⟨G, hG⟩ : ∃ G : State → JFrame → Prop, G = OwnG p e below s ({ frames := 1, cells := 1, slots := 2, locals := 18 } : Room).cells ({ frames := 1, cells := 1, slots := 2, locals := 18 } : Room).slots (Q_rmC1_2 Z a1 k1 c0 c1 h0 n0) := ⟨_, rfl⟩
  have gb : ∀ {T T' : State} {g g' : JFrame}, (∀ t, Steps p.tables e below (T'.setTop g') t → Steps p.tables e below (T.setTop g) t) → G T' g' → G T g := by subst hG; exact fun k h => own_by k h
  have go : ∀ {T : State} {locs : List Loc} {cells slots : Nat} {g : JFrame} {v : Option Value}, Stand p l e ({ frames := 1, cells := 1, slots := 2, locals := 18 } : Room) s m #[(.ref a1), (.int (0 : Int32)), (.int (2 : Int32))] below meth c T locs cells slots → (meth.sig.returnType = none → v = none) → (∀ fs, (∀ (f : JFrame) (acts : List Action), f.method = m → f.locked = none → f.entered = [] → (doReturn e (T.setTop f) acts v).1 = T.setFrames fs) → Steps p.tables e below (T.setTop g) (T.setFrames fs)) → (Q_rmC1_2 Z a1 k1 c0 c1 h0 n0) v T.heap locs → cells ≤ ({ frames := 1, cells := 1, slots := 2, locals := 18 } : Room).cells → slots ≤ ({ frames := 1, cells := 1, slots := 2, locals := 18 } : Room).slots → G T g := by subst hG; exact fun X h1 h2 h3 h4 h5 => own_out X hlk h1 h2 h3 h4 h5
  show OwnG p e below s ({ frames := 1, cells := 1, slots := 2, locals := 18 } : Room).cells ({ frames := 1, cells := 1, slots := 2, locals := 18 } : Room).slots (Q_rmC1_2 Z a1 k1 c0 c1 h0 n0) s₁ (entryFrame m #[(.ref a1), (.int (0 : Int32)), (.int (2 : Int32))] 6)
  rw [← hG, ef_rmC1_2 m a1 (0 : Int32) (2 : Int32)]
  clear hG
  show G s₁ (mkF m 0 #[.val (.ref a1), .val (.int (0 : Int32)), .val (.int (2 : Int32)), .unset, .unset, .unset] [])
  refine gb (fun _ k => XS.iloadN X0.here hx rfl (hb hby d15_0) rfl k) ?_
  show G s₁ (mkF m 1 #[rv a1, iv 0, iv 2, .unset, .unset, .unset] [.int 2])
  obtain ⟨T1, h1, kA1, X1, e1, E1, A1, st1⟩ := newP X0 hx hZ (ow hw 10 rfl) e0 (g := (mkF m 1 #[rv a1, iv 0, iv 2, .unset, .unset, .unset] [.int 2])) rfl (hb hby d15_1) rfl (by decide) (cap := 2) (by decide) (by decide) (by decide) (by decide)
  obtain ⟨b1, g1⟩ : ∃ z, z = h0.size := ⟨_, rfl⟩
  rw [← g1] at A1 st1
  have g_b1 : n0 ≤ b1 := Nat.le_trans (by have := O.2.1; rw [O.1] at this; exact this) (Nat.le_of_eq g1.symm)
  have sz_b1 : h0.size ≤ b1 := Nat.le_trans K.1 (Nat.le_of_eq g1.symm)
  have ne_a1_b1 : a1 ≠ b1 := Nat.ne_of_lt (Nat.lt_of_lt_of_le V_a1.lt (Nat.le_of_eq g1.symm))
  have V_a1 := V_a1.ext E1
  have O := O.ext E1
  have K := K.ext E1
  have V_b1 : Arv Z h1 b1 kA1 .byte (2 : Int32) [(.int (0 : Int32)), (.int (0 : Int32))] (.int (0 : Int32)) := (Arv.new A1 (by decide)).pad (pad_rep [] (.int (0 : Int32)) 2)
  refine gb st1 ?_
  show G T1 (mkF m 3 #[rv a1, iv 0, iv 2, .unset, .unset, .unset] [.ref b1])
  refine gb (fun _ k => XS.astoreN X1.here hx rfl (hb hby d15_3) rfl rfl (l' := #[rv a1, iv 0, iv 2, rv b1, .unset, .unset]) rfl (XS.aloadN X1.here hx rfl (hb hby d15_4) rfl rfl (XS.iloadN X1.here hx rfl (hb hby d15_5) rfl (XS.aloadN X1.here hx rfl (hb hby d15_6) rfl rfl (XS.iconst X1.here hx rfl (hb hby d15_7) (XS.iloadN X1.here hx rfl (hb hby d15_8) rfl k)))))) ?_
  show G T1 (mkF m 9 #[rv a1, iv 0, iv 2, rv b1, .unset, .unset] [.int 2, .int 0, .ref b1, .int 0, .ref a1])
  obtain ⟨_, _, ⟨T2, Lz2, kz2, nz2⟩, -, X2, ⟨Lc2, hQ2, lq2, yq2, zq2⟩, st2⟩ := Jvm.LawKit.callS X1 hx (y := (⟨"java/lang/StringUTF16", "compress", "([CI[BII)I"⟩ : MethodName)) hown (mvT hZ (ow hw 101 rfl)) (mvT hZ (ow hw 102 rfl)) (mvT hZ (ow hw 99 rfl)) (mvT hZ (ow hw 103 rfl)) (by decide) (backOf (W := 0) (rmC2_2 l Z a0 hw [] a1 b1 k1 kA1 c0 c1 h1 n0 O V_a1 V_b1 g_b1 ne_a1_b1 hb0 hb1) hZ (ow hw 103 rfl) (ow hw 99 rfl) (by decide) (by decide)) (g := (mkF m 9 #[rv a1, iv 0, iv 2, rv b1, .unset, .unset] [.int 2, .int 0, .ref b1, .int 0, .ref a1])) rfl (by rw [hml]; rfl) (argsL := [(.ref a1), (.int (0 : Int32)), (.ref b1), (.int (0 : Int32)), (.int (2 : Int32))]) (rest := []) (lenOf pd_0 rfl) rfl (by show 2 * 0 + _ ≤ _; exact Nat.le_of_eq rfl) (hb hby d15_9) (fun _ _ => ⟨rfl, e1, (by decide : 1 + 0 ≤ _), (by decide : 2 + 0 ≤ _)⟩)
  dsimp only [Pt.U, Pt.locs, Pt.cells, Pt.slots] at X2 lq2 yq2 zq2 st2 hQ2
  subst lq2 yq2 zq2
  obtain ⟨h2, e2⟩ : ∃ z, z = T2.heap := ⟨_, rfl⟩
  rw [← e2] at hQ2
  replace e2 := e2.symm
  obtain ⟨rfl, Nq2, Kq2, hR2⟩ := hQ2
  have N := Fr.app N Nq2
  have V_a1 := V_a1.keep Kq2 (ninS ne_a1_b1 nin0)
  have V_b1 := hR2
  have O := O.keep Kq2 (allS g_b1 all0)
  have K := K.trans Kq2 (allS (Or.inr sz_b1) all0)
  refine gb st2 ?_
  show G T2 (mkF m 12 #[rv a1, iv 0, iv 2, rv b1, .unset, .unset] [.int 2])
  refine gb (fun _ k => XS.istore X2.here hx rfl (hb hby d15_12) rfl (l' := #[rv a1, iv 0, iv 2, rv b1, iv 2, .unset]) rfl (XS.iload X2.here hx rfl (hb hby d15_14) rfl (XS.iloadN X2.here hx rfl (hb hby d15_16) rfl (XS.icmpYes X2.here hx rfl (pc0 := 17) (pc' := 57) rfl (hb hby d15_17) rfl (teq (by decide : (2 : Int32) = (2 : Int32))).1 (by decide) (by decide) (XS.aloadN X2.here hx rfl (hb hby d15_57) rfl rfl k))))) ?_
  show G T2 (mkF m 58 #[rv a1, iv 0, iv 2, rv b1, iv 2, .unset] [.ref b1])
  exact go X2 (v := (some (.ref b1))) (fun h => by rw [Bd.returns] at h; cases h) (fun fs hr => retOut X2 hx Bd.returns rfl (Or.inr (Or.inr (Or.inr (Or.inr ⟨rfl, rfl, rfl⟩)))) (hb hby d15_58) hr) (by rw [e2]; exact ⟨_, _, rfl, N, K, g_b1, sz_b1, V_b1⟩) (by decide) (by decide)
def Q_rmCo_2 (Z : State) (a1 : Addr) (k1 : ClassId) (vs1 : List Value) (h0 : Heap) (n0 : Nat) : Option Value → Heap → List Loc → Prop := fun v h L => v = some (.int (0 : Int32)) ∧ L = [] ∧ h = h0
set_option maxRecDepth 65536 in
set_option maxHeartbeats 40000000 in
theorem rmCo_2 (l : Launch) (Z : State) (a0 : Array Value) (hw : ∀ d ∈ tables_1, d.before a0 Z = true) (ws : List Jvm.Cond) (a1 : Addr) (k1 : ClassId) (vs1 : List Value) (h0 : Heap) (n0 : Nat) (O : Old Z n0 h0) (V_a1 : Arv Z h0 a1 k1 .byte (2 : Int32) vs1 (.int (0 : Int32))) :
    MetFree l (⟨"java/lang/StringUTF16", "coderFromArrayLen", "([BI)B"⟩ : MethodName) (head1 (Jvm.Cond.code (⟨"java/lang/StringUTF16", "coderFromArrayLen", "([BI)B"⟩ : MethodName) jdk_52_method_15_code 2 (some .byte) :: ws) ({ frames := 0, cells := 0, slots := 0, locals := 0 } : Room)) (fun a U => a = #[(.ref a1), (.int (2 : Int32))] ∧ Z.Warmed39 U.vm ∧ U.heap = h0) (fun _ _ _ _ _ => True) (fun _ U o U' => ∃ v L, o = .returned v ∧ (Q_rmCo_2 Z a1 k1 vs1 h0 n0) v U'.heap L ∧ FrameEnd U o U' L ({ frames := 0, cells := 0, slots := 0, locals := 0 } : Room).cells ({ frames := 0, cells := 0, slots := 0, locals := 0 } : Room).slots) := by
  refine MetFree.of_bodySF (plainFor_of_name pn_0) hisR ?_
  intro p e s m args below meth c s₁ Bd hml0 hP hK
  obtain ⟨rfl, hZ, hh⟩ := hP
  have hx := Bd.exec
  have hby := Bd.bytes
  have hml : c.maxLocals = 2 := hml0
  have hown : s.vm.findClass "java/lang/StringUTF16" = some m.cls := findClass_of_methodNamed Bd.named
  have hnm := (name_of_methodNamed Bd.named Bd.method).1
  have hlk := BodyLoose.notSynchronized Bd
  have X0 : Stand p l e ({ frames := 0, cells := 0, slots := 0, locals := 0 } : Room) s m #[(.ref a1), (.int (2 : Int32))] below meth c s₁ [] 0 0 := Stand.of_body Bd
  have e0 : s₁.heap = h0 := by rw [← hh, Bd.state]; rfl
  have N := Fr.nil n0
  obtain ⟨G, hG⟩ : ∃ G : State → JFrame → Prop, G = OwnG p e below s ({ frames := 0, cells := 0, slots := 0, locals := 0 } : Room).cells ({ frames := 0, cells := 0, slots := 0, locals := 0 } : Room).slots (Q_rmCo_2 Z a1 k1 vs1 h0 n0) := ⟨_, rfl⟩
  have gb : ∀ {T T' : State} {g g' : JFrame}, (∀ t, Steps p.tables e below (T'.setTop g') t → Steps p.tables e below (T.setTop g) t) → G T' g' → G T g := by subst hG; exact fun k h => own_by k h
  have go : ∀ {T : State} {locs : List Loc} {cells slots : Nat} {g : JFrame} {v : Option Value}, Stand p l e ({ frames := 0, cells := 0, slots := 0, locals := 0 } : Room) s m #[(.ref a1), (.int (2 : Int32))] below meth c T locs cells slots → (meth.sig.returnType = none → v = none) → (∀ fs, (∀ (f : JFrame) (acts : List Action), f.method = m → f.locked = none → f.entered = [] → (doReturn e (T.setTop f) acts v).1 = T.setFrames fs) → Steps p.tables e below (T.setTop g) (T.setFrames fs)) → (Q_rmCo_2 Z a1 k1 vs1 h0 n0) v T.heap locs → cells ≤ ({ frames := 0, cells := 0, slots := 0, locals := 0 } : Room).cells → slots ≤ ({ frames := 0, cells := 0, slots := 0, locals := 0 } : Room).slots → G T g := by subst hG; exact fun X h1 h2 h3 h4 h5 => own_out X hlk h1 h2 h3 h4 h5
  show OwnG p e below s ({ frames := 0, cells := 0, slots := 0, locals := 0 } : Room).cells ({ frames := 0, cells := 0, slots := 0, locals := 0 } : Room).slots (Q_rmCo_2 Z a1 k1 vs1 h0 n0) s₁ (entryFrame m #[(.ref a1), (.int (2 : Int32))] 2)
  rw [← hG, ef_rmCo_2 m a1 (2 : Int32)]
  clear hG
  show G s₁ (mkF m 0 #[.val (.ref a1), .val (.int (2 : Int32))] [])
  refine gb (fun _ k => XS.iloadN X0.here hx rfl (hb hby d17_0) rfl (XS.aloadN X0.here hx rfl (hb hby d17_1) rfl rfl k)) ?_
  show G s₁ (mkF m 2 #[rv a1, iv 2] [.ref a1, .int 2])
  have V'1 := V_a1
  obtain ⟨cl1, Ar1, qk1, sz1, nn1, hs1, ft1⟩ := V'1
  refine gb (X0.arraylength hx (by rw [e0]; exact Ar1.1) (State.isArrayOf_alike hZ.alike Ar1.2.1) (g := (mkF m 2 #[rv a1, iv 2] [.ref a1, .int 2])) rfl rfl (hb hby d17_2)) ?_
  rw [len_of sz1 nn1]
  show G s₁ (mkF m 3 #[rv a1, iv 2] [.int 2, .int 2])
  refine gb (fun _ k => XS.isub X0.here hx rfl (hb hby d17_3) rfl (XS.bipush X0.here hx rfl (hb hby d17_4) (XS.iushr X0.here hx rfl (hb hby d17_6) rfl (XS.i2b X0.here hx rfl (hb hby d17_7) rfl k)))) ?_
  show G s₁ (mkF m 8 #[rv a1, iv 2] [.int 0])
  exact go X0 (v := (some (.int (0 : Int32)))) (fun h => by rw [Bd.returns] at h; cases h) (fun fs hr => retOut X0 hx Bd.returns rfl (Or.inl ⟨rfl, by simp, _, rfl⟩) (hb hby d17_8) hr) (⟨rfl, rfl, e0⟩) (by decide) (by decide)
def Q_rmS4_2 (Z : State) (a1 a2 : Addr) (k2 : ClassId) (c0 c1 : Int32) (h0 : Heap) (n0 : Nat) (zc : Int32) : Option Value → Heap → List Loc → Prop := fun v h L => ∃ (b : Addr) (kb : ClassId), v = none ∧ Fr n0 L ∧ Keep h0 h [a1] ∧ Exa Z h a1 "java/lang/String" ∧ Fld Z h a1 "java/lang/String" "coder" "B" (.int (0 : Int32)) ∧ Fld Z h a1 "java/lang/String" "value" "[B" (.ref b) ∧ n0 ≤ b ∧ h0.size ≤ b ∧ Arv Z h b kb .byte (2 : Int32) [(.int (nar .byte (c0.toInt8.toInt32))), (.int (nar .byte (c1.toInt8.toInt32)))] (.int (0 : Int32))
set_option maxRecDepth 65536 in
set_option maxHeartbeats 40000000 in
theorem rmS4_2 (l : Launch) (Z : State) (a0 : Array Value) (hw : ∀ d ∈ tables_1, d.before a0 Z = true) (ws : List Jvm.Cond) (a1 a2 : Addr) (k2 : ClassId) (c0 c1 : Int32) (h0 : Heap) (n0 : Nat) (O : Old Z n0 h0) (E_a1 : Exa Z h0 a1 "java/lang/String") (F_coder_a1 : Fld Z h0 a1 "java/lang/String" "coder" "B" (.int (0 : Int32))) (F_value_a1 : Fld Z h0 a1 "java/lang/String" "value" "[B" .null) (g_a1 : n0 ≤ a1) (V_a2 : Arv Z h0 a2 k2 .char (2 : Int32) [(.int c0), (.int c1)] (.int (0 : Int32))) (ne_a2_a1 : a2 ≠ a1) (hb0 : ¬ ((255 : Int32) < c0)) (hb1 : ¬ ((255 : Int32) < c1)) (zc : Int32) (S_cs : Sta Z Z.heap "java/lang/String" "COMPACT_STRINGS" "Z" (.int zc)) (hzc : ¬ zc = (0 : Int32)) :
    MetFree l (⟨"java/lang/String", "<init>", "([CIILjava/lang/Void;)V"⟩ : MethodName) (head1 (Jvm.Cond.code (⟨"java/lang/String", "<init>", "([CIILjava/lang/Void;)V"⟩ : MethodName) jdk_42_method_149_code 6 none :: ws) ({ frames := 2, cells := 1, slots := 2, locals := 35 } : Room)) (fun a U => a = #[(.ref a1), (.ref a2), (.int (0 : Int32)), (.int (2 : Int32)), .null] ∧ Z.Warmed39 U.vm ∧ U.heap = h0) (fun _ _ _ _ _ => True) (fun _ U o U' => ∃ v L, o = .returned v ∧ (Q_rmS4_2 Z a1 a2 k2 c0 c1 h0 n0 zc) v U'.heap L ∧ FrameEnd U o U' L ({ frames := 2, cells := 1, slots := 2, locals := 35 } : Room).cells ({ frames := 2, cells := 1, slots := 2, locals := 35 } : Room).slots) := by
  refine MetFree.of_bodySF (plainFor_of_name pn_1) hisR ?_
  intro p e s m args below meth c s₁ Bd hml0 hP hK
  obtain ⟨rfl, hZ, hh⟩ := hP
  have hx := Bd.exec
  have hby := Bd.bytes
  have hml : c.maxLocals = 6 := hml0
  have hown : s.vm.findClass "java/lang/String" = some m.cls := findClass_of_methodNamed Bd.named
  have hnm := (name_of_methodNamed Bd.named Bd.method).1
  have hlk := BodyLoose.notSynchronized Bd
  have X0 : Stand p l e ({ frames := 2, cells := 1, slots := 2, locals := 35 } : Room) s m #[(.ref a1), (.ref a2), (.int (0 : Int32)), (.int (2 : Int32)), .null] below meth c s₁ [] 0 0 := Stand.of_body Bd
  have e0 : s₁.heap = h0 := by rw [← hh, Bd.state]; rfl
  have N := Fr.nil n0
  have K := Keep.refl h0 [a1]
  obtain ⟨G, hG⟩ : ∃ G : State → JFrame → Prop, G = OwnG p e below s ({ frames := 2, cells := 1, slots := 2, locals := 35 } : Room).cells ({ frames := 2, cells := 1, slots := 2, locals := 35 } : Room).slots (Q_rmS4_2 Z a1 a2 k2 c0 c1 h0 n0 zc) := ⟨_, rfl⟩
  have gb : ∀ {T T' : State} {g g' : JFrame}, (∀ t, Steps p.tables e below (T'.setTop g') t → Steps p.tables e below (T.setTop g) t) → G T' g' → G T g := by subst hG; exact fun k h => own_by k h
  have go : ∀ {T : State} {locs : List Loc} {cells slots : Nat} {g : JFrame} {v : Option Value}, Stand p l e ({ frames := 2, cells := 1, slots := 2, locals := 35 } : Room) s m #[(.ref a1), (.ref a2), (.int (0 : Int32)), (.int (2 : Int32)), .null] below meth c T locs cells slots → (meth.sig.returnType = none → v = none) → (∀ fs, (∀ (f : JFrame) (acts : List Action), f.method = m → f.locked = none → f.entered = [] → (doReturn e (T.setTop f) acts v).1 = T.setFrames fs) → Steps p.tables e below (T.setTop g) (T.setFrames fs)) → (Q_rmS4_2 Z a1 a2 k2 c0 c1 h0 n0 zc) v T.heap locs → cells ≤ ({ frames := 2, cells := 1, slots := 2, locals := 35 } : Room).cells → slots ≤ ({ frames := 2, cells := 1, slots := 2, locals := 35 } : Room).slots → G T g := by subst hG; exact fun X h1 h2 h3 h4 h5 => own_out X hlk h1 h2 h3 h4 h5
  show OwnG p e below s ({ frames := 2, cells := 1, slots := 2, locals := 35 } : Room).cells ({ frames := 2, cells := 1, slots := 2, locals := 35 } : Room).slots (Q_rmS4_2 Z a1 a2 k2 c0 c1 h0 n0 zc) s₁ (entryFrame m #[(.ref a1), (.ref a2), (.int (0 : Int32)), (.int (2 : Int32)), .null] 6)
  rw [← hG, ef_rmS4_2 m a1 a2 (0 : Int32) (2 : Int32)]
  clear hG
  show G s₁ (mkF m 0 #[.val (.ref a1), .val (.ref a2), .val (.int (0 : Int32)), .val (.int (2 : Int32)), .val .null, .unset] [])
  refine gb (fun _ k => XS.aloadN X0.here hx rfl (hb hby d14_0) rfl rfl k) ?_
  show G s₁ (mkF m 1 #[rv a1, rv a2, iv 0, iv 2, .val .null, .unset] [.ref a1])
  obtain ⟨T1, X1, e1, st1⟩ := initO X0 hx hZ hown (ow hw 96 rfl) (ow hw 19 rfl) (ow hw 20 rfl) e0 (g := (mkF m 1 #[rv a1, rv a2, iv 0, iv 2, .val .null, .unset] [.ref a1])) rfl (by rw [hml]; rfl) rfl (hb hby d14_1) (by decide) (W := 0) (by show 2 * 0 + _ ≤ _; exact Nat.le_of_eq rfl) (by decide)
  refine gb st1 ?_
  show G T1 (mkF m 4 #[rv a1, rv a2, iv 0, iv 2, .val .null, .unset] [])
  refine gb (fun _ k => XS.iloadN X1.here hx rfl (hb hby d14_4) rfl (XS.ifYes X1.here hx rfl (pc0 := 5) (pc' := 27) rfl (hb hby d14_5) rfl ((if0 _ _).trans (feq (by decide : ¬ ((2 : Int32) = (0 : Int32)))).2) (by decide) (by decide) k)) ?_
  show G T1 (mkF m 27 #[rv a1, rv a2, iv 0, iv 2, .val .null, .unset] [])
  obtain ⟨T2, X2, e2, st2⟩ := getS2 X1 hx hZ hown (host := "") (Or.inl (ow hw 42 rfl)) Via.refl e1 (S_cs.ext O.2) (g := (mkF m 27 #[rv a1, rv a2, iv 0, iv 2, .val .null, .unset] [])) rfl (hb hby d14_27)
  refine gb st2 ?_
  show G T2 (mkF m 30 #[rv a1, rv a2, iv 0, iv 2, .val .null, .unset] [.int zc])
  refine gb (fun _ k => XS.ifNo X2.here hx rfl (hb hby d14_30) rfl ((if0 _ _).trans (feq hzc).1) (XS.aloadN X2.here hx rfl (hb hby d14_33) rfl rfl (XS.iloadN X2.here hx rfl (hb hby d14_34) rfl (XS.iloadN X2.here hx rfl (hb hby d14_35) rfl k)))) ?_
  show G T2 (mkF m 36 #[rv a1, rv a2, iv 0, iv 2, .val .null, .unset] [.int 2, .int 0, .ref a2])
  have lt_a1 := E_a1.lt
  have lt_a2 := V_a2.lt
  have szK := K.1
  obtain ⟨_, _, ⟨T3, Lz3, kz3, nz3⟩, -, X3, ⟨Lc3, hQ3, lq3, yq3, zq3⟩, st3⟩ := Jvm.LawKit.callS X2 hx (y := (⟨"java/lang/StringUTF16", "compress", "([CII)[B"⟩ : MethodName)) hown (mvT hZ (ow hw 97 rfl)) (mvT hZ (ow hw 98 rfl)) (mvT hZ (ow hw 99 rfl)) (mvT hZ (ow hw 100 rfl)) (by decide) (backOf (W := 0) (rmC1_2 l Z a0 hw [] a2 k2 c0 c1 h0 n0 O V_a2 hb0 hb1) hZ (ow hw 100 rfl) (ow hw 99 rfl) (by decide) (by decide)) (g := (mkF m 36 #[rv a1, rv a2, iv 0, iv 2, .val .null, .unset] [.int 2, .int 0, .ref a2])) rfl (by rw [hml]; rfl) (argsL := [(.ref a2), (.int (0 : Int32)), (.int (2 : Int32))]) (rest := []) (lenOf pd_1 rfl) rfl (by show 2 * 0 + _ ≤ _; exact Nat.le_of_eq rfl) (hb hby d14_36) (fun _ _ => ⟨rfl, e2, (by decide : 0 + 1 ≤ _), (by decide : 0 + 2 ≤ _)⟩)
  dsimp only [Pt.U, Pt.locs, Pt.cells, Pt.slots] at X3 lq3 yq3 zq3 st3 hQ3
  subst lq3 yq3 zq3
  obtain ⟨h3, e3⟩ : ∃ z, z = T3.heap := ⟨_, rfl⟩
  rw [← e3] at hQ3
  replace e3 := e3.symm
  obtain ⟨b3, kb3, rfl, Nq3, Kq3, hR3⟩ := hQ3
  have N := Fr.app N Nq3
  have E_a1 := E_a1.keep Kq3
  have F_coder_a1 := F_coder_a1.keep Kq3 nin0
  have F_value_a1 := F_value_a1.keep Kq3 nin0
  have V_a2 := V_a2.keep Kq3 nin0
  obtain ⟨g_b3, sz_b3, V_b3⟩ := hR3
  have O := O.keep Kq3 all0
  have K := K.trans Kq3 all0
  have ne_a1_b3 : a1 ≠ b3 := Nat.ne_of_lt (Nat.lt_of_lt_of_le lt_a1 sz_b3)
  have ne_a2_b3 : a2 ≠ b3 := Nat.ne_of_lt (Nat.lt_of_lt_of_le lt_a2 sz_b3)
  have sz_b3 := Nat.le_trans szK sz_b3
  refine gb st3 ?_
  show G T3 (mkF m 39 #[rv a1, rv a2, iv 0, iv 2, .val .null, .unset] [.ref b3])
  refine gb (fun _ k => XS.astore X3.here hx rfl (hb hby d14_39) rfl rfl (l' := #[rv a1, rv a2, iv 0, iv 2, .val .null, rv b3]) rfl (XS.aloadN X3.here hx rfl (hb hby d14_41) rfl rfl (XS.aload X3.here hx rfl (hb hby d14_42) rfl rfl (XS.iloadN X3.here hx rfl (hb hby d14_44) rfl k)))) ?_
  show G T3 (mkF m 45 #[rv a1, rv a2, iv 0, iv 2, .val .null, rv b3] [.int 2, .ref b3, .ref a1])
  obtain ⟨_, _, ⟨T4, Lz4, kz4, nz4⟩, -, X4, ⟨Lc4, hQ4, lq4, yq4, zq4⟩, st4⟩ := Jvm.LawKit.callS X3 hx (y := (⟨"java/lang/StringUTF16", "coderFromArrayLen", "([BI)B"⟩ : MethodName)) hown (mvT hZ (ow hw 104 rfl)) (mvT hZ (ow hw 105 rfl)) (mvT hZ (ow hw 99 rfl)) (mvT hZ (ow hw 106 rfl)) (by decide) (backOf (W := 1) (rmCo_2 l Z a0 hw [] b3 kb3 _ h3 n0 O V_b3) hZ (ow hw 106 rfl) (ow hw 99 rfl) (by decide) (by decide)) (g := (mkF m 45 #[rv a1, rv a2, iv 0, iv 2, .val .null, rv b3] [.int 2, .ref b3, .ref a1])) rfl (by rw [hml]; rfl) (argsL := [(.ref b3), (.int (2 : Int32))]) (rest := [(.ref a1)]) (lenOf pd_2 rfl) rfl (by show 2 * 0 + _ ≤ _; exact Nat.le_of_eq rfl) (hb hby d14_45) (fun _ _ => ⟨rfl, e3, (by decide : 1 + 0 ≤ _), (by decide : 2 + 0 ≤ _)⟩)
  dsimp only [Pt.U, Pt.locs, Pt.cells, Pt.slots] at X4 lq4 yq4 zq4 st4 hQ4
  subst lq4 yq4 zq4
  obtain ⟨rfl, rfl, e4⟩ := hQ4
  try rw [List.append_nil] at X4
  refine gb st4 ?_
  show G T4 (mkF m 48 #[rv a1, rv a2, iv 0, iv 2, .val .null, rv b3] [.int 0, .ref a1])
  obtain ⟨T5, h5, X5, e5, W5, st5⟩ := putFN X4 hx hZ hown (ow hw 43 rfl) Via.refl e4 F_coder_a1 E_a1 (Or.inr ⟨(ow hw 12 rfl), rfl, hnm⟩) (ow hw 9 rfl) (ty := .byte) (v' := (.int (0 : Int32))) (by decide) rfl (by decide) (g := (mkF m 48 #[rv a1, rv a2, iv 0, iv 2, .val .null, rv b3] [.int 0, .ref a1])) rfl rfl (hb hby d14_48)
  refine gb st5 ?_
  have F_coder_a1 := F_coder_a1.same W5
  have E_a1 := E_a1.wr W5
  have F_value_a1 := F_value_a1.other W5 (Or.inr (slot_ne (Or.inr (ow hw 11 rfl)) (Or.inr (ow hw 12 rfl)) (by decide) (t := (.array .byte)) (t' := .byte) (by decide) (by decide)))
  have V_a2 := V_a2.other W5 ne_a2_a1
  have V_b3 := V_b3.other W5 (Ne.symm ne_a1_b3)
  have O := O.wr W5 g_a1
  have K := K.wr W5 (Or.inl (List.mem_of_getElem? (i := 0) rfl))
  have N := Fr.snoc X5 N g_a1
  show G T5 (mkF m 51 #[rv a1, rv a2, iv 0, iv 2, .val .null, rv b3] [])
  refine gb (fun _ k => XS.aloadN X5.here hx rfl (hb hby d14_51) rfl rfl (XS.aload X5.here hx rfl (hb hby d14_52) rfl rfl k)) ?_
  show G T5 (mkF m 54 #[rv a1, rv a2, iv 0, iv 2, .val .null, rv b3] [.ref b3, .ref a1])
  obtain ⟨T6, h6, X6, e6, W6, st6⟩ := putF X5 hx hZ hown (host := "") (Or.inl (ow hw 36 rfl)) Via.refl e5 F_value_a1 E_a1 (Or.inr ⟨(ow hw 11 rfl), rfl, hnm⟩) (ow hw 9 rfl) (ty := (.array .byte)) (by decide) rfl rfl (g := (mkF m 54 #[rv a1, rv a2, iv 0, iv 2, .val .null, rv b3] [.ref b3, .ref a1])) rfl rfl (hb hby d14_54)
  refine gb st6 ?_
  have F_value_a1 := F_value_a1.same W6
  have E_a1 := E_a1.wr W6
  have V_a2 := V_a2.other W6 ne_a2_a1
  have V_b3 := V_b3.other W6 (Ne.symm ne_a1_b3)
  have F_coder_a1 := F_coder_a1.other W6 (Or.inr (slot_ne (Or.inr (ow hw 12 rfl)) (Or.inr (ow hw 11 rfl)) (by decide) (t := .byte) (t' := (.array .byte)) (by decide) (by decide)))
  have O := O.wr W6 g_a1
  have K := K.wr W6 (Or.inl (List.mem_of_getElem? (i := 0) rfl))
  have N := Fr.snoc X6 N g_a1
  show G T6 (mkF m 57 #[rv a1, rv a2, iv 0, iv 2, .val .null, rv b3] [])
  exact go X6 (v := none) (fun _ => rfl) (fun fs hr => X6.returnOut hx Bd.returns (hb hby d14_57) hr) (by rw [e6]; exact ⟨_, _, rfl, N, K, E_a1, F_coder_a1, F_value_a1, g_b3, sz_b3, V_b3⟩) (by decide) (by decide)
def Q_rmS1_2 (Z : State) (a1 a2 : Addr) (k2 : ClassId) (c0 c1 : Int32) (h0 : Heap) (n0 : Nat) (zc : Int32) : Option Value → Heap → List Loc → Prop := fun v h L => ∃ (b : Addr) (kb : ClassId), v = none ∧ Fr n0 L ∧ Keep h0 h [a1] ∧ Exa Z h a1 "java/lang/String" ∧ Fld Z h a1 "java/lang/String" "coder" "B" (.int (0 : Int32)) ∧ Fld Z h a1 "java/lang/String" "value" "[B" (.ref b) ∧ n0 ≤ b ∧ h0.size ≤ b ∧ Arv Z h b kb .byte (2 : Int32) [(.int (nar .byte (c0.toInt8.toInt32))), (.int (nar .byte (c1.toInt8.toInt32)))] (.int (0 : Int32))
set_option maxRecDepth 65536 in
set_option maxHeartbeats 40000000 in
theorem rmS1_2 (l : Launch) (Z : State) (a0 : Array Value) (hw : ∀ d ∈ tables_1, d.before a0 Z = true) (ws : List Jvm.Cond) (a1 a2 : Addr) (k2 : ClassId) (c0 c1 : Int32) (h0 : Heap) (n0 : Nat) (O : Old Z n0 h0) (E_a1 : Exa Z h0 a1 "java/lang/String") (F_coder_a1 : Fld Z h0 a1 "java/lang/String" "coder" "B" (.int (0 : Int32))) (F_value_a1 : Fld Z h0 a1 "java/lang/String" "value" "[B" .null) (g_a1 : n0 ≤ a1) (V_a2 : Arv Z h0 a2 k2 .char (2 : Int32) [(.int c0), (.int c1)] (.int (0 : Int32))) (ne_a2_a1 : a2 ≠ a1) (hb0 : ¬ ((255 : Int32) < c0)) (hb1 : ¬ ((255 : Int32) < c1)) (zc : Int32) (S_cs : Sta Z Z.heap "java/lang/String" "COMPACT_STRINGS" "Z" (.int zc)) (hzc : ¬ zc = (0 : Int32)) :
    MetFree l (⟨"java/lang/String", "<init>", "([C)V"⟩ : MethodName) (head1 (Jvm.Cond.code (⟨"java/lang/String", "<init>", "([C)V"⟩ : MethodName) jdk_42_method_3_code 2 none :: ws) ({ frames := 3, cells := 1, slots := 2, locals := 52 } : Room)) (fun a U => a = #[(.ref a1), (.ref a2)] ∧ Z.Warmed39 U.vm ∧ U.heap = h0) (fun _ _ _ _ _ => True) (fun _ U o U' => ∃ v L, o = .returned v ∧ (Q_rmS1_2 Z a1 a2 k2 c0 c1 h0 n0 zc) v U'.heap L ∧ FrameEnd U o U' L ({ frames := 3, cells := 1, slots := 2, locals := 52 } : Room).cells ({ frames := 3, cells := 1, slots := 2, locals := 52 } : Room).slots) := by
  refine MetFree.of_bodySF (plainFor_of_name pn_1) hisR ?_
  intro p e s m args below meth c s₁ Bd hml0 hP hK
  obtain ⟨rfl, hZ, hh⟩ := hP
  have hx := Bd.exec
  have hby := Bd.bytes
  have hml : c.maxLocals = 2 := hml0
  have hown : s.vm.findClass "java/lang/String" = some m.cls := findClass_of_methodNamed Bd.named
  have hnm := (name_of_methodNamed Bd.named Bd.method).1
  have hlk := BodyLoose.notSynchronized Bd
  have X0 : Stand p l e ({ frames := 3, cells := 1, slots := 2, locals := 52 } : Room) s m #[(.ref a1), (.ref a2)] below meth c s₁ [] 0 0 := Stand.of_body Bd
  have e0 : s₁.heap = h0 := by rw [← hh, Bd.state]; rfl
  have N := Fr.nil n0
  have K := Keep.refl h0 [a1]
  obtain ⟨G, hG⟩ : ∃ G : State → JFrame → Prop, G = OwnG p e below s ({ frames := 3, cells := 1, slots := 2, locals := 52 } : Room).cells ({ frames := 3, cells := 1, slots := 2, locals := 52 } : Room).slots (Q_rmS1_2 Z a1 a2 k2 c0 c1 h0 n0 zc) := ⟨_, rfl⟩
  have gb : ∀ {T T' : State} {g g' : JFrame}, (∀ t, Steps p.tables e below (T'.setTop g') t → Steps p.tables e below (T.setTop g) t) → G T' g' → G T g := by subst hG; exact fun k h => own_by k h
  have go : ∀ {T : State} {locs : List Loc} {cells slots : Nat} {g : JFrame} {v : Option Value}, Stand p l e ({ frames := 3, cells := 1, slots := 2, locals := 52 } : Room) s m #[(.ref a1), (.ref a2)] below meth c T locs cells slots → (meth.sig.returnType = none → v = none) → (∀ fs, (∀ (f : JFrame) (acts : List Action), f.method = m → f.locked = none → f.entered = [] → (doReturn e (T.setTop f) acts v).1 = T.setFrames fs) → Steps p.tables e below (T.setTop g) (T.setFrames fs)) → (Q_rmS1_2 Z a1 a2 k2 c0 c1 h0 n0 zc) v T.heap locs → cells ≤ ({ frames := 3, cells := 1, slots := 2, locals := 52 } : Room).cells → slots ≤ ({ frames := 3, cells := 1, slots := 2, locals := 52 } : Room).slots → G T g := by subst hG; exact fun X h1 h2 h3 h4 h5 => own_out X hlk h1 h2 h3 h4 h5
  show OwnG p e below s ({ frames := 3, cells := 1, slots := 2, locals := 52 } : Room).cells ({ frames := 3, cells := 1, slots := 2, locals := 52 } : Room).slots (Q_rmS1_2 Z a1 a2 k2 c0 c1 h0 n0 zc) s₁ (entryFrame m #[(.ref a1), (.ref a2)] 2)
  rw [← hG, ef_rmS1_2 m a1 a2]
  clear hG
  show G s₁ (mkF m 0 #[.val (.ref a1), .val (.ref a2)] [])
  refine gb (fun _ k => XS.aloadN X0.here hx rfl (hb hby d13_0) rfl rfl (XS.aloadN X0.here hx rfl (hb hby d13_1) rfl rfl (XS.iconst X0.here hx rfl (hb hby d13_2) (XS.aloadN X0.here hx rfl (hb hby d13_3) rfl rfl k)))) ?_
  show G s₁ (mkF m 4 #[rv a1, rv a2] [.ref a2, .int 0, .ref a2, .ref a1])
  have V'1 := V_a2
  obtain ⟨cl1, Ar1, qk1, sz1, nn1, hs1, ft1⟩ := V'1
  refine gb (X0.arraylength hx (by rw [e0]; exact Ar1.1) (State.isArrayOf_alike hZ.alike Ar1.2.1) (g := (mkF m 4 #[rv a1, rv a2] [.ref a2, .int 0, .ref a2, .ref a1])) rfl rfl (hb hby d13_4)) ?_
  rw [len_of sz1 nn1]
  show G s₁ (mkF m 5 #[rv a1, rv a2] [.int 2, .int 0, .ref a2, .ref a1])
  refine gb (fun _ k => XS.aconstNull X0.here hx rfl (hb hby d13_5) k) ?_
  show G s₁ (mkF m 6 #[rv a1, rv a2] [.null, .int 2, .int 0, .ref a2, .ref a1])
  obtain ⟨_, _, ⟨T2, Lz2, kz2, nz2⟩, -, X2, ⟨Lc2, hQ2, lq2, yq2, zq2⟩, st2⟩ := X0.specialBack hx (y := (⟨"java/lang/String", "<init>", "([CIILjava/lang/Void;)V"⟩ : MethodName)) rfl hown (mvT hZ (ow hw 93 rfl)) (mvT hZ (ow hw 94 rfl)) (mvT hZ (ow hw 95 rfl)) (by decide) (backOf (W := 0) (rmS4_2 l Z a0 hw [] a1 a2 k2 c0 c1 h0 n0 O E_a1 F_coder_a1 F_value_a1 g_a1 V_a2 ne_a2_a1 hb0 hb1 zc S_cs hzc) hZ (ow hw 95 rfl) (ow hw 8 rfl) (by decide) (by decide)) (g := (mkF m 6 #[rv a1, rv a2] [.null, .int 2, .int 0, .ref a2, .ref a1])) rfl (by rw [hml]; rfl) (Steps.refl _) (a := a1) (argsL := [(.ref a2), (.int (0 : Int32)), (.int (2 : Int32)), .null]) (rest := []) (lenOf pd_3 rfl) rfl (by show 2 * 0 + _ ≤ _; exact Nat.le_of_eq rfl) (hb hby d13_6) (fun _ _ => ⟨rfl, e0, (by decide : 0 + 1 ≤ _), (by decide : 0 + 2 ≤ _)⟩)
  dsimp only [Pt.U, Pt.locs, Pt.cells, Pt.slots] at X2 lq2 yq2 zq2 st2 hQ2
  subst lq2 yq2 zq2
  obtain ⟨h2, e2⟩ : ∃ z, z = T2.heap := ⟨_, rfl⟩
  rw [← e2] at hQ2
  replace e2 := e2.symm
  obtain ⟨b2, kb2, rfl, Nq2, Kq2, hR2⟩ := hQ2
  have N := Fr.app N Nq2
  have E_a1 := E_a1.keep Kq2
  have V_a2 := V_a2.keep Kq2 (ninS ne_a2_a1 nin0)
  obtain ⟨E_a1, Fc2, Fv2, gb2, sb2, Vb2⟩ := hR2
  have O := O.keep Kq2 (allS g_a1 all0)
  have K := K.trans Kq2 (allS (Or.inl (List.mem_of_getElem? (i := 0) rfl)) all0)
  refine gb (fun _ k => st2.trans k) ?_
  show G T2 (mkF m 9 #[rv a1, rv a2] [])
  exact go X2 (v := none) (fun _ => rfl) (fun fs hr => X2.returnOut hx Bd.returns (hb hby d13_9) hr) (by rw [e2]; exact ⟨_, _, rfl, N, K, E_a1, Fc2, Fv2, gb2, sb2, Vb2⟩) (by decide) (by decide)
def Q_rmLE (Z : State) (a3 a4 : Addr) (k3 k4 : ClassId) (z3 z4 : Int32) (xs ys : List Int32) (h0 : Heap) (n0 : Nat) : Option Value → Heap → List Loc → Prop := fun v h L => v = some (.int (if xs = ys then (1 : Int32) else (0 : Int32))) ∧ L = [] ∧ h = h0
set_option maxRecDepth 65536 in
set_option maxHeartbeats 40000000 in
theorem rmLE (l : Launch) (Z : State) (a0 : Array Value) (hw : ∀ d ∈ tables_1, d.before a0 Z = true) (ws : List Jvm.Cond) (a3 a4 : Addr) (k3 k4 : ClassId) (z3 z4 : Int32) (xs ys : List Int32) (h0 : Heap) (n0 : Nat) (O : Old Z n0 h0) (V_a3 : Arv Z h0 a3 k3 .byte z3 (xs.map Value.int) (.int (0 : Int32))) (V_a4 : Arv Z h0 a4 k4 .byte z4 (ys.map Value.int) (.int (0 : Int32))) (hz3 : z3.toNatClampNeg = xs.length) (hz4 : z4.toNatClampNeg = ys.length) :
    MetFree l (⟨"java/lang/StringLatin1", "equals", "([B[B)Z"⟩ : MethodName) (head1 (Jvm.Cond.code (⟨"java/lang/StringLatin1", "equals", "([B[B)Z"⟩ : MethodName) jdk_43_method_13_code 3 (some .boolean) :: ws) ({ frames := 0, cells := 0, slots := 0, locals := 0 } : Room)) (fun a U => a = #[(.ref a3), (.ref a4)] ∧ Z.Warmed39 U.vm ∧ U.heap = h0) (fun _ _ _ _ _ => True) (fun _ U o U' => ∃ v L, o = .returned v ∧ (Q_rmLE Z a3 a4 k3 k4 z3 z4 xs ys h0 n0) v U'.heap L ∧ FrameEnd U o U' L ({ frames := 0, cells := 0, slots := 0, locals := 0 } : Room).cells ({ frames := 0, cells := 0, slots := 0, locals := 0 } : Room).slots) := by
  refine MetFree.of_bodySF (plainFor_of_name pn_2) hisR ?_
  intro p e s m args below meth c s₁ Bd hml0 hP hK
  obtain ⟨rfl, hZ, hh⟩ := hP
  have hx := Bd.exec
  have hby := Bd.bytes
  have hml : c.maxLocals = 3 := hml0
  have hown : s.vm.findClass "java/lang/StringLatin1" = some m.cls := findClass_of_methodNamed Bd.named
  have hnm := (name_of_methodNamed Bd.named Bd.method).1
  have hlk := BodyLoose.notSynchronized Bd
  have X0 : Stand p l e ({ frames := 0, cells := 0, slots := 0, locals := 0 } : Room) s m #[(.ref a3), (.ref a4)] below meth c s₁ [] 0 0 := Stand.of_body Bd
  have e0 : s₁.heap = h0 := by rw [← hh, Bd.state]; rfl
  have N := Fr.nil n0
  obtain ⟨G, hG⟩ : ∃ G : State → JFrame → Prop, G = OwnG p e below s ({ frames := 0, cells := 0, slots := 0, locals := 0 } : Room).cells ({ frames := 0, cells := 0, slots := 0, locals := 0 } : Room).slots (Q_rmLE Z a3 a4 k3 k4 z3 z4 xs ys h0 n0) := ⟨_, rfl⟩
  have gb : ∀ {T T' : State} {g g' : JFrame}, (∀ t, Steps p.tables e below (T'.setTop g') t → Steps p.tables e below (T.setTop g) t) → G T' g' → G T g := by subst hG; exact fun k h => own_by k h
  have go : ∀ {T : State} {locs : List Loc} {cells slots : Nat} {g : JFrame} {v : Option Value}, Stand p l e ({ frames := 0, cells := 0, slots := 0, locals := 0 } : Room) s m #[(.ref a3), (.ref a4)] below meth c T locs cells slots → (meth.sig.returnType = none → v = none) → (∀ fs, (∀ (f : JFrame) (acts : List Action), f.method = m → f.locked = none → f.entered = [] → (doReturn e (T.setTop f) acts v).1 = T.setFrames fs) → Steps p.tables e below (T.setTop g) (T.setFrames fs)) → (Q_rmLE Z a3 a4 k3 k4 z3 z4 xs ys h0 n0) v T.heap locs → cells ≤ ({ frames := 0, cells := 0, slots := 0, locals := 0 } : Room).cells → slots ≤ ({ frames := 0, cells := 0, slots := 0, locals := 0 } : Room).slots → G T g := by subst hG; exact fun X h1 h2 h3 h4 h5 => own_out X hlk h1 h2 h3 h4 h5
  show OwnG p e below s ({ frames := 0, cells := 0, slots := 0, locals := 0 } : Room).cells ({ frames := 0, cells := 0, slots := 0, locals := 0 } : Room).slots (Q_rmLE Z a3 a4 k3 k4 z3 z4 xs ys h0 n0) s₁ (entryFrame m #[(.ref a3), (.ref a4)] 3)
  rw [← hG, ef_rmLE m a3 a4]
  clear hG
  show G s₁ (mkF m 0 #[.val (.ref a3), .val (.ref a4), .unset] [])
  have hn3 : ¬ z3 < 0 := by obtain ⟨_, _, _, _, q, _⟩ := V_a3; exact q
  have hn4 : ¬ z4 < 0 := by obtain ⟨_, _, _, _, q, _⟩ := V_a4; exact q
  refine gb (fun _ k => XS.aloadN X0.here hx rfl (hb hby d18_0) rfl rfl k) ?_
  show G s₁ (mkF m 1 #[rv a3, rv a4, .unset] [.ref a3])
  have V'1 := V_a3
  obtain ⟨cl1, Ar1, qk1, sz1, nn1, hs1, ft1⟩ := V'1
  refine gb (X0.arraylength hx (by rw [e0]; exact Ar1.1) (State.isArrayOf_alike hZ.alike Ar1.2.1) (g := (mkF m 1 #[rv a3, rv a4, .unset] [.ref a3])) rfl rfl (hb hby d18_1)) ?_
  rw [len_of sz1 nn1]
  show G s₁ (mkF m 2 #[rv a3, rv a4, .unset] [.int z3])
  refine gb (fun _ k => XS.aloadN X0.here hx rfl (hb hby d18_2) rfl rfl k) ?_
  show G s₁ (mkF m 3 #[rv a3, rv a4, .unset] [.ref a4, .int z3])
  have V'2 := V_a4
  obtain ⟨cl2, Ar2, qk2, sz2, nn2, hs2, ft2⟩ := V'2
  refine gb (X0.arraylength hx (by rw [e0]; exact Ar2.1) (State.isArrayOf_alike hZ.alike Ar2.2.1) (g := (mkF m 3 #[rv a3, rv a4, .unset] [.ref a4, .int z3])) rfl rfl (hb hby d18_3)) ?_
  rw [len_of sz2 nn2]
  show G s₁ (mkF m 4 #[rv a3, rv a4, .unset] [.int z4, .int z3])
  by_cases hc4 : z3 = z4
  · skip
    refine gb (fun _ k => XS.icmpNo X0.here hx rfl (hb hby d18_4) rfl (teq hc4).2 (XS.iconst X0.here hx rfl (hb hby d18_7) (XS.istoreN X0.here hx rfl (hb hby d18_8) rfl (l' := #[rv a3, rv a4, iv 0]) rfl k))) ?_
    show G s₁ (mkF m 9 #[rv a3, rv a4, iv 0] [])
    have hl : xs.length = ys.length := (own_zeq hz3 hz4 hn3 hn4).mp hc4
    have L9 : ∀ (k i : Nat), i + k = xs.length → (∀ j, j < i → xs.getD j 0 = ys.getD j 0) → G s₁ (mkF m 9 #[rv a3, rv a4, iv (Int32.ofNat i)] []) := by
      intro k
      induction k with
      | zero =>
        intro i hi hp
        show G s₁ (mkF m 9 #[rv a3, rv a4, iv (Int32.ofNat i)] [])
        refine gb (fun _ k => XS.iloadN X0.here hx rfl (hb hby d18_9) rfl (XS.aloadN X0.here hx rfl (hb hby d18_10) rfl rfl k)) ?_
        show G s₁ (mkF m 11 #[rv a3, rv a4, iv (Int32.ofNat i)] [.ref a3, .int (Int32.ofNat i)])
        have V'3 := V_a3
        obtain ⟨cl3, Ar3, qk3, sz3, nn3, hs3, ft3⟩ := V'3
        refine gb (X0.arraylength hx (by rw [e0]; exact Ar3.1) (State.isArrayOf_alike hZ.alike Ar3.2.1) (g := (mkF m 11 #[rv a3, rv a4, iv (Int32.ofNat i)] [.ref a3, .int (Int32.ofNat i)])) rfl rfl (hb hby d18_11)) ?_
        rw [len_of sz3 nn3]
        show G s₁ (mkF m 12 #[rv a3, rv a4, iv (Int32.ofNat i)] [.int z3, .int (Int32.ofNat i)])
        refine gb (fun _ k => XS.icmpYes X0.here hx rfl (pc0 := 12) (pc' := 32) rfl (hb hby d18_12) rfl (flt (own_ofNatG hz3 hn3 (by omega))).2.1 (by decide) (by decide) (XS.iconst X0.here hx rfl (hb hby d18_32) k)) ?_
        show G s₁ (mkF m 33 #[rv a3, rv a4, iv (Int32.ofNat i)] [.int 1])
        exact go X0 (v := (some (.int (1 : Int32)))) (fun h => by rw [Bd.returns] at h; cases h) (fun fs hr => retOut X0 hx Bd.returns rfl (Or.inl ⟨rfl, by simp, _, rfl⟩) (hb hby d18_33) hr) (⟨by rw [if_pos (own_lists hl (fun j hj => hp j (by omega)))], rfl, e0⟩) (by decide) (by decide)
      | succ k ih =>
        intro i hi hp
        show G s₁ (mkF m 9 #[rv a3, rv a4, iv (Int32.ofNat i)] [])
        obtain ⟨hi1, hi2, hi3⟩ := own_ofNat hz3 (show i < xs.length by omega)
        obtain ⟨hj1, hj2, hj3⟩ := own_ofNat hz4 (show i < ys.length by omega)
        refine gb (fun _ k => XS.iloadN X0.here hx rfl (hb hby d18_9) rfl (XS.aloadN X0.here hx rfl (hb hby d18_10) rfl rfl k)) ?_
        show G s₁ (mkF m 11 #[rv a3, rv a4, iv (Int32.ofNat i)] [.ref a3, .int (Int32.ofNat i)])
        have V'4 := V_a3
        obtain ⟨cl4, Ar4, qk4, sz4, nn4, hs4, ft4⟩ := V'4
        refine gb (X0.arraylength hx (by rw [e0]; exact Ar4.1) (State.isArrayOf_alike hZ.alike Ar4.2.1) (g := (mkF m 11 #[rv a3, rv a4, iv (Int32.ofNat i)] [.ref a3, .int (Int32.ofNat i)])) rfl rfl (hb hby d18_11)) ?_
        rw [len_of sz4 nn4]
        show G s₁ (mkF m 12 #[rv a3, rv a4, iv (Int32.ofNat i)] [.int z3, .int (Int32.ofNat i)])
        refine gb (fun _ k => XS.icmpNo X0.here hx rfl (hb hby d18_12) rfl (tlt hi1).2.1 (XS.aloadN X0.here hx rfl (hb hby d18_15) rfl rfl (XS.iloadN X0.here hx rfl (hb hby d18_16) rfl k))) ?_
        show G s₁ (mkF m 17 #[rv a3, rv a4, iv (Int32.ofNat i)] [.int (Int32.ofNat i), .ref a3])
        have V'5 := V_a3
        obtain ⟨cl5, Ar5, qk5, sz5, nn5, hs5, ft5⟩ := V'5
        have hin5 : ¬ ((Int32.ofNat i) < 0 ∨ cl5.slots.size ≤ ((Int32.ofNat i)).toNatClampNeg) := inb_of sz5 ⟨hi2, hi1⟩
        have hat5 : cl5.slots[((Int32.ofNat i)).toNatClampNeg]? = some (.int (xs.getD i 0)) := hs5.at hin5 (by rw [hi3]; exact own_getD xs i)
        refine gb (X0.baloadBytes hx (j := (Int32.ofNat i)) (v := (.int (xs.getD i 0))) (by rw [e0]; exact Ar5.1) (State.isArrayOf_alike hZ.alike Ar5.2.1) Ar5.2.2 hin5 hat5 (g := (mkF m 17 #[rv a3, rv a4, iv (Int32.ofNat i)] [.int (Int32.ofNat i), .ref a3])) rfl rfl (hb hby d18_17)) ?_
        show G s₁ (mkF m 18 #[rv a3, rv a4, iv (Int32.ofNat i)] [.int (xs.getD i 0)])
        refine gb (fun _ k => XS.aloadN X0.here hx rfl (hb hby d18_18) rfl rfl (XS.iloadN X0.here hx rfl (hb hby d18_19) rfl k)) ?_
        show G s₁ (mkF m 20 #[rv a3, rv a4, iv (Int32.ofNat i)] [.int (Int32.ofNat i), .ref a4, .int (xs.getD i 0)])
        have V'6 := V_a4
        obtain ⟨cl6, Ar6, qk6, sz6, nn6, hs6, ft6⟩ := V'6
        have hin6 : ¬ ((Int32.ofNat i) < 0 ∨ cl6.slots.size ≤ ((Int32.ofNat i)).toNatClampNeg) := inb_of sz6 ⟨hj2, hj1⟩
        have hat6 : cl6.slots[((Int32.ofNat i)).toNatClampNeg]? = some (.int (ys.getD i 0)) := hs6.at hin6 (by rw [hj3]; exact own_getD ys i)
        refine gb (X0.baloadBytes hx (j := (Int32.ofNat i)) (v := (.int (ys.getD i 0))) (by rw [e0]; exact Ar6.1) (State.isArrayOf_alike hZ.alike Ar6.2.1) Ar6.2.2 hin6 hat6 (g := (mkF m 20 #[rv a3, rv a4, iv (Int32.ofNat i)] [.int (Int32.ofNat i), .ref a4, .int (xs.getD i 0)])) rfl rfl (hb hby d18_20)) ?_
        show G s₁ (mkF m 21 #[rv a3, rv a4, iv (Int32.ofNat i)] [.int (ys.getD i 0), .int (xs.getD i 0)])
        by_cases hc21 : (xs.getD i 0) = (ys.getD i 0)
        · skip
          refine gb (fun _ k => XS.icmpYes X0.here hx rfl (pc0 := 21) (pc' := 26) rfl (hb hby d18_21) rfl (teq hc21).1 (by decide) (by decide) (XS.iinc X0.here hx rfl (hb hby d18_26) rfl (l' := #[rv a3, rv a4, iv ((Int32.ofNat i) + (1 : Int32))]) rfl (XS.goto X0.here hx rfl (pc0 := 29) (pc' := 9) rfl (hb hby d18_29) (by decide) (by decide) k))) ?_
          show G s₁ (mkF m 9 #[rv a3, rv a4, iv ((Int32.ofNat i) + (1 : Int32))] [])
          rw [own_succ32]
          exact ih (i + 1) (by omega) (fun j hj => by rcases Nat.lt_succ_iff_lt_or_eq.mp hj with q | q; exact hp j q; rw [q]; exact hc21)
        · skip
          refine gb (fun _ k => XS.icmpNo X0.here hx rfl (hb hby d18_21) rfl (feq hc21).1 (XS.iconst X0.here hx rfl (hb hby d18_24) k)) ?_
          show G s₁ (mkF m 25 #[rv a3, rv a4, iv (Int32.ofNat i)] [.int 0])
          exact go X0 (v := (some (.int (0 : Int32)))) (fun h => by rw [Bd.returns] at h; cases h) (fun fs hr => retOut X0 hx Bd.returns rfl (Or.inl ⟨rfl, by simp, _, rfl⟩) (hb hby d18_25) hr) (⟨by rw [if_neg (fun q => hc21 (by rw [q]))], rfl, e0⟩) (by decide) (by decide)
    exact L9 xs.length 0 (Nat.zero_add _) (fun _ q => absurd q (Nat.not_lt_zero _))
  · skip
    refine gb (fun _ k => XS.icmpYes X0.here hx rfl (pc0 := 4) (pc' := 34) rfl (hb hby d18_4) rfl (feq hc4).2 (by decide) (by decide) (XS.iconst X0.here hx rfl (hb hby d18_34) k)) ?_
    show G s₁ (mkF m 35 #[rv a3, rv a4, .unset] [.int 0])
    exact go X0 (v := (some (.int (0 : Int32)))) (fun h => by rw [Bd.returns] at h; cases h) (fun fs hr => retOut X0 hx Bd.returns rfl (Or.inl ⟨rfl, by simp, _, rfl⟩) (hb hby d18_35) hr) (⟨by rw [if_neg (fun q => hc4 ((own_zeq hz3 hz4 hn3 hn4).mpr (by rw [q])))], rfl, e0⟩) (by decide) (by decide)
def Q_rmEq (Z : State) (a1 a2 : Addr) (a3 a4 : Addr) (k3 k4 : ClassId) (z3 z4 : Int32) (xs ys : List Int32) (h0 : Heap) (n0 : Nat) (zc : Int32) : Option Value → Heap → List Loc → Prop := fun v h L => v = some (.int (if xs = ys then (1 : Int32) else (0 : Int32))) ∧ L = [] ∧ h = h0
set_option maxRecDepth 65536 in
set_option maxHeartbeats 40000000 in
theorem rmEq (l : Launch) (Z : State) (a0 : Array Value) (hw : ∀ d ∈ tables_1, d.before a0 Z = true) (ws : List Jvm.Cond) (a1 a2 : Addr) (a3 a4 : Addr) (k3 k4 : ClassId) (z3 z4 : Int32) (xs ys : List Int32) (h0 : Heap) (n0 : Nat) (O : Old Z n0 h0) (E_a1 : Exa Z h0 a1 "java/lang/String") (E_a2 : Exa Z h0 a2 "java/lang/String") (F_c1 : Fld Z h0 a1 "java/lang/String" "coder" "B" (.int (0 : Int32))) (F_v1 : Fld Z h0 a1 "java/lang/String" "value" "[B" (.ref a3)) (F_c2 : Fld Z h0 a2 "java/lang/String" "coder" "B" (.int (0 : Int32))) (F_v2 : Fld Z h0 a2 "java/lang/String" "value" "[B" (.ref a4)) (V_a3 : Arv Z h0 a3 k3 .byte z3 (xs.map Value.int) (.int (0 : Int32))) (V_a4 : Arv Z h0 a4 k4 .byte z4 (ys.map Value.int) (.int (0 : Int32))) (hz3 : z3.toNatClampNeg = xs.length) (hz4 : z4.toNatClampNeg = ys.length) (zc : Int32) (S_cs : Sta Z Z.heap "java/lang/String" "COMPACT_STRINGS" "Z" (.int zc)) (hzc : ¬ zc = (0 : Int32)) :
    MetFree l (⟨"java/lang/String", "equals", "(Ljava/lang/Object;)Z"⟩ : MethodName) (head1 (Jvm.Cond.code (⟨"java/lang/String", "equals", "(Ljava/lang/Object;)Z"⟩ : MethodName) jdk_42_method_66_code 3 (some .boolean) :: ws) ({ frames := 1, cells := 0, slots := 0, locals := 14 } : Room)) (fun a U => a = #[(.ref a1), (.ref a2)] ∧ Z.Warmed39 U.vm ∧ U.heap = h0) (fun _ _ _ _ _ => True) (fun _ U o U' => ∃ v L, o = .returned v ∧ (Q_rmEq Z a1 a2 a3 a4 k3 k4 z3 z4 xs ys h0 n0 zc) v U'.heap L ∧ FrameEnd U o U' L ({ frames := 1, cells := 0, slots := 0, locals := 14 } : Room).cells ({ frames := 1, cells := 0, slots := 0, locals := 14 } : Room).slots) := by
  refine MetFree.of_bodySF (plainFor_of_name pn_1) hisR ?_
  intro p e s m args below meth c s₁ Bd hml0 hP hK
  obtain ⟨rfl, hZ, hh⟩ := hP
  have hx := Bd.exec
  have hby := Bd.bytes
  have hml : c.maxLocals = 3 := hml0
  have hown : s.vm.findClass "java/lang/String" = some m.cls := findClass_of_methodNamed Bd.named
  have hnm := (name_of_methodNamed Bd.named Bd.method).1
  have hlk := BodyLoose.notSynchronized Bd
  have X0 : Stand p l e ({ frames := 1, cells := 0, slots := 0, locals := 14 } : Room) s m #[(.ref a1), (.ref a2)] below meth c s₁ [] 0 0 := Stand.of_body Bd
  have e0 : s₁.heap = h0 := by rw [← hh, Bd.state]; rfl
  have N := Fr.nil n0
  obtain ⟨G, hG⟩ : ∃ G : State → JFrame → Prop, G = OwnG p e below s ({ frames := 1, cells := 0, slots := 0, locals := 14 } : Room).cells ({ frames := 1, cells := 0, slots := 0, locals := 14 } : Room).slots (Q_rmEq Z a1 a2 a3 a4 k3 k4 z3 z4 xs ys h0 n0 zc) := ⟨_, rfl⟩
  have gb : ∀ {T T' : State} {g g' : JFrame}, (∀ t, Steps p.tables e below (T'.setTop g') t → Steps p.tables e below (T.setTop g) t) → G T' g' → G T g := by subst hG; exact fun k h => own_by k h
  have go : ∀ {T : State} {locs : List Loc} {cells slots : Nat} {g : JFrame} {v : Option Value}, Stand p l e ({ frames := 1, cells := 0, slots := 0, locals := 14 } : Room) s m #[(.ref a1), (.ref a2)] below meth c T locs cells slots → (meth.sig.returnType = none → v = none) → (∀ fs, (∀ (f : JFrame) (acts : List Action), f.method = m → f.locked = none → f.entered = [] → (doReturn e (T.setTop f) acts v).1 = T.setFrames fs) → Steps p.tables e below (T.setTop g) (T.setFrames fs)) → (Q_rmEq Z a1 a2 a3 a4 k3 k4 z3 z4 xs ys h0 n0 zc) v T.heap locs → cells ≤ ({ frames := 1, cells := 0, slots := 0, locals := 14 } : Room).cells → slots ≤ ({ frames := 1, cells := 0, slots := 0, locals := 14 } : Room).slots → G T g := by subst hG; exact fun X h1 h2 h3 h4 h5 => own_out X hlk h1 h2 h3 h4 h5
  show OwnG p e below s ({ frames := 1, cells := 0, slots := 0, locals := 14 } : Room).cells ({ frames := 1, cells := 0, slots := 0, locals := 14 } : Room).slots (Q_rmEq Z a1 a2 a3 a4 k3 k4 z3 z4 xs ys h0 n0 zc) s₁ (entryFrame m #[(.ref a1), (.ref a2)] 3)
  rw [← hG, ef_rmEq m a1 a2]
  clear hG
  show G s₁ (mkF m 0 #[.val (.ref a1), .val (.ref a2), .unset] [])
  refine gb (fun _ k => XS.aloadN X0.here hx rfl (hb hby d11_0) rfl rfl (XS.aloadN X0.here hx rfl (hb hby d11_1) rfl rfl k)) ?_
  show G s₁ (mkF m 2 #[rv a1, rv a2, .unset] [.ref a2, .ref a1])
  by_cases ha2 : a1 = a2
  · skip
    refine gb (fun _ k => Jvm.RoadKit.acmp (g := (mkF m 2 #[rv a1, rv a2, .unset] [.ref a2, .ref a1])) X0 hx rfl rfl rfl (pc0 := 2) (pc' := 5) (same := true) rfl (hb hby d11_2) rfl (decide_eq_true (congrArg Value.ref ha2)) (by decide) (by decide) (XS.iconst X0.here hx rfl (hb hby d11_5) k)) ?_
    show G s₁ (mkF m 6 #[rv a1, rv a2, .unset] [.int 1])
    exact go X0 (v := (some (.int (1 : Int32)))) (fun h => by rw [Bd.returns] at h; cases h) (fun fs hr => retOut X0 hx Bd.returns rfl (Or.inl ⟨rfl, by simp, _, rfl⟩) (hb hby d11_6) hr) (⟨by rw [if_pos (own_same ha2 F_v1 F_v2 V_a3 V_a4 hz3 hz4)], rfl, e0⟩) (by decide) (by decide)
  · skip
    refine gb (fun _ k => Jvm.RoadKit.acmp (g := (mkF m 2 #[rv a1, rv a2, .unset] [.ref a2, .ref a1])) X0 hx rfl rfl rfl (pc0 := 2) (pc' := 7) (same := false) rfl (hb hby d11_2) rfl (decide_eq_false fun q => ha2 (Value.ref.inj q)) (by decide) (by decide) (XS.aloadN X0.here hx rfl (hb hby d11_7) rfl rfl k)) ?_
    show G s₁ (mkF m 8 #[rv a1, rv a2, .unset] [.ref a2])
    obtain ⟨T1, X1, e1, st1⟩ := instY X0 hx hZ hown (ow hw 107 rfl) e0 (Ins.self E_a2) (g := (mkF m 8 #[rv a1, rv a2, .unset] [.ref a2])) rfl rfl (hb hby d11_8)
    refine gb st1 ?_
    show G T1 (mkF m 11 #[rv a1, rv a2, .unset] [.int 1])
    refine gb (fun _ k => XS.ifNo X1.here hx rfl (hb hby d11_11) rfl ((if0 _ _).trans (feq (by decide : ¬ ((1 : Int32) = (0 : Int32)))).1) (XS.aloadN X1.here hx rfl (hb hby d11_14) rfl rfl k)) ?_
    show G T1 (mkF m 15 #[rv a1, rv a2, .unset] [.ref a2])
    obtain ⟨T2, X2, e2, st2⟩ := castY X1 hx hZ hown (ow hw 107 rfl) e1 (Ins.self E_a2) (g := (mkF m 15 #[rv a1, rv a2, .unset] [.ref a2])) rfl rfl (hb hby d11_15)
    refine gb st2 ?_
    show G T2 (mkF m 18 #[rv a1, rv a2, .unset] [.ref a2])
    refine gb (fun _ k => XS.astoreN X2.here hx rfl (hb hby d11_18) rfl rfl (l' := #[rv a1, rv a2, rv a2]) rfl k) ?_
    show G T2 (mkF m 19 #[rv a1, rv a2, rv a2] [])
    obtain ⟨T3, X3, e3, st3⟩ := getS2 X2 hx hZ hown (host := "") (Or.inl (ow hw 42 rfl)) Via.refl e2 (S_cs.ext O.2) (g := (mkF m 19 #[rv a1, rv a2, rv a2] [])) rfl (hb hby d11_19)
    refine gb st3 ?_
    show G T3 (mkF m 22 #[rv a1, rv a2, rv a2] [.int zc])
    refine gb (fun _ k => XS.ifNo X3.here hx rfl (hb hby d11_22) rfl ((if0 _ _).trans (feq hzc).1) (XS.aloadN X3.here hx rfl (hb hby d11_25) rfl rfl k)) ?_
    show G T3 (mkF m 26 #[rv a1, rv a2, rv a2] [.ref a1])
    obtain ⟨T4, X4, e4, st4⟩ := getF X3 hx hZ hown (host := "") (Or.inl (ow hw 43 rfl)) Via.refl e3 F_c1 (g := (mkF m 26 #[rv a1, rv a2, rv a2] [.ref a1])) rfl rfl (hb hby d11_26)
    refine gb st4 ?_
    show G T4 (mkF m 29 #[rv a1, rv a2, rv a2] [.int 0])
    refine gb (fun _ k => XS.aloadN X4.here hx rfl (hb hby d11_29) rfl rfl k) ?_
    show G T4 (mkF m 30 #[rv a1, rv a2, rv a2] [.ref a2, .int 0])
    obtain ⟨T5, X5, e5, st5⟩ := getF X4 hx hZ hown (host := "") (Or.inl (ow hw 43 rfl)) Via.refl e4 F_c2 (g := (mkF m 30 #[rv a1, rv a2, rv a2] [.ref a2, .int 0])) rfl rfl (hb hby d11_30)
    refine gb st5 ?_
    show G T5 (mkF m 33 #[rv a1, rv a2, rv a2] [.int 0, .int 0])
    refine gb (fun _ k => XS.icmpNo X5.here hx rfl (hb hby d11_33) rfl (teq (by decide : (0 : Int32) = (0 : Int32))).2 (XS.aloadN X5.here hx rfl (hb hby d11_36) rfl rfl k)) ?_
    show G T5 (mkF m 37 #[rv a1, rv a2, rv a2] [.ref a1])
    obtain ⟨T6, X6, e6, st6⟩ := getF X5 hx hZ hown (host := "") (Or.inl (ow hw 36 rfl)) Via.refl e5 F_v1 (g := (mkF m 37 #[rv a1, rv a2, rv a2] [.ref a1])) rfl rfl (hb hby d11_37)
    refine gb st6 ?_
    show G T6 (mkF m 40 #[rv a1, rv a2, rv a2] [.ref a3])
    refine gb (fun _ k => XS.aloadN X6.here hx rfl (hb hby d11_40) rfl rfl k) ?_
    show G T6 (mkF m 41 #[rv a1, rv a2, rv a2] [.ref a2, .ref a3])
    obtain ⟨T7, X7, e7, st7⟩ := getF X6 hx hZ hown (host := "") (Or.inl (ow hw 36 rfl)) Via.refl e6 F_v2 (g := (mkF m 41 #[rv a1, rv a2, rv a2] [.ref a2, .ref a3])) rfl rfl (hb hby d11_41)
    refine gb st7 ?_
    show G T7 (mkF m 44 #[rv a1, rv a2, rv a2] [.ref a4, .ref a3])
    obtain ⟨_, _, ⟨T8, Lz8, kz8, nz8⟩, -, X8, ⟨Lc8, hQ8, lq8, yq8, zq8⟩, st8⟩ := Jvm.LawKit.callS X7 hx (y := (⟨"java/lang/StringLatin1", "equals", "([B[B)Z"⟩ : MethodName)) hown (mvT hZ (ow hw 108 rfl)) (mvT hZ (ow hw 109 rfl)) (mvT hZ (ow hw 110 rfl)) (mvT hZ (ow hw 111 rfl)) (by decide) (backOf (W := 0) (rmLE l Z a0 hw [] a3 a4 k3 k4 z3 z4 xs ys h0 n0 O V_a3 V_a4 hz3 hz4) hZ (ow hw 111 rfl) (ow hw 110 rfl) (by decide) (by decide)) (g := (mkF m 44 #[rv a1, rv a2, rv a2] [.ref a4, .ref a3])) rfl (by rw [hml]; rfl) (argsL := [(.ref a3), (.ref a4)]) (rest := []) (lenOf pd_4 rfl) rfl (by show 2 * 0 + _ ≤ _; exact Nat.le_of_eq rfl) (hb hby d11_44) (fun _ _ => ⟨rfl, e7, (by decide : 0 + 0 ≤ _), (by decide : 0 + 0 ≤ _)⟩)
    dsimp only [Pt.U, Pt.locs, Pt.cells, Pt.slots] at X8 lq8 yq8 zq8 st8 hQ8
    subst lq8 yq8 zq8
    obtain ⟨rfl, rfl, e8⟩ := hQ8
    try rw [List.append_nil] at X8
    refine gb st8 ?_
    show G T8 (mkF m 47 #[rv a1, rv a2, rv a2] [.int (if xs = ys then (1 : Int32) else (0 : Int32))])
    by_cases hc47 : (if xs = ys then (1 : Int32) else (0 : Int32)) = (0 : Int32)
    · skip
      refine gb (fun _ k => XS.ifYes X8.here hx rfl (pc0 := 47) (pc' := 54) rfl (hb hby d11_47) rfl ((if0 _ _).trans (teq hc47).1) (by decide) (by decide) (XS.iconst X8.here hx rfl (hb hby d11_54) k)) ?_
      show G T8 (mkF m 55 #[rv a1, rv a2, rv a2] [.int 0])
      exact go X8 (v := (some (.int (0 : Int32)))) (fun h => by rw [Bd.returns] at h; cases h) (fun fs hr => retOut X8 hx Bd.returns rfl (Or.inl ⟨rfl, by simp, _, rfl⟩) (hb hby d11_55) hr) (⟨by rw [hc47], rfl, e8⟩) (by decide) (by decide)
    · skip
      refine gb (fun _ k => XS.ifNo X8.here hx rfl (hb hby d11_47) rfl ((if0 _ _).trans (feq hc47).1) (XS.iconst X8.here hx rfl (hb hby d11_50) (XS.goto X8.here hx rfl (pc0 := 51) (pc' := 55) rfl (hb hby d11_51) (by decide) (by decide) k))) ?_
      show G T8 (mkF m 55 #[rv a1, rv a2, rv a2] [.int 1])
      exact go X8 (v := (some (.int (1 : Int32)))) (fun h => by rw [Bd.returns] at h; cases h) (fun fs hr => retOut X8 hx Bd.returns rfl (Or.inl ⟨rfl, by simp, _, rfl⟩) (hb hby d11_55) hr) (⟨by rw [if_pos (own_e1 hc47)], rfl, e8⟩) (by decide) (by decide)
def Q_rmS (Z : State) (p0 c0 c1 : Int32) (h0 : Heap) (n0 : Nat) (zc : Int32) : Option Value → Heap → List Loc → Prop := fun v h L => ∃ (x b : Addr) (kb : ClassId) (z : Int32) (xs : List Int32), v = some (.ref x) ∧ Fr n0 L ∧ Keep h0 h [] ∧ Exa Z h x "java/lang/String" ∧ Fld Z h x "java/lang/String" "coder" "B" (.int (0 : Int32)) ∧ Fld Z h x "java/lang/String" "value" "[B" (.ref b) ∧ Arv Z h b kb .byte z (xs.map Value.int) (.int (0 : Int32)) ∧ z.toNatClampNeg = xs.length ∧ z = p0 ∧ xs = own_sl p0 c0 c1
set_option maxRecDepth 65536 in
set_option maxHeartbeats 40000000 in
theorem rmS (l : Launch) (Z : State) (a0 : Array Value) (hw : ∀ d ∈ tables_1, d.before a0 Z = true) (ws : List Jvm.Cond) (p0 c0 c1 : Int32) (h0 : Heap) (n0 : Nat) (O : Old Z n0 h0) (zc : Int32) (S_cs : Sta Z Z.heap "java/lang/String" "COMPACT_STRINGS" "Z" (.int zc)) (hzc : ¬ zc = (0 : Int32)) (hEL : EW Z a0 [("com/example/wrought_gate/wroughtgate/engine/SchemaLocationEqualsPinLaw", 7)]) (hp0 : 0 ≤ p0.toInt ∧ p0.toInt ≤ 2) (hg0 : ¬ c0 < (0 : Int32)) (hb0 : ¬ (255 : Int32) < c0) (hg1 : ¬ c1 < (0 : Int32)) (hb1 : ¬ (255 : Int32) < c1) :
    MetFree l (⟨"com/example/wrought_gate/wroughtgate/engine/SchemaLocationEqualsPinLaw", "str", "(ICC)Ljava/lang/String;"⟩ : MethodName) (head1 (Jvm.Cond.code (⟨"com/example/wrought_gate/wroughtgate/engine/SchemaLocationEqualsPinLaw", "str", "(ICC)Ljava/lang/String;"⟩ : MethodName) method_2_code 3 (some (.object "java/lang/String")) :: ws) ({ frames := 4, cells := 3, slots := 8, locals := 66 } : Room)) (fun a U => a = #[(.int p0), (.int c0), (.int c1)] ∧ Z.Warmed39 U.vm ∧ U.heap = h0 ∧ CHv Z [("com/example/wrought_gate/wroughtgate/engine/SchemaLocationEqualsPinLaw", 7)] U.vm h0) (fun _ _ _ _ _ => True) (fun _ U o U' => ∃ v L, o = .returned v ∧ (Q_rmS Z p0 c0 c1 h0 n0 zc) v U'.heap L ∧ CHr Z [("com/example/wrought_gate/wroughtgate/engine/SchemaLocationEqualsPinLaw", 7)] U.vm U.heap U'.vm U'.heap ∧ ReturnedEndW U o U' L ({ frames := 4, cells := 3, slots := 8, locals := 66 } : Room).cells ({ frames := 4, cells := 3, slots := 8, locals := 66 } : Room).slots) := by
  refine MetFree.of_bodySF (plainFor_of_name pn_3) hisR ?_
  intro p e s m args below meth c s₁ Bd hml0 hP hK
  obtain ⟨rfl, hZ, hh, hHC⟩ := hP
  have hx := Bd.exec
  have hby := Bd.bytes
  have hml : c.maxLocals = 3 := hml0
  have hown : s.vm.findClass "com/example/wrought_gate/wroughtgate/engine/SchemaLocationEqualsPinLaw" = some m.cls := findClass_of_methodNamed Bd.named
  have hnm := (name_of_methodNamed Bd.named Bd.method).1
  have hlk := BodyLoose.notSynchronized Bd
  have X0 : Stand p l e ({ frames := 4, cells := 3, slots := 8, locals := 66 } : Room) (s.setVm s.vm) m #[(.int p0), (.int c0), (.int c1)] below meth c s₁ [] 0 0 := Stand.of_body Bd
  have e0 : s₁.heap = h0 := by rw [← hh, Bd.state]; rfl
  have N := Fr.nil n0
  have hS : s.Since s.vm h0.size := (State.WarmedH.refl s).since _
  have hk := Nat.le_refl h0.size
  have HR : CHr Z [("com/example/wrought_gate/wroughtgate/engine/SchemaLocationEqualsPinLaw", 7)] s.vm h0 s.vm h0 := CHr.refl hHC
  have K := Keep.refl h0 []
  obtain ⟨G, hG⟩ : ∃ G : State → JFrame → Prop, G = OwnGH p e below s Z [("com/example/wrought_gate/wroughtgate/engine/SchemaLocationEqualsPinLaw", 7)] ({ frames := 4, cells := 3, slots := 8, locals := 66 } : Room).cells ({ frames := 4, cells := 3, slots := 8, locals := 66 } : Room).slots (Q_rmS Z p0 c0 c1 h0 n0 zc) := ⟨_, rfl⟩
  have gb : ∀ {T T' : State} {g g' : JFrame}, (∀ t, Steps p.tables e below (T'.setTop g') t → Steps p.tables e below (T.setTop g) t) → G T' g' → G T g := by subst hG; exact fun k h => own_byH k h
  have go : ∀ {T : State} {locs : List Loc} {cells slots : Nat} {g : JFrame} {v : Option Value} {vm : Vm} {k : Nat}, Stand p l e ({ frames := 4, cells := 3, slots := 8, locals := 66 } : Room) (s.setVm vm) m #[(.int p0), (.int c0), (.int c1)] below meth c T locs cells slots → s.Since vm k → k ≤ T.heap.size → CHr Z [("com/example/wrought_gate/wroughtgate/engine/SchemaLocationEqualsPinLaw", 7)] s.vm h0 vm T.heap → Z.Warmed39 vm → (meth.sig.returnType = none → v = none) → (∀ fs, (∀ (f : JFrame) (acts : List Action), f.method = m → f.locked = none → f.entered = [] → (doReturn e (T.setTop f) acts v).1 = T.setFrames fs) → Steps p.tables e below (T.setTop g) (T.setFrames fs)) → (Q_rmS Z p0 c0 c1 h0 n0 zc) v T.heap locs → cells ≤ ({ frames := 4, cells := 3, slots := 8, locals := 66 } : Room).cells → slots ≤ ({ frames := 4, cells := 3, slots := 8, locals := 66 } : Room).slots → G T g := by subst hG; exact fun X a b c' d h1 h2 h3 h4 h5 => own_outH X hh hEL a b c' d hlk h1 h2 h3 h4 h5
  show OwnGH p e below s Z [("com/example/wrought_gate/wroughtgate/engine/SchemaLocationEqualsPinLaw", 7)] ({ frames := 4, cells := 3, slots := 8, locals := 66 } : Room).cells ({ frames := 4, cells := 3, slots := 8, locals := 66 } : Room).slots (Q_rmS Z p0 c0 c1 h0 n0 zc) s₁ (entryFrame m #[(.int p0), (.int c0), (.int c1)] 3)
  rw [← hG, ef_rmS m p0 c0 c1]
  clear hG
  show G s₁ (mkF m 0 #[.val (.int p0), .val (.int c0), .val (.int c1)] [])
  refine gb (fun _ k => XS.iloadN X0.here hx rfl (hb hby d1_0) rfl k) ?_
  show G s₁ (mkF m 1 #[iv p0, iv c0, iv c1] [.int p0])
  by_cases hc1 : p0 = (0 : Int32)
  · skip
    refine gb (fun _ k => XS.ifNo X0.here hx rfl (hb hby d1_1) rfl ((if0 _ _).trans (teq hc1).2) k) ?_
    show G s₁ (mkF m 4 #[iv p0, iv c0, iv c1] [])
    obtain ⟨b1, T1, h1, kn1, bb1, kb1, X1, e1, E1, hS, hk1, hZ, hown, E_b1, F_coder_b1, F_value_b1, V_bb1, -, -, hC1, -, hne1, st1⟩ := ldcCH X0 hx hZ hown (ow hw 7 rfl) (own_wS hw) e0 hS hk hEL (List.mem_of_getElem? (i := 0) rfl) HR.1 (z := (0 : Int32)) ⟨by decide, rfl⟩ (by decide) rfl (g := (mkF m 4 #[iv p0, iv c0, iv c1] [])) rfl (hb hby d1_4) (n := 0) (by decide) (by decide) (by decide) (by decide)
    have HR := HR.trans hC1
    have O := O.ext E1
    have hk := Nat.le_trans hk E1.1
    have K := K.ext E1
    have hk := hk1
    have V_bb1 : Arv Z h1 bb1 kb1 .byte (0 : Int32) [] (.int (0 : Int32)) := V_bb1
    refine gb st1 ?_
    show G T1 (mkF m 6 #[iv p0, iv c0, iv c1] [.ref b1])
    exact go X1 hS (Nat.le_trans hk (Nat.le_of_eq (congrArg Array.size e1.symm))) (by rw [e1]; exact HR) hZ (v := (some (.ref b1))) (fun h => by rw [Bd.returns] at h; cases h) (fun fs hr => retOut X1 hx Bd.returns rfl (Or.inr (Or.inr (Or.inr (Or.inr ⟨rfl, rfl, rfl⟩)))) (hb hby d1_6) hr) (by rw [e1]; exact ⟨b1, bb1, kb1, (0 : Int32), [], rfl, N, K, E_b1, F_coder_b1, F_value_b1, V_bb1, rfl, hc1.symm, by unfold own_sl; rw [if_pos hc1]⟩) (by decide) (by decide)
  · skip
    refine gb (fun _ k => XS.ifYes X0.here hx rfl (pc0 := 1) (pc' := 7) rfl (hb hby d1_1) rfl ((if0 _ _).trans (feq hc1).2) (by decide) (by decide) (XS.iloadN X0.here hx rfl (hb hby d1_7) rfl (XS.iconst X0.here hx rfl (hb hby d1_8) k))) ?_
    show G s₁ (mkF m 9 #[iv p0, iv c0, iv c1] [.int 1, .int p0])
    by_cases hc9 : p0 = (1 : Int32)
    · skip
      refine gb (fun _ k => XS.icmpNo X0.here hx rfl (hb hby d1_9) rfl (teq hc9).2 k) ?_
      show G s₁ (mkF m 12 #[iv p0, iv c0, iv c1] [])
      obtain ⟨T2, h2, X2, e2, E2, A2, D2, U2, st2⟩ := newO X0 hx hZ hown (ow hw 88 rfl) (ow hw 9 rfl) (ow hw 8 rfl) e0 (g := (mkF m 12 #[iv p0, iv c0, iv c1] [])) rfl (hb hby d1_12) (by decide) (by decide)
      obtain ⟨b2, g2⟩ : ∃ z, z = h0.size := ⟨_, rfl⟩
      rw [← g2] at A2 D2 U2 st2
      have g_b2 : n0 ≤ b2 := Nat.le_trans (by have := O.2.1; rw [O.1] at this; exact this) (Nat.le_of_eq g2.symm)
      have sz_b2 : h0.size ≤ b2 := Nat.le_trans K.1 (Nat.le_of_eq g2.symm)
      have Sf_b2 := Safe.ext E2 HR.1 (Safe.new (x := b2) (Nat.le_of_eq g2.symm))
      have HR := HR.trans (CHr.ext E2 HR.1)
      have O := O.ext E2
      have hk := Nat.le_trans hk E2.1
      have K := K.ext E2
      have E_b2 := A2
      have F_value_b2 : Fld Z h2 b2 "java/lang/String" "value" "[B" .null := D2 (Or.inr (ow hw 11 rfl)) (ty := (.array .byte)) (by decide)
      have F_coder_b2 : Fld Z h2 b2 "java/lang/String" "coder" "B" (.int (0 : Int32)) := D2 (Or.inr (ow hw 12 rfl)) (ty := .byte) (by decide)
      refine gb st2 ?_
      show G T2 (mkF m 15 #[iv p0, iv c0, iv c1] [.ref b2])
      refine gb (fun _ k => XS.dup X2.here hx rfl (hb hby d1_15) rfl rfl (XS.iconst X2.here hx rfl (hb hby d1_16) k)) ?_
      show G T2 (mkF m 17 #[iv p0, iv c0, iv c1] [.int 1, .ref b2, .ref b2])
      obtain ⟨T3, h3, kA3, X3, e3, E3, A3, st3⟩ := newP X2 hx hZ (ow hw 89 rfl) e2 (g := (mkF m 17 #[iv p0, iv c0, iv c1] [.int 1, .ref b2, .ref b2])) rfl (hb hby d1_17) rfl (by decide) (cap := 1) (by decide) (by decide) (by decide) (by decide)
      obtain ⟨b3, g3⟩ : ∃ z, z = h2.size := ⟨_, rfl⟩
      rw [← g3] at A3 st3
      have g_b3 : n0 ≤ b3 := Nat.le_trans (by have := O.2.1; rw [O.1] at this; exact this) (Nat.le_of_eq g3.symm)
      have sz_b3 : h0.size ≤ b3 := Nat.le_trans K.1 (Nat.le_of_eq g3.symm)
      have ne_b2_b3 : b2 ≠ b3 := Nat.ne_of_lt (Nat.lt_of_lt_of_le E_b2.lt (Nat.le_of_eq g3.symm))
      have Sf_b2 := Safe.ext E3 HR.1 Sf_b2
      have HR := HR.trans (CHr.ext E3 HR.1)
      have E_b2 := E_b2.ext E3
      have F_value_b2 := F_value_b2.ext E3
      have F_coder_b2 := F_coder_b2.ext E3
      have O := O.ext E3
      have hk := Nat.le_trans hk E3.1
      have K := K.ext E3
      have V_b3 : Arv Z h3 b3 kA3 .char (1 : Int32) [(.int (0 : Int32))] (.int (0 : Int32)) := (Arv.new A3 (by decide)).pad (pad_rep [] (.int (0 : Int32)) 1)
      refine gb st3 ?_
      show G T3 (mkF m 19 #[iv p0, iv c0, iv c1] [.ref b3, .ref b2, .ref b2])
      refine gb (fun _ k => XS.dup X3.here hx rfl (hb hby d1_19) rfl rfl (XS.iconst X3.here hx rfl (hb hby d1_20) (XS.iloadN X3.here hx rfl (hb hby d1_21) rfl k))) ?_
      show G T3 (mkF m 22 #[iv p0, iv c0, iv c1] [.int c0, .int 0, .ref b3, .ref b3, .ref b2, .ref b2])
      have V'4 := V_b3
      obtain ⟨cl4, Ar4, qk4, sz4, nn4, hs4, ft4⟩ := V'4
      have hin4 : ¬ ((0 : Int32) < 0 ∨ cl4.slots.size ≤ ((0 : Int32)).toNatClampNeg) := inb_of sz4 ⟨by decide, by decide⟩
      have Sw5 : Safe Z [("com/example/wrought_gate/wroughtgate/engine/SchemaLocationEqualsPinLaw", 7)] _ _ b3 := (Safe.arv hZ.alike V_b3 (by decide))
      obtain ⟨T5, h5, X5, e5, W5, st5⟩ := stC X3 hx hZ e3 Ar4 (j := (0 : Int32)) hin4 (g := (mkF m 22 #[iv p0, iv c0, iv c1] [.int c0, .int 0, .ref b3, .ref b3, .ref b2, .ref b2])) rfl rfl (hb hby d1_22)
      have V_b3 : Arv Z h5 b3 kA3 .char (1 : Int32) [(.int (nar .char c0))] (.int (0 : Int32)) := Arv.set Ar4 qk4 sz4 nn4 hs4 ft4 (fits_nar_char _) W5 0 rfl (Nat.le_of_ble_eq_true rfl)
      rw [own_nc hg0 hb0] at V_b3
      have Sf_b2 := Safe.wr W5 Sw5 HR.1 Sf_b2
      have HR := HR.trans (CHr.wr W5 Sw5 HR.1)
      have E_b2 := E_b2.wr W5
      have F_value_b2 := F_value_b2.other W5 (Or.inl ne_b2_b3)
      have F_coder_b2 := F_coder_b2.other W5 (Or.inl ne_b2_b3)
      have O := O.wr W5 g_b3
      have hk := Nat.le_trans hk (Keep.of_wr W5).1
      have K := K.wr W5 (Or.inr sz_b3)
      have N := Fr.snoc X5 N g_b3
      refine gb st5 ?_
      show G T5 (mkF m 23 #[iv p0, iv c0, iv c1] [.ref b3, .ref b2, .ref b2])
      have lt_b2 := E_b2.lt
      have lt_b3 := V_b3.lt
      have szK := K.1
      have Sk6 : ∀ x ∈ [b2], Safe Z [("com/example/wrought_gate/wroughtgate/engine/SchemaLocationEqualsPinLaw", 7)] _ _ x := (sfS Sf_b2 sf0)
      obtain ⟨_, _, ⟨T6, Lz6, kz6, nz6⟩, -, X6, ⟨Lc6, hQ6, lq6, yq6, zq6⟩, st6⟩ := X5.specialBack hx (y := (⟨"java/lang/String", "<init>", "([C)V"⟩ : MethodName)) rfl hown (mvT hZ (ow hw 90 rfl)) (mvT hZ (ow hw 91 rfl)) (mvT hZ (ow hw 92 rfl)) (by decide) (backOf (W := 1) (rmS1_1 l Z a0 hw [] b2 b3 kA3 c0 h5 n0 O E_b2 F_coder_b2 F_value_b2 g_b2 V_b3 (Ne.symm ne_b2_b3) hb0 zc S_cs hzc) hZ (ow hw 92 rfl) (ow hw 8 rfl) (by decide) (by decide)) (g := (mkF m 23 #[iv p0, iv c0, iv c1] [.ref b3, .ref b2, .ref b2])) rfl (by rw [hml]; rfl) (Steps.refl _) (a := b2) (argsL := [(.ref b3)]) (rest := [(.ref b2)]) (lenOf pd_5 rfl) rfl (by show 2 * 0 + _ ≤ _; exact Nat.le_of_eq rfl) (hb hby d1_23) (fun _ _ => ⟨rfl, e5, (by decide : 2 + 1 ≤ _), (by decide : 5 + 1 ≤ _)⟩)
      dsimp only [Pt.U, Pt.locs, Pt.cells, Pt.slots] at X6 lq6 yq6 zq6 st6 hQ6
      subst lq6 yq6 zq6
      obtain ⟨h6, e6⟩ : ∃ z, z = T6.heap := ⟨_, rfl⟩
      rw [← e6] at hQ6
      replace e6 := e6.symm
      obtain ⟨b6, kb6, rfl, Nq6, Kq6, hR6⟩ := hQ6
      have N := Fr.app N Nq6
      have Sf_b2 := Safe.keep Kq6 Sk6 HR.1 Sf_b2
      have HR := HR.trans (CHr.keep Kq6 Sk6 HR.1)
      have E_b2 := E_b2.keep Kq6
      have V_b3 := V_b3.keep Kq6 (ninS (Ne.symm ne_b2_b3) nin0)
      have hk := Nat.le_trans hk Kq6.1
      obtain ⟨E_b2, F_coder_b2, F_value_b2, g_b6, sz_b6, V_b6⟩ := hR6
      have O := O.keep Kq6 (allS g_b2 all0)
      have K := K.trans Kq6 (allS (Or.inr sz_b2) all0)
      have ne_b2_b6 : b2 ≠ b6 := Nat.ne_of_lt (Nat.lt_of_lt_of_le lt_b2 sz_b6)
      have ne_b3_b6 : b3 ≠ b6 := Nat.ne_of_lt (Nat.lt_of_lt_of_le lt_b3 sz_b6)
      have sz_b6 := Nat.le_trans szK sz_b6
      refine gb (fun _ k => st6.trans k) ?_
      show G T6 (mkF m 26 #[iv p0, iv c0, iv c1] [.ref b2])
      exact go X6 hS (Nat.le_trans hk (Nat.le_of_eq (congrArg Array.size e6.symm))) (by rw [e6]; exact HR) hZ (v := (some (.ref b2))) (fun h => by rw [Bd.returns] at h; cases h) (fun fs hr => retOut X6 hx Bd.returns rfl (Or.inr (Or.inr (Or.inr (Or.inr ⟨rfl, rfl, rfl⟩)))) (hb hby d1_26) hr) (by rw [e6]; exact ⟨b2, b6, kb6, (1 : Int32), [(nar .byte (c0.toInt8.toInt32))], rfl, N, K, E_b2, F_coder_b2, F_value_b2, V_b6, rfl, hc9.symm, by unfold own_sl; rw [if_neg hc1, if_pos hc9]⟩) (by decide) (by decide)
    · skip
      refine gb (fun _ k => XS.icmpYes X0.here hx rfl (pc0 := 9) (pc' := 27) rfl (hb hby d1_9) rfl (feq hc9).2 (by decide) (by decide) k) ?_
      show G s₁ (mkF m 27 #[iv p0, iv c0, iv c1] [])
      obtain ⟨T7, h7, X7, e7, E7, A7, D7, U7, st7⟩ := newO X0 hx hZ hown (ow hw 88 rfl) (ow hw 9 rfl) (ow hw 8 rfl) e0 (g := (mkF m 27 #[iv p0, iv c0, iv c1] [])) rfl (hb hby d1_27) (by decide) (by decide)
      obtain ⟨b7, g7⟩ : ∃ z, z = h0.size := ⟨_, rfl⟩
      rw [← g7] at A7 D7 U7 st7
      have g_b7 : n0 ≤ b7 := Nat.le_trans (by have := O.2.1; rw [O.1] at this; exact this) (Nat.le_of_eq g7.symm)
      have sz_b7 : h0.size ≤ b7 := Nat.le_trans K.1 (Nat.le_of_eq g7.symm)
      have Sf_b7 := Safe.ext E7 HR.1 (Safe.new (x := b7) (Nat.le_of_eq g7.symm))
      have HR := HR.trans (CHr.ext E7 HR.1)
      have O := O.ext E7
      have hk := Nat.le_trans hk E7.1
      have K := K.ext E7
      have E_b7 := A7
      have F_value_b7 : Fld Z h7 b7 "java/lang/String" "value" "[B" .null := D7 (Or.inr (ow hw 11 rfl)) (ty := (.array .byte)) (by decide)
      have F_coder_b7 : Fld Z h7 b7 "java/lang/String" "coder" "B" (.int (0 : Int32)) := D7 (Or.inr (ow hw 12 rfl)) (ty := .byte) (by decide)
      refine gb st7 ?_
      show G T7 (mkF m 30 #[iv p0, iv c0, iv c1] [.ref b7])
      refine gb (fun _ k => XS.dup X7.here hx rfl (hb hby d1_30) rfl rfl (XS.iconst X7.here hx rfl (hb hby d1_31) k)) ?_
      show G T7 (mkF m 32 #[iv p0, iv c0, iv c1] [.int 2, .ref b7, .ref b7])
      obtain ⟨T8, h8, kA8, X8, e8, E8, A8, st8⟩ := newP X7 hx hZ (ow hw 89 rfl) e7 (g := (mkF m 32 #[iv p0, iv c0, iv c1] [.int 2, .ref b7, .ref b7])) rfl (hb hby d1_32) rfl (by decide) (cap := 2) (by decide) (by decide) (by decide) (by decide)
      obtain ⟨b8, g8⟩ : ∃ z, z = h7.size := ⟨_, rfl⟩
      rw [← g8] at A8 st8
      have g_b8 : n0 ≤ b8 := Nat.le_trans (by have := O.2.1; rw [O.1] at this; exact this) (Nat.le_of_eq g8.symm)
      have sz_b8 : h0.size ≤ b8 := Nat.le_trans K.1 (Nat.le_of_eq g8.symm)
      have ne_b7_b8 : b7 ≠ b8 := Nat.ne_of_lt (Nat.lt_of_lt_of_le E_b7.lt (Nat.le_of_eq g8.symm))
      have Sf_b7 := Safe.ext E8 HR.1 Sf_b7
      have HR := HR.trans (CHr.ext E8 HR.1)
      have E_b7 := E_b7.ext E8
      have F_value_b7 := F_value_b7.ext E8
      have F_coder_b7 := F_coder_b7.ext E8
      have O := O.ext E8
      have hk := Nat.le_trans hk E8.1
      have K := K.ext E8
      have V_b8 : Arv Z h8 b8 kA8 .char (2 : Int32) [(.int (0 : Int32)), (.int (0 : Int32))] (.int (0 : Int32)) := (Arv.new A8 (by decide)).pad (pad_rep [] (.int (0 : Int32)) 2)
      refine gb st8 ?_
      show G T8 (mkF m 34 #[iv p0, iv c0, iv c1] [.ref b8, .ref b7, .ref b7])
      refine gb (fun _ k => XS.dup X8.here hx rfl (hb hby d1_34) rfl rfl (XS.iconst X8.here hx rfl (hb hby d1_35) (XS.iloadN X8.here hx rfl (hb hby d1_36) rfl k))) ?_
      show G T8 (mkF m 37 #[iv p0, iv c0, iv c1] [.int c0, .int 0, .ref b8, .ref b8, .ref b7, .ref b7])
      have V'9 := V_b8
      obtain ⟨cl9, Ar9, qk9, sz9, nn9, hs9, ft9⟩ := V'9
      have hin9 : ¬ ((0 : Int32) < 0 ∨ cl9.slots.size ≤ ((0 : Int32)).toNatClampNeg) := inb_of sz9 ⟨by decide, by decide⟩
      have Sw10 : Safe Z [("com/example/wrought_gate/wroughtgate/engine/SchemaLocationEqualsPinLaw", 7)] _ _ b8 := (Safe.arv hZ.alike V_b8 (by decide))
      obtain ⟨T10, h10, X10, e10, W10, st10⟩ := stC X8 hx hZ e8 Ar9 (j := (0 : Int32)) hin9 (g := (mkF m 37 #[iv p0, iv c0, iv c1] [.int c0, .int 0, .ref b8, .ref b8, .ref b7, .ref b7])) rfl rfl (hb hby d1_37)
      have V_b8 : Arv Z h10 b8 kA8 .char (2 : Int32) [(.int (nar .char c0)), (.int (0 : Int32))] (.int (0 : Int32)) := Arv.set Ar9 qk9 sz9 nn9 hs9 ft9 (fits_nar_char _) W10 0 rfl (Nat.le_of_ble_eq_true rfl)
      rw [own_nc hg0 hb0] at V_b8
      have Sf_b7 := Safe.wr W10 Sw10 HR.1 Sf_b7
      have HR := HR.trans (CHr.wr W10 Sw10 HR.1)
      have E_b7 := E_b7.wr W10
      have F_value_b7 := F_value_b7.other W10 (Or.inl ne_b7_b8)
      have F_coder_b7 := F_coder_b7.other W10 (Or.inl ne_b7_b8)
      have O := O.wr W10 g_b8
      have hk := Nat.le_trans hk (Keep.of_wr W10).1
      have K := K.wr W10 (Or.inr sz_b8)
      have N := Fr.snoc X10 N g_b8
      refine gb st10 ?_
      show G T10 (mkF m 38 #[iv p0, iv c0, iv c1] [.ref b8, .ref b7, .ref b7])
      refine gb (fun _ k => XS.dup X10.here hx rfl (hb hby d1_38) rfl rfl (XS.iconst X10.here hx rfl (hb hby d1_39) (XS.iloadN X10.here hx rfl (hb hby d1_40) rfl k))) ?_
      show G T10 (mkF m 41 #[iv p0, iv c0, iv c1] [.int c1, .int 1, .ref b8, .ref b8, .ref b7, .ref b7])
      have V'11 := V_b8
      obtain ⟨cl11, Ar11, qk11, sz11, nn11, hs11, ft11⟩ := V'11
      have hin11 : ¬ ((1 : Int32) < 0 ∨ cl11.slots.size ≤ ((1 : Int32)).toNatClampNeg) := inb_of sz11 ⟨by decide, by decide⟩
      have Sw12 : Safe Z [("com/example/wrought_gate/wroughtgate/engine/SchemaLocationEqualsPinLaw", 7)] _ _ b8 := (Safe.arv hZ.alike V_b8 (by decide))
      obtain ⟨T12, h12, X12, e12, W12, st12⟩ := stC X10 hx hZ e10 Ar11 (j := (1 : Int32)) hin11 (g := (mkF m 41 #[iv p0, iv c0, iv c1] [.int c1, .int 1, .ref b8, .ref b8, .ref b7, .ref b7])) rfl rfl (hb hby d1_41)
      have V_b8 : Arv Z h12 b8 kA8 .char (2 : Int32) [(.int c0), (.int (nar .char c1))] (.int (0 : Int32)) := Arv.set Ar11 qk11 sz11 nn11 hs11 ft11 (fits_nar_char _) W12 1 rfl (Nat.le_of_ble_eq_true rfl)
      rw [own_nc hg1 hb1] at V_b8
      have Sf_b7 := Safe.wr W12 Sw12 HR.1 Sf_b7
      have HR := HR.trans (CHr.wr W12 Sw12 HR.1)
      have E_b7 := E_b7.wr W12
      have F_value_b7 := F_value_b7.other W12 (Or.inl ne_b7_b8)
      have F_coder_b7 := F_coder_b7.other W12 (Or.inl ne_b7_b8)
      have O := O.wr W12 g_b8
      have hk := Nat.le_trans hk (Keep.of_wr W12).1
      have K := K.wr W12 (Or.inr sz_b8)
      have N := Fr.snoc X12 N g_b8
      refine gb st12 ?_
      show G T12 (mkF m 42 #[iv p0, iv c0, iv c1] [.ref b8, .ref b7, .ref b7])
      have lt_b7 := E_b7.lt
      have lt_b8 := V_b8.lt
      have szK := K.1
      have Sk13 : ∀ x ∈ [b7], Safe Z [("com/example/wrought_gate/wroughtgate/engine/SchemaLocationEqualsPinLaw", 7)] _ _ x := (sfS Sf_b7 sf0)
      obtain ⟨_, _, ⟨T13, Lz13, kz13, nz13⟩, -, X13, ⟨Lc13, hQ13, lq13, yq13, zq13⟩, st13⟩ := X12.specialBack hx (y := (⟨"java/lang/String", "<init>", "([C)V"⟩ : MethodName)) rfl hown (mvT hZ (ow hw 90 rfl)) (mvT hZ (ow hw 91 rfl)) (mvT hZ (ow hw 92 rfl)) (by decide) (backOf (W := 1) (rmS1_2 l Z a0 hw [] b7 b8 kA8 c0 c1 h12 n0 O E_b7 F_coder_b7 F_value_b7 g_b7 V_b8 (Ne.symm ne_b7_b8) hb0 hb1 zc S_cs hzc) hZ (ow hw 92 rfl) (ow hw 8 rfl) (by decide) (by decide)) (g := (mkF m 42 #[iv p0, iv c0, iv c1] [.ref b8, .ref b7, .ref b7])) rfl (by rw [hml]; rfl) (Steps.refl _) (a := b7) (argsL := [(.ref b8)]) (rest := [(.ref b7)]) (lenOf pd_5 rfl) rfl (by show 2 * 0 + _ ≤ _; exact Nat.le_of_eq rfl) (hb hby d1_42) (fun _ _ => ⟨rfl, e12, (by decide : 2 + 1 ≤ _), (by decide : 6 + 2 ≤ _)⟩)
      dsimp only [Pt.U, Pt.locs, Pt.cells, Pt.slots] at X13 lq13 yq13 zq13 st13 hQ13
      subst lq13 yq13 zq13
      obtain ⟨h13, e13⟩ : ∃ z, z = T13.heap := ⟨_, rfl⟩
      rw [← e13] at hQ13
      replace e13 := e13.symm
      obtain ⟨b13, kb13, rfl, Nq13, Kq13, hR13⟩ := hQ13
      have N := Fr.app N Nq13
      have Sf_b7 := Safe.keep Kq13 Sk13 HR.1 Sf_b7
      have HR := HR.trans (CHr.keep Kq13 Sk13 HR.1)
      have E_b7 := E_b7.keep Kq13
      have V_b8 := V_b8.keep Kq13 (ninS (Ne.symm ne_b7_b8) nin0)
      have hk := Nat.le_trans hk Kq13.1
      obtain ⟨E_b7, F_coder_b7, F_value_b7, g_b13, sz_b13, V_b13⟩ := hR13
      have O := O.keep Kq13 (allS g_b7 all0)
      have K := K.trans Kq13 (allS (Or.inr sz_b7) all0)
      have ne_b7_b13 : b7 ≠ b13 := Nat.ne_of_lt (Nat.lt_of_lt_of_le lt_b7 sz_b13)
      have ne_b8_b13 : b8 ≠ b13 := Nat.ne_of_lt (Nat.lt_of_lt_of_le lt_b8 sz_b13)
      have sz_b13 := Nat.le_trans szK sz_b13
      refine gb (fun _ k => st13.trans k) ?_
      show G T13 (mkF m 45 #[iv p0, iv c0, iv c1] [.ref b7])
      exact go X13 hS (Nat.le_trans hk (Nat.le_of_eq (congrArg Array.size e13.symm))) (by rw [e13]; exact HR) hZ (v := (some (.ref b7))) (fun h => by rw [Bd.returns] at h; cases h) (fun fs hr => retOut X13 hx Bd.returns rfl (Or.inr (Or.inr (Or.inr (Or.inr ⟨rfl, rfl, rfl⟩)))) (hb hby d1_45) hr) (by rw [e13]; exact ⟨b7, b13, kb13, (2 : Int32), [(nar .byte (c0.toInt8.toInt32)), (nar .byte (c1.toInt8.toInt32))], rfl, N, K, E_b7, F_coder_b7, F_value_b7, V_b13, rfl, (own_two hp0 hc1 hc9).symm, by unfold own_sl; rw [if_neg hc1, if_neg hc9]⟩) (by decide) (by decide)
def Q_rmCd (Z : State) (a1 : Addr) (h0 : Heap) (n0 : Nat) (zc : Int32) : Option Value → Heap → List Loc → Prop := fun v h L => v = some (.int (0 : Int32)) ∧ L = [] ∧ h = h0
set_option maxRecDepth 65536 in
set_option maxHeartbeats 40000000 in
theorem rmCd (l : Launch) (Z : State) (a0 : Array Value) (hw : ∀ d ∈ tables_1, d.before a0 Z = true) (ws : List Jvm.Cond) (a1 : Addr) (h0 : Heap) (n0 : Nat) (O : Old Z n0 h0) (zc : Int32) (S_cs : Sta Z Z.heap "java/lang/String" "COMPACT_STRINGS" "Z" (.int zc)) (hzc : ¬ zc = (0 : Int32)) (F_c1 : Fld Z h0 a1 "java/lang/String" "coder" "B" (.int (0 : Int32))) :
    MetFree l (⟨"java/lang/String", "coder", "()B"⟩ : MethodName) (head1 (Jvm.Cond.code (⟨"java/lang/String", "coder", "()B"⟩ : MethodName) jdk_42_method_152_code 1 (some .byte) :: ws) ({ frames := 0, cells := 0, slots := 0, locals := 0 } : Room)) (fun a U => a = #[(.ref a1)] ∧ Z.Warmed39 U.vm ∧ U.heap = h0) (fun _ _ _ _ _ => True) (fun _ U o U' => ∃ v L, o = .returned v ∧ (Q_rmCd Z a1 h0 n0 zc) v U'.heap L ∧ FrameEnd U o U' L ({ frames := 0, cells := 0, slots := 0, locals := 0 } : Room).cells ({ frames := 0, cells := 0, slots := 0, locals := 0 } : Room).slots) := by
  refine MetFree.of_bodySF (plainFor_of_name pn_1) hisR ?_
  intro p e s m args below meth c s₁ Bd hml0 hP hK
  obtain ⟨rfl, hZ, hh⟩ := hP
  have hx := Bd.exec
  have hby := Bd.bytes
  have hml : c.maxLocals = 1 := hml0
  have hown : s.vm.findClass "java/lang/String" = some m.cls := findClass_of_methodNamed Bd.named
  have hnm := (name_of_methodNamed Bd.named Bd.method).1
  have hlk := BodyLoose.notSynchronized Bd
  have X0 : Stand p l e ({ frames := 0, cells := 0, slots := 0, locals := 0 } : Room) s m #[(.ref a1)] below meth c s₁ [] 0 0 := Stand.of_body Bd
  have e0 : s₁.heap = h0 := by rw [← hh, Bd.state]; rfl
  have N := Fr.nil n0
  obtain ⟨G, hG⟩ : ∃ G : State → JFrame → Prop, G = OwnG p e below s ({ frames := 0, cells := 0, slots := 0, locals := 0 } : Room).cells ({ frames := 0, cells := 0, slots := 0, locals := 0 } : Room).slots (Q_rmCd Z a1 h0 n0 zc) := ⟨_, rfl⟩
  have gb : ∀ {T T' : State} {g g' : JFrame}, (∀ t, Steps p.tables e below (T'.setTop g') t → Steps p.tables e below (T.setTop g) t) → G T' g' → G T g := by subst hG; exact fun k h => own_by k h
  have go : ∀ {T : State} {locs : List Loc} {cells slots : Nat} {g : JFrame} {v : Option Value}, Stand p l e ({ frames := 0, cells := 0, slots := 0, locals := 0 } : Room) s m #[(.ref a1)] below meth c T locs cells slots → (meth.sig.returnType = none → v = none) → (∀ fs, (∀ (f : JFrame) (acts : List Action), f.method = m → f.locked = none → f.entered = [] → (doReturn e (T.setTop f) acts v).1 = T.setFrames fs) → Steps p.tables e below (T.setTop g) (T.setFrames fs)) → (Q_rmCd Z a1 h0 n0 zc) v T.heap locs → cells ≤ ({ frames := 0, cells := 0, slots := 0, locals := 0 } : Room).cells → slots ≤ ({ frames := 0, cells := 0, slots := 0, locals := 0 } : Room).slots → G T g := by subst hG; exact fun X h1 h2 h3 h4 h5 => own_out X hlk h1 h2 h3 h4 h5
  show OwnG p e below s ({ frames := 0, cells := 0, slots := 0, locals := 0 } : Room).cells ({ frames := 0, cells := 0, slots := 0, locals := 0 } : Room).slots (Q_rmCd Z a1 h0 n0 zc) s₁ (entryFrame m #[(.ref a1)] 1)
  rw [← hG, ef_rmCd m a1]
  clear hG
  show G s₁ (mkF m 0 #[.val (.ref a1)] [])
  obtain ⟨T1, X1, e1, st1⟩ := getS2 X0 hx hZ hown (host := "") (Or.inl (ow hw 42 rfl)) Via.refl e0 (S_cs.ext O.2) (g := (mkF m 0 #[rv a1] [])) rfl (hb hby d7_0)
  refine gb st1 ?_
  show G T1 (mkF m 3 #[rv a1] [.int zc])
  refine gb (fun _ k => XS.ifNo X1.here hx rfl (hb hby d7_3) rfl ((if0 _ _).trans (feq hzc).1) (XS.aloadN X1.here hx rfl (hb hby d7_6) rfl rfl k)) ?_
  show G T1 (mkF m 7 #[rv a1] [.ref a1])
  obtain ⟨T2, X2, e2, st2⟩ := getF X1 hx hZ hown (host := "") (Or.inl (ow hw 43 rfl)) Via.refl e1 F_c1 (g := (mkF m 7 #[rv a1] [.ref a1])) rfl rfl (hb hby d7_7)
  refine gb st2 ?_
  show G T2 (mkF m 10 #[rv a1] [.int 0])
  refine gb (fun _ k => XS.goto X2.here hx rfl (pc0 := 10) (pc' := 14) rfl (hb hby d7_10) (by decide) (by decide) k) ?_
  show G T2 (mkF m 14 #[rv a1] [.int 0])
  exact go X2 (v := (some (.int (0 : Int32)))) (fun h => by rw [Bd.returns] at h; cases h) (fun fs hr => retOut X2 hx Bd.returns rfl (Or.inl ⟨rfl, by simp, _, rfl⟩) (hb hby d7_14) hr) (⟨rfl, rfl, e2⟩) (by decide) (by decide)
def Q_rmLn (Z : State) (a1 a3 : Addr) (k3 : ClassId) (z3 : Int32) (xs : List Int32) (h0 : Heap) (n0 : Nat) (zc : Int32) : Option Value → Heap → List Loc → Prop := fun v h L => v = some (.int z3) ∧ L = [] ∧ h = h0
set_option maxRecDepth 65536 in
set_option maxHeartbeats 40000000 in
theorem rmLn (l : Launch) (Z : State) (a0 : Array Value) (hw : ∀ d ∈ tables_1, d.before a0 Z = true) (ws : List Jvm.Cond) (a1 a3 : Addr) (k3 : ClassId) (z3 : Int32) (xs : List Int32) (h0 : Heap) (n0 : Nat) (O : Old Z n0 h0) (zc : Int32) (S_cs : Sta Z Z.heap "java/lang/String" "COMPACT_STRINGS" "Z" (.int zc)) (hzc : ¬ zc = (0 : Int32)) (E_a1 : Exa Z h0 a1 "java/lang/String") (F_c1 : Fld Z h0 a1 "java/lang/String" "coder" "B" (.int (0 : Int32))) (F_v1 : Fld Z h0 a1 "java/lang/String" "value" "[B" (.ref a3)) (V_a3 : Arv Z h0 a3 k3 .byte z3 (xs.map Value.int) (.int (0 : Int32))) :
    MetFree l (⟨"java/lang/String", "length", "()I"⟩ : MethodName) (head1 (Jvm.Cond.code (⟨"java/lang/String", "length", "()I"⟩ : MethodName) jdk_42_method_54_code 1 (some .int) :: ws) ({ frames := 1, cells := 0, slots := 0, locals := 13 } : Room)) (fun a U => a = #[(.ref a1)] ∧ Z.Warmed39 U.vm ∧ U.heap = h0) (fun _ _ _ _ _ => True) (fun _ U o U' => ∃ v L, o = .returned v ∧ (Q_rmLn Z a1 a3 k3 z3 xs h0 n0 zc) v U'.heap L ∧ FrameEnd U o U' L ({ frames := 1, cells := 0, slots := 0, locals := 13 } : Room).cells ({ frames := 1, cells := 0, slots := 0, locals := 13 } : Room).slots) := by
  refine MetFree.of_bodySF (plainFor_of_name pn_1) hisR ?_
  intro p e s m args below meth c s₁ Bd hml0 hP hK
  obtain ⟨rfl, hZ, hh⟩ := hP
  have hx := Bd.exec
  have hby := Bd.bytes
  have hml : c.maxLocals = 1 := hml0
  have hown : s.vm.findClass "java/lang/String" = some m.cls := findClass_of_methodNamed Bd.named
  have hnm := (name_of_methodNamed Bd.named Bd.method).1
  have hlk := BodyLoose.notSynchronized Bd
  have X0 : Stand p l e ({ frames := 1, cells := 0, slots := 0, locals := 13 } : Room) s m #[(.ref a1)] below meth c s₁ [] 0 0 := Stand.of_body Bd
  have e0 : s₁.heap = h0 := by rw [← hh, Bd.state]; rfl
  have N := Fr.nil n0
  obtain ⟨G, hG⟩ : ∃ G : State → JFrame → Prop, G = OwnG p e below s ({ frames := 1, cells := 0, slots := 0, locals := 13 } : Room).cells ({ frames := 1, cells := 0, slots := 0, locals := 13 } : Room).slots (Q_rmLn Z a1 a3 k3 z3 xs h0 n0 zc) := ⟨_, rfl⟩
  have gb : ∀ {T T' : State} {g g' : JFrame}, (∀ t, Steps p.tables e below (T'.setTop g') t → Steps p.tables e below (T.setTop g) t) → G T' g' → G T g := by subst hG; exact fun k h => own_by k h
  have go : ∀ {T : State} {locs : List Loc} {cells slots : Nat} {g : JFrame} {v : Option Value}, Stand p l e ({ frames := 1, cells := 0, slots := 0, locals := 13 } : Room) s m #[(.ref a1)] below meth c T locs cells slots → (meth.sig.returnType = none → v = none) → (∀ fs, (∀ (f : JFrame) (acts : List Action), f.method = m → f.locked = none → f.entered = [] → (doReturn e (T.setTop f) acts v).1 = T.setFrames fs) → Steps p.tables e below (T.setTop g) (T.setFrames fs)) → (Q_rmLn Z a1 a3 k3 z3 xs h0 n0 zc) v T.heap locs → cells ≤ ({ frames := 1, cells := 0, slots := 0, locals := 13 } : Room).cells → slots ≤ ({ frames := 1, cells := 0, slots := 0, locals := 13 } : Room).slots → G T g := by subst hG; exact fun X h1 h2 h3 h4 h5 => own_out X hlk h1 h2 h3 h4 h5
  show OwnG p e below s ({ frames := 1, cells := 0, slots := 0, locals := 13 } : Room).cells ({ frames := 1, cells := 0, slots := 0, locals := 13 } : Room).slots (Q_rmLn Z a1 a3 k3 z3 xs h0 n0 zc) s₁ (entryFrame m #[(.ref a1)] 1)
  rw [← hG, ef_rmLn m a1]
  clear hG
  show G s₁ (mkF m 0 #[.val (.ref a1)] [])
  refine gb (fun _ k => XS.aloadN X0.here hx rfl (hb hby d6_0) rfl rfl k) ?_
  show G s₁ (mkF m 1 #[rv a1] [.ref a1])
  obtain ⟨T1, X1, e1, st1⟩ := getF X0 hx hZ hown (host := "") (Or.inl (ow hw 36 rfl)) Via.refl e0 F_v1 (g := (mkF m 1 #[rv a1] [.ref a1])) rfl rfl (hb hby d6_1)
  refine gb st1 ?_
  show G T1 (mkF m 4 #[rv a1] [.ref a3])
  have V'2 := V_a3
  obtain ⟨cl2, Ar2, qk2, sz2, nn2, hs2, ft2⟩ := V'2
  refine gb (X1.arraylength hx (by rw [e1]; exact Ar2.1) (State.isArrayOf_alike hZ.alike Ar2.2.1) (g := (mkF m 4 #[rv a1] [.ref a3])) rfl rfl (hb hby d6_4)) ?_
  rw [len_of sz2 nn2]
  show G T1 (mkF m 5 #[rv a1] [.int z3])
  refine gb (fun _ k => XS.aloadN X1.here hx rfl (hb hby d6_5) rfl rfl k) ?_
  show G T1 (mkF m 6 #[rv a1] [.ref a1, .int z3])
  obtain ⟨cq3, kq3, q3a, q3b, q3c⟩ := isOf hZ e1 E_a1
  obtain ⟨_, _, ⟨T3, Lz3, kz3, nz3⟩, -, X3, ⟨Lc3, hQ3, lq3, yq3, zq3⟩, st3⟩ := X1.virtualBack hx (y := (⟨"java/lang/String", "coder", "()B"⟩ : MethodName)) (z := (⟨"java/lang/String", "coder", "()B"⟩ : MethodName)) hown (mvT hZ (ow hw 37 rfl)) (mvT hZ (ow hw 38 rfl)) (notFace_of_selects (args := #[]) (mvT hZ (ow hw 40 rfl))) (mvT hZ (ow hw 40 rfl)) (mvT hZ (ow hw 39 rfl)) (by decide) (backOf (W := 1) (rmCd l Z a0 hw [] a1 h0 n0 O zc S_cs hzc F_c1) hZ (ow hw 41 rfl) (ow hw 8 rfl) (by decide) (by decide)) q3a q3c (g := (mkF m 6 #[rv a1] [.ref a1, .int z3])) rfl (by rw [hml]; rfl) (Steps.refl _) (argsL := []) (rest := [(.int z3)]) (lenOf pd_6 rfl) rfl (by show 2 * 0 + _ ≤ _; exact Nat.le_of_eq rfl) (hb hby d6_6) (fun _ _ => ⟨rfl, e1, (by decide : 0 + 0 ≤ _), (by decide : 0 + 0 ≤ _)⟩)
  dsimp only [Pt.U, Pt.locs, Pt.cells, Pt.slots] at X3 lq3 yq3 zq3 st3 hQ3
  subst lq3 yq3 zq3
  obtain ⟨rfl, rfl, e3⟩ := hQ3
  try rw [List.append_nil] at X3
  refine gb (fun _ k => st3.trans k) ?_
  show G T3 (mkF m 9 #[rv a1] [.int 0, .int z3])
  refine gb (fun _ k => XS.ishr X3.here hx rfl (hb hby d6_9) rfl k) ?_
  show G T3 (mkF m 10 #[rv a1] [.int (z3 >>> ((0 : Int32) &&& 31))])
  rw [own_shr0]
  show G T3 (mkF m 10 #[rv a1] [.int z3])
  exact go X3 (v := (some (.int z3))) (fun h => by rw [Bd.returns] at h; cases h) (fun fs hr => retOut X3 hx Bd.returns rfl (Or.inl ⟨rfl, by simp, _, rfl⟩) (hb hby d6_10) hr) (⟨rfl, rfl, e3⟩) (by decide) (by decide)
def Q_rmMM (Z : State) (a3 a4 : Addr) (k3 k4 : ClassId) (z3 z4 : Int32) (xs ys : List Int32) (h0 : Heap) (n0 : Nat) : Option Value → Heap → List Loc → Prop := fun v h L => v = some (.int (-1 : Int32)) ∧ L = [] ∧ h = h0
set_option maxRecDepth 65536 in
set_option maxHeartbeats 40000000 in
theorem rmMM (l : Launch) (Z : State) (a0 : Array Value) (hw : ∀ d ∈ tables_1, d.before a0 Z = true) (ws : List Jvm.Cond) (a3 a4 : Addr) (k3 k4 : ClassId) (z3 z4 : Int32) (xs ys : List Int32) (h0 : Heap) (n0 : Nat) (O : Old Z n0 h0) (V_a3 : Arv Z h0 a3 k3 .byte z3 (xs.map Value.int) (.int (0 : Int32))) (V_a4 : Arv Z h0 a4 k4 .byte z4 (ys.map Value.int) (.int (0 : Int32))) (hz3 : z3.toNatClampNeg = xs.length) (hz4 : z4.toNatClampNeg = ys.length) (h7 : ¬ (7 : Int32) < z4) (hle : ys.length ≤ xs.length) (hpre : ∀ j, j < ys.length → xs.getD j 0 = ys.getD j 0) :
    MetFree l (⟨"jdk/internal/util/ArraysSupport", "mismatch", "([BI[BII)I"⟩ : MethodName) (head1 (Jvm.Cond.code (⟨"jdk/internal/util/ArraysSupport", "mismatch", "([BI[BII)I"⟩ : MethodName) jdk_48_method_14_code 8 (some .int) :: ws) ({ frames := 0, cells := 0, slots := 0, locals := 0 } : Room)) (fun a U => a = #[(.ref a3), (.int (0 : Int32)), (.ref a4), (.int (0 : Int32)), (.int z4)] ∧ Z.Warmed39 U.vm ∧ U.heap = h0) (fun _ _ _ _ _ => True) (fun _ U o U' => ∃ v L, o = .returned v ∧ (Q_rmMM Z a3 a4 k3 k4 z3 z4 xs ys h0 n0) v U'.heap L ∧ FrameEnd U o U' L ({ frames := 0, cells := 0, slots := 0, locals := 0 } : Room).cells ({ frames := 0, cells := 0, slots := 0, locals := 0 } : Room).slots) := by
  refine MetFree.of_bodySF (plainFor_of_name pn_4) hisR ?_
  intro p e s m args below meth c s₁ Bd hml0 hP hK
  obtain ⟨rfl, hZ, hh⟩ := hP
  have hx := Bd.exec
  have hby := Bd.bytes
  have hml : c.maxLocals = 8 := hml0
  have hown : s.vm.findClass "jdk/internal/util/ArraysSupport" = some m.cls := findClass_of_methodNamed Bd.named
  have hnm := (name_of_methodNamed Bd.named Bd.method).1
  have hlk := BodyLoose.notSynchronized Bd
  have X0 : Stand p l e ({ frames := 0, cells := 0, slots := 0, locals := 0 } : Room) s m #[(.ref a3), (.int (0 : Int32)), (.ref a4), (.int (0 : Int32)), (.int z4)] below meth c s₁ [] 0 0 := Stand.of_body Bd
  have e0 : s₁.heap = h0 := by rw [← hh, Bd.state]; rfl
  have N := Fr.nil n0
  obtain ⟨G, hG⟩ : ∃ G : State → JFrame → Prop, G = OwnG p e below s ({ frames := 0, cells := 0, slots := 0, locals := 0 } : Room).cells ({ frames := 0, cells := 0, slots := 0, locals := 0 } : Room).slots (Q_rmMM Z a3 a4 k3 k4 z3 z4 xs ys h0 n0) := ⟨_, rfl⟩
  have gb : ∀ {T T' : State} {g g' : JFrame}, (∀ t, Steps p.tables e below (T'.setTop g') t → Steps p.tables e below (T.setTop g) t) → G T' g' → G T g := by subst hG; exact fun k h => own_by k h
  have go : ∀ {T : State} {locs : List Loc} {cells slots : Nat} {g : JFrame} {v : Option Value}, Stand p l e ({ frames := 0, cells := 0, slots := 0, locals := 0 } : Room) s m #[(.ref a3), (.int (0 : Int32)), (.ref a4), (.int (0 : Int32)), (.int z4)] below meth c T locs cells slots → (meth.sig.returnType = none → v = none) → (∀ fs, (∀ (f : JFrame) (acts : List Action), f.method = m → f.locked = none → f.entered = [] → (doReturn e (T.setTop f) acts v).1 = T.setFrames fs) → Steps p.tables e below (T.setTop g) (T.setFrames fs)) → (Q_rmMM Z a3 a4 k3 k4 z3 z4 xs ys h0 n0) v T.heap locs → cells ≤ ({ frames := 0, cells := 0, slots := 0, locals := 0 } : Room).cells → slots ≤ ({ frames := 0, cells := 0, slots := 0, locals := 0 } : Room).slots → G T g := by subst hG; exact fun X h1 h2 h3 h4 h5 => own_out X hlk h1 h2 h3 h4 h5
  show OwnG p e below s ({ frames := 0, cells := 0, slots := 0, locals := 0 } : Room).cells ({ frames := 0, cells := 0, slots := 0, locals := 0 } : Room).slots (Q_rmMM Z a3 a4 k3 k4 z3 z4 xs ys h0 n0) s₁ (entryFrame m #[(.ref a3), (.int (0 : Int32)), (.ref a4), (.int (0 : Int32)), (.int z4)] 8)
  rw [← hG, ef_rmMM m a3 (0 : Int32) a4 (0 : Int32) z4]
  clear hG
  show G s₁ (mkF m 0 #[.val (.ref a3), .val (.int (0 : Int32)), .val (.ref a4), .val (.int (0 : Int32)), .val (.int z4), .unset, .unset, .unset] [])
  have hn4 : ¬ z4 < 0 := by obtain ⟨_, _, _, _, q, _⟩ := V_a4; exact q
  refine gb (fun _ k => XS.iconst X0.here hx rfl (hb hby d8_0) (XS.istore X0.here hx rfl (hb hby d8_1) rfl (l' := #[rv a3, iv 0, rv a4, iv 0, iv z4, iv 0, .unset, .unset]) rfl (XS.iload X0.here hx rfl (hb hby d8_3) rfl (XS.bipush X0.here hx rfl (hb hby d8_5) (XS.icmpYes X0.here hx rfl (pc0 := 7) (pc' := 70) rfl (hb hby d8_7) rfl (flt h7).2.2.2 (by decide) (by decide) k))))) ?_
  show G s₁ (mkF m 70 #[rv a3, iv 0, rv a4, iv 0, iv z4, iv 0, .unset, .unset] [])
  have L70 : ∀ (k i : Nat), i + k = ys.length → G s₁ (mkF m 70 #[rv a3, iv 0, rv a4, iv 0, iv z4, iv (Int32.ofNat i), .unset, .unset] []) := by
    intro k
    induction k with
    | zero =>
      intro i hi
      show G s₁ (mkF m 70 #[rv a3, iv 0, rv a4, iv 0, iv z4, iv (Int32.ofNat i), .unset, .unset] [])
      refine gb (fun _ k => XS.iload X0.here hx rfl (hb hby d8_70) rfl (XS.iload X0.here hx rfl (hb hby d8_72) rfl (XS.icmpYes X0.here hx rfl (pc0 := 74) (pc' := 101) rfl (hb hby d8_74) rfl (flt (own_ofNatG hz4 hn4 (by omega))).2.1 (by decide) (by decide) (XS.iconst X0.here hx rfl (hb hby d8_101) k)))) ?_
      show G s₁ (mkF m 102 #[rv a3, iv 0, rv a4, iv 0, iv z4, iv (Int32.ofNat i), .unset, .unset] [.int (-1)])
      exact go X0 (v := (some (.int (-1 : Int32)))) (fun h => by rw [Bd.returns] at h; cases h) (fun fs hr => retOut X0 hx Bd.returns rfl (Or.inl ⟨rfl, by simp, _, rfl⟩) (hb hby d8_102) hr) (⟨rfl, rfl, e0⟩) (by decide) (by decide)
    | succ k ih =>
      intro i hi
      show G s₁ (mkF m 70 #[rv a3, iv 0, rv a4, iv 0, iv z4, iv (Int32.ofNat i), .unset, .unset] [])
      obtain ⟨hi1, hi2, hi3⟩ := own_ofNat hz3 (show i < xs.length by omega)
      obtain ⟨hj1, hj2, hj3⟩ := own_ofNat hz4 (show i < ys.length by omega)
      refine gb (fun _ k => XS.iload X0.here hx rfl (hb hby d8_70) rfl (XS.iload X0.here hx rfl (hb hby d8_72) rfl (XS.icmpNo X0.here hx rfl (hb hby d8_74) rfl (tlt hj1).2.1 (XS.aloadN X0.here hx rfl (hb hby d8_77) rfl rfl (XS.iloadN X0.here hx rfl (hb hby d8_78) rfl (XS.iload X0.here hx rfl (hb hby d8_79) rfl k)))))) ?_
      show G s₁ (mkF m 81 #[rv a3, iv 0, rv a4, iv 0, iv z4, iv (Int32.ofNat i), .unset, .unset] [.int (Int32.ofNat i), .int 0, .ref a3])
      refine gb (fun _ k => XS.iadd X0.here hx rfl (hb hby d8_81) rfl k) ?_
      show G s₁ (mkF m 82 #[rv a3, iv 0, rv a4, iv 0, iv z4, iv (Int32.ofNat i), .unset, .unset] [.int ((0 : Int32) + (Int32.ofNat i)), .ref a3])
      rw [Int32.zero_add]
      show G s₁ (mkF m 82 #[rv a3, iv 0, rv a4, iv 0, iv z4, iv (Int32.ofNat i), .unset, .unset] [.int (Int32.ofNat i), .ref a3])
      have V'1 := V_a3
      obtain ⟨cl1, Ar1, qk1, sz1, nn1, hs1, ft1⟩ := V'1
      have hin1 : ¬ ((Int32.ofNat i) < 0 ∨ cl1.slots.size ≤ ((Int32.ofNat i)).toNatClampNeg) := inb_of sz1 ⟨hi2, hi1⟩
      have hat1 : cl1.slots[((Int32.ofNat i)).toNatClampNeg]? = some (.int (xs.getD i 0)) := hs1.at hin1 (by rw [hi3]; exact own_getD xs i)
      refine gb (X0.baloadBytes hx (j := (Int32.ofNat i)) (v := (.int (xs.getD i 0))) (by rw [e0]; exact Ar1.1) (State.isArrayOf_alike hZ.alike Ar1.2.1) Ar1.2.2 hin1 hat1 (g := (mkF m 82 #[rv a3, iv 0, rv a4, iv 0, iv z4, iv (Int32.ofNat i), .unset, .unset] [.int (Int32.ofNat i), .ref a3])) rfl rfl (hb hby d8_82)) ?_
      show G s₁ (mkF m 83 #[rv a3, iv 0, rv a4, iv 0, iv z4, iv (Int32.ofNat i), .unset, .unset] [.int (xs.getD i 0)])
      refine gb (fun _ k => XS.aloadN X0.here hx rfl (hb hby d8_83) rfl rfl (XS.iloadN X0.here hx rfl (hb hby d8_84) rfl (XS.iload X0.here hx rfl (hb hby d8_85) rfl (XS.iadd X0.here hx rfl (hb hby d8_87) rfl k)))) ?_
      show G s₁ (mkF m 88 #[rv a3, iv 0, rv a4, iv 0, iv z4, iv (Int32.ofNat i), .unset, .unset] [.int ((0 : Int32) + (Int32.ofNat i)), .ref a4, .int (xs.getD i 0)])
      rw [Int32.zero_add]
      show G s₁ (mkF m 88 #[rv a3, iv 0, rv a4, iv 0, iv z4, iv (Int32.ofNat i), .unset, .unset] [.int (Int32.ofNat i), .ref a4, .int (xs.getD i 0)])
      have V'2 := V_a4
      obtain ⟨cl2, Ar2, qk2, sz2, nn2, hs2, ft2⟩ := V'2
      have hin2 : ¬ ((Int32.ofNat i) < 0 ∨ cl2.slots.size ≤ ((Int32.ofNat i)).toNatClampNeg) := inb_of sz2 ⟨hj2, hj1⟩
      have hat2 : cl2.slots[((Int32.ofNat i)).toNatClampNeg]? = some (.int (ys.getD i 0)) := hs2.at hin2 (by rw [hj3]; exact own_getD ys i)
      refine gb (X0.baloadBytes hx (j := (Int32.ofNat i)) (v := (.int (ys.getD i 0))) (by rw [e0]; exact Ar2.1) (State.isArrayOf_alike hZ.alike Ar2.2.1) Ar2.2.2 hin2 hat2 (g := (mkF m 88 #[rv a3, iv 0, rv a4, iv 0, iv z4, iv (Int32.ofNat i), .unset, .unset] [.int (Int32.ofNat i), .ref a4, .int (xs.getD i 0)])) rfl rfl (hb hby d8_88)) ?_
      show G s₁ (mkF m 89 #[rv a3, iv 0, rv a4, iv 0, iv z4, iv (Int32.ofNat i), .unset, .unset] [.int (ys.getD i 0), .int (xs.getD i 0)])
      refine gb (fun _ k => XS.icmpYes X0.here hx rfl (pc0 := 89) (pc' := 95) rfl (hb hby d8_89) rfl (teq (hpre i (by omega))).1 (by decide) (by decide) (XS.iinc X0.here hx rfl (hb hby d8_95) rfl (l' := #[rv a3, iv 0, rv a4, iv 0, iv z4, iv ((Int32.ofNat i) + (1 : Int32)), .unset, .unset]) rfl (XS.goto X0.here hx rfl (pc0 := 98) (pc' := 70) rfl (hb hby d8_98) (by decide) (by decide) k))) ?_
      show G s₁ (mkF m 70 #[rv a3, iv 0, rv a4, iv 0, iv z4, iv ((Int32.ofNat i) + (1 : Int32)), .unset, .unset] [])
      rw [own_succ32]
      exact ih (i + 1) (by omega)
  exact L70 ys.length 0 (Nat.zero_add _)
theorem own_sub {z w : Int32} {n k : Nat} (hz : z.toNatClampNeg = n) (hw : w.toNatClampNeg = k) (h1 : ¬ z < 0) (h2 : ¬ w < 0) (h : k ≤ n) : ¬ (z - w) < (0 : Int32) := by
  have a0 : (0 : Int32).toInt = 0 := rfl
  have e1 : z.toInt.toNat = n := hz
  have e2 : w.toInt.toNat = k := hw
  have e3 := Int32.toInt_lt z
  rw [Int32.lt_iff_toInt_lt] at h1 h2 ⊢
  rw [Int32.toInt_sub, Int.bmod_eq_of_le (by omega) (by omega)]
  omega
def Q_rmSw2 (Z : State) (a1 a2 : Addr) (a3 a4 : Addr) (k3 k4 : ClassId) (z3 z4 : Int32) (xs ys : List Int32) (h0 : Heap) (n0 : Nat) (zc : Int32) : Option Value → Heap → List Loc → Prop := fun v h L => v = some (.int (1 : Int32)) ∧ L = [] ∧ h = h0
set_option maxRecDepth 65536 in
set_option maxHeartbeats 40000000 in
theorem rmSw2 (l : Launch) (Z : State) (a0 : Array Value) (hw : ∀ d ∈ tables_1, d.before a0 Z = true) (ws : List Jvm.Cond) (a1 a2 : Addr) (a3 a4 : Addr) (k3 k4 : ClassId) (z3 z4 : Int32) (xs ys : List Int32) (h0 : Heap) (n0 : Nat) (O : Old Z n0 h0) (E_a1 : Exa Z h0 a1 "java/lang/String") (E_a2 : Exa Z h0 a2 "java/lang/String") (F_c1 : Fld Z h0 a1 "java/lang/String" "coder" "B" (.int (0 : Int32))) (F_v1 : Fld Z h0 a1 "java/lang/String" "value" "[B" (.ref a3)) (F_c2 : Fld Z h0 a2 "java/lang/String" "coder" "B" (.int (0 : Int32))) (F_v2 : Fld Z h0 a2 "java/lang/String" "value" "[B" (.ref a4)) (V_a3 : Arv Z h0 a3 k3 .byte z3 (xs.map Value.int) (.int (0 : Int32))) (V_a4 : Arv Z h0 a4 k4 .byte z4 (ys.map Value.int) (.int (0 : Int32))) (hz3 : z3.toNatClampNeg = xs.length) (hz4 : z4.toNatClampNeg = ys.length) (h7 : ¬ (7 : Int32) < z4) (hle : ys.length ≤ xs.length) (hpre : ∀ j, j < ys.length → xs.getD j 0 = ys.getD j 0) (zc : Int32) (S_cs : Sta Z Z.heap "java/lang/String" "COMPACT_STRINGS" "Z" (.int zc)) (hzc : ¬ zc = (0 : Int32)) :
    MetFree l (⟨"java/lang/String", "startsWith", "(Ljava/lang/String;I)Z"⟩ : MethodName) (head1 (Jvm.Cond.code (⟨"java/lang/String", "startsWith", "(Ljava/lang/String;I)Z"⟩ : MethodName) jdk_42_method_75_code 8 (some .boolean) :: ws) ({ frames := 2, cells := 0, slots := 0, locals := 27 } : Room)) (fun a U => a = #[(.ref a1), (.ref a2), (.int (0 : Int32))] ∧ Z.Warmed39 U.vm ∧ U.heap = h0) (fun _ _ _ _ _ => True) (fun _ U o U' => ∃ v L, o = .returned v ∧ (Q_rmSw2 Z a1 a2 a3 a4 k3 k4 z3 z4 xs ys h0 n0 zc) v U'.heap L ∧ FrameEnd U o U' L ({ frames := 2, cells := 0, slots := 0, locals := 27 } : Room).cells ({ frames := 2, cells := 0, slots := 0, locals := 27 } : Room).slots) := by
  refine MetFree.of_bodySF (plainFor_of_name pn_1) hisR ?_
  intro p e s m args below meth c s₁ Bd hml0 hP hK
  obtain ⟨rfl, hZ, hh⟩ := hP
  have hx := Bd.exec
  have hby := Bd.bytes
  have hml : c.maxLocals = 8 := hml0
  have hown : s.vm.findClass "java/lang/String" = some m.cls := findClass_of_methodNamed Bd.named
  have hnm := (name_of_methodNamed Bd.named Bd.method).1
  have hlk := BodyLoose.notSynchronized Bd
  have X0 : Stand p l e ({ frames := 2, cells := 0, slots := 0, locals := 27 } : Room) s m #[(.ref a1), (.ref a2), (.int (0 : Int32))] below meth c s₁ [] 0 0 := Stand.of_body Bd
  have e0 : s₁.heap = h0 := by rw [← hh, Bd.state]; rfl
  have N := Fr.nil n0
  obtain ⟨G, hG⟩ : ∃ G : State → JFrame → Prop, G = OwnG p e below s ({ frames := 2, cells := 0, slots := 0, locals := 27 } : Room).cells ({ frames := 2, cells := 0, slots := 0, locals := 27 } : Room).slots (Q_rmSw2 Z a1 a2 a3 a4 k3 k4 z3 z4 xs ys h0 n0 zc) := ⟨_, rfl⟩
  have gb : ∀ {T T' : State} {g g' : JFrame}, (∀ t, Steps p.tables e below (T'.setTop g') t → Steps p.tables e below (T.setTop g) t) → G T' g' → G T g := by subst hG; exact fun k h => own_by k h
  have go : ∀ {T : State} {locs : List Loc} {cells slots : Nat} {g : JFrame} {v : Option Value}, Stand p l e ({ frames := 2, cells := 0, slots := 0, locals := 27 } : Room) s m #[(.ref a1), (.ref a2), (.int (0 : Int32))] below meth c T locs cells slots → (meth.sig.returnType = none → v = none) → (∀ fs, (∀ (f : JFrame) (acts : List Action), f.method = m → f.locked = none → f.entered = [] → (doReturn e (T.setTop f) acts v).1 = T.setFrames fs) → Steps p.tables e below (T.setTop g) (T.setFrames fs)) → (Q_rmSw2 Z a1 a2 a3 a4 k3 k4 z3 z4 xs ys h0 n0 zc) v T.heap locs → cells ≤ ({ frames := 2, cells := 0, slots := 0, locals := 27 } : Room).cells → slots ≤ ({ frames := 2, cells := 0, slots := 0, locals := 27 } : Room).slots → G T g := by subst hG; exact fun X h1 h2 h3 h4 h5 => own_out X hlk h1 h2 h3 h4 h5
  show OwnG p e below s ({ frames := 2, cells := 0, slots := 0, locals := 27 } : Room).cells ({ frames := 2, cells := 0, slots := 0, locals := 27 } : Room).slots (Q_rmSw2 Z a1 a2 a3 a4 k3 k4 z3 z4 xs ys h0 n0 zc) s₁ (entryFrame m #[(.ref a1), (.ref a2), (.int (0 : Int32))] 8)
  rw [← hG, ef_rmSw2 m a1 a2 (0 : Int32)]
  clear hG
  show G s₁ (mkF m 0 #[.val (.ref a1), .val (.ref a2), .val (.int (0 : Int32)), .unset, .unset, .unset, .unset, .unset] [])
  have hn3 : ¬ z3 < 0 := by obtain ⟨_, _, _, _, q, _⟩ := V_a3; exact q
  have hn4 : ¬ z4 < 0 := by obtain ⟨_, _, _, _, q, _⟩ := V_a4; exact q
  refine gb (fun _ k => XS.iloadN X0.here hx rfl (hb hby d5_0) rfl (XS.ifNo X0.here hx rfl (hb hby d5_1) rfl ((if0 _ _).trans (flt (by decide : ¬ ((0 : Int32) < (0 : Int32)))).1) (XS.iloadN X0.here hx rfl (hb hby d5_4) rfl (XS.aloadN X0.here hx rfl (hb hby d5_5) rfl rfl k)))) ?_
  show G s₁ (mkF m 6 #[rv a1, rv a2, iv 0, .unset, .unset, .unset, .unset, .unset] [.ref a1, .int 0])
  obtain ⟨cq1, kq1, q1a, q1b, q1c⟩ := isOf hZ e0 E_a1
  obtain ⟨_, _, ⟨T1, Lz1, kz1, nz1⟩, -, X1, ⟨Lc1, hQ1, lq1, yq1, zq1⟩, st1⟩ := X0.virtualBack hx (y := (⟨"java/lang/String", "length", "()I"⟩ : MethodName)) (z := (⟨"java/lang/String", "length", "()I"⟩ : MethodName)) hown (mvT hZ (ow hw 31 rfl)) (mvT hZ (ow hw 32 rfl)) (notFace_of_selects (args := #[]) (mvT hZ (ow hw 34 rfl))) (mvT hZ (ow hw 34 rfl)) (mvT hZ (ow hw 33 rfl)) (by decide) (backOf (W := 1) (rmLn l Z a0 hw [] a1 a3 k3 z3 xs h0 n0 O zc S_cs hzc E_a1 F_c1 F_v1 V_a3) hZ (ow hw 35 rfl) (ow hw 8 rfl) (by decide) (by decide)) q1a q1c (g := (mkF m 6 #[rv a1, rv a2, iv 0, .unset, .unset, .unset, .unset, .unset] [.ref a1, .int 0])) rfl (by rw [hml]; rfl) (Steps.refl _) (argsL := []) (rest := [(.int (0 : Int32))]) (lenOf pd_7 rfl) rfl (by show 2 * 0 + _ ≤ _; exact Nat.le_of_eq rfl) (hb hby d5_6) (fun _ _ => ⟨rfl, e0, (by decide : 0 + 0 ≤ _), (by decide : 0 + 0 ≤ _)⟩)
  dsimp only [Pt.U, Pt.locs, Pt.cells, Pt.slots] at X1 lq1 yq1 zq1 st1 hQ1
  subst lq1 yq1 zq1
  obtain ⟨rfl, rfl, e1⟩ := hQ1
  try rw [List.append_nil] at X1
  refine gb (fun _ k => st1.trans k) ?_
  show G T1 (mkF m 9 #[rv a1, rv a2, iv 0, .unset, .unset, .unset, .unset, .unset] [.int z3, .int 0])
  refine gb (fun _ k => XS.aloadN X1.here hx rfl (hb hby d5_9) rfl rfl k) ?_
  show G T1 (mkF m 10 #[rv a1, rv a2, iv 0, .unset, .unset, .unset, .unset, .unset] [.ref a2, .int z3, .int 0])
  obtain ⟨cq2, kq2, q2a, q2b, q2c⟩ := isOf hZ e1 E_a2
  obtain ⟨_, _, ⟨T2, Lz2, kz2, nz2⟩, -, X2, ⟨Lc2, hQ2, lq2, yq2, zq2⟩, st2⟩ := X1.virtualBack hx (y := (⟨"java/lang/String", "length", "()I"⟩ : MethodName)) (z := (⟨"java/lang/String", "length", "()I"⟩ : MethodName)) hown (mvT hZ (ow hw 31 rfl)) (mvT hZ (ow hw 32 rfl)) (notFace_of_selects (args := #[]) (mvT hZ (ow hw 34 rfl))) (mvT hZ (ow hw 34 rfl)) (mvT hZ (ow hw 33 rfl)) (by decide) (backOf (W := 2) (rmLn l Z a0 hw [] a2 a4 k4 z4 ys h0 n0 O zc S_cs hzc E_a2 F_c2 F_v2 V_a4) hZ (ow hw 35 rfl) (ow hw 8 rfl) (by decide) (by decide)) q2a q2c (g := (mkF m 10 #[rv a1, rv a2, iv 0, .unset, .unset, .unset, .unset, .unset] [.ref a2, .int z3, .int 0])) rfl (by rw [hml]; rfl) (Steps.refl _) (argsL := []) (rest := [(.int z3), (.int (0 : Int32))]) (lenOf pd_7 rfl) rfl (by show 2 * 0 + _ ≤ _; exact Nat.le_of_eq rfl) (hb hby d5_10) (fun _ _ => ⟨rfl, e1, (by decide : 0 + 0 ≤ _), (by decide : 0 + 0 ≤ _)⟩)
  dsimp only [Pt.U, Pt.locs, Pt.cells, Pt.slots] at X2 lq2 yq2 zq2 st2 hQ2
  subst lq2 yq2 zq2
  obtain ⟨rfl, rfl, e2⟩ := hQ2
  try rw [List.append_nil] at X2
  refine gb (fun _ k => st2.trans k) ?_
  show G T2 (mkF m 13 #[rv a1, rv a2, iv 0, .unset, .unset, .unset, .unset, .unset] [.int z4, .int z3, .int 0])
  refine gb (fun _ k => XS.isub X2.here hx rfl (hb hby d5_13) rfl (XS.icmpYes X2.here hx rfl (pc0 := 14) (pc' := 19) rfl (hb hby d5_14) rfl (flt (own_sub hz3 hz4 hn3 hn4 hle)).2.2.2 (by decide) (by decide) (XS.aloadN X2.here hx rfl (hb hby d5_19) rfl rfl k))) ?_
  show G T2 (mkF m 20 #[rv a1, rv a2, iv 0, .unset, .unset, .unset, .unset, .unset] [.ref a1])
  obtain ⟨T3, X3, e3, st3⟩ := getF X2 hx hZ hown (host := "") (Or.inl (ow hw 36 rfl)) Via.refl e2 F_v1 (g := (mkF m 20 #[rv a1, rv a2, iv 0, .unset, .unset, .unset, .unset, .unset] [.ref a1])) rfl rfl (hb hby d5_20)
  refine gb st3 ?_
  show G T3 (mkF m 23 #[rv a1, rv a2, iv 0, .unset, .unset, .unset, .unset, .unset] [.ref a3])
  refine gb (fun _ k => XS.astoreN X3.here hx rfl (hb hby d5_23) rfl rfl (l' := #[rv a1, rv a2, iv 0, rv a3, .unset, .unset, .unset, .unset]) rfl (XS.aloadN X3.here hx rfl (hb hby d5_24) rfl rfl k)) ?_
  show G T3 (mkF m 25 #[rv a1, rv a2, iv 0, rv a3, .unset, .unset, .unset, .unset] [.ref a2])
  obtain ⟨T4, X4, e4, st4⟩ := getF X3 hx hZ hown (host := "") (Or.inl (ow hw 36 rfl)) Via.refl e3 F_v2 (g := (mkF m 25 #[rv a1, rv a2, iv 0, rv a3, .unset, .unset, .unset, .unset] [.ref a2])) rfl rfl (hb hby d5_25)
  refine gb st4 ?_
  show G T4 (mkF m 28 #[rv a1, rv a2, iv 0, rv a3, .unset, .unset, .unset, .unset] [.ref a4])
  refine gb (fun _ k => XS.astore X4.here hx rfl (hb hby d5_28) rfl rfl (l' := #[rv a1, rv a2, iv 0, rv a3, rv a4, .unset, .unset, .unset]) rfl (XS.iconst X4.here hx rfl (hb hby d5_30) (XS.istore X4.here hx rfl (hb hby d5_31) rfl (l' := #[rv a1, rv a2, iv 0, rv a3, rv a4, iv 0, .unset, .unset]) rfl (XS.aload X4.here hx rfl (hb hby d5_33) rfl rfl k)))) ?_
  show G T4 (mkF m 35 #[rv a1, rv a2, iv 0, rv a3, rv a4, iv 0, .unset, .unset] [.ref a4])
  have V'5 := V_a4
  obtain ⟨cl5, Ar5, qk5, sz5, nn5, hs5, ft5⟩ := V'5
  refine gb (X4.arraylength hx (by rw [e4]; exact Ar5.1) (State.isArrayOf_alike hZ.alike Ar5.2.1) (g := (mkF m 35 #[rv a1, rv a2, iv 0, rv a3, rv a4, iv 0, .unset, .unset] [.ref a4])) rfl rfl (hb hby d5_35)) ?_
  rw [len_of sz5 nn5]
  show G T4 (mkF m 36 #[rv a1, rv a2, iv 0, rv a3, rv a4, iv 0, .unset, .unset] [.int z4])
  refine gb (fun _ k => XS.istore X4.here hx rfl (hb hby d5_36) rfl (l' := #[rv a1, rv a2, iv 0, rv a3, rv a4, iv 0, iv z4, .unset]) rfl (XS.aloadN X4.here hx rfl (hb hby d5_38) rfl rfl k)) ?_
  show G T4 (mkF m 39 #[rv a1, rv a2, iv 0, rv a3, rv a4, iv 0, iv z4, .unset] [.ref a1])
  obtain ⟨cq6, kq6, q6a, q6b, q6c⟩ := isOf hZ e4 E_a1
  obtain ⟨_, _, ⟨T6, Lz6, kz6, nz6⟩, -, X6, ⟨Lc6, hQ6, lq6, yq6, zq6⟩, st6⟩ := X4.virtualBack hx (y := (⟨"java/lang/String", "coder", "()B"⟩ : MethodName)) (z := (⟨"java/lang/String", "coder", "()B"⟩ : MethodName)) hown (mvT hZ (ow hw 37 rfl)) (mvT hZ (ow hw 38 rfl)) (notFace_of_selects (args := #[]) (mvT hZ (ow hw 40 rfl))) (mvT hZ (ow hw 40 rfl)) (mvT hZ (ow hw 39 rfl)) (by decide) (backOf (W := 0) (rmCd l Z a0 hw [] a1 h0 n0 O zc S_cs hzc F_c1) hZ (ow hw 41 rfl) (ow hw 8 rfl) (by decide) (by decide)) q6a q6c (g := (mkF m 39 #[rv a1, rv a2, iv 0, rv a3, rv a4, iv 0, iv z4, .unset] [.ref a1])) rfl (by rw [hml]; rfl) (Steps.refl _) (argsL := []) (rest := []) (lenOf pd_6 rfl) rfl (by show 2 * 0 + _ ≤ _; exact Nat.le_of_eq rfl) (hb hby d5_39) (fun _ _ => ⟨rfl, e4, (by decide : 0 + 0 ≤ _), (by decide : 0 + 0 ≤ _)⟩)
  dsimp only [Pt.U, Pt.locs, Pt.cells, Pt.slots] at X6 lq6 yq6 zq6 st6 hQ6
  subst lq6 yq6 zq6
  obtain ⟨rfl, rfl, e6⟩ := hQ6
  try rw [List.append_nil] at X6
  refine gb (fun _ k => st6.trans k) ?_
  show G T6 (mkF m 42 #[rv a1, rv a2, iv 0, rv a3, rv a4, iv 0, iv z4, .unset] [.int 0])
  refine gb (fun _ k => XS.istore X6.here hx rfl (hb hby d5_42) rfl (l' := #[rv a1, rv a2, iv 0, rv a3, rv a4, iv 0, iv z4, iv 0]) rfl (XS.iload X6.here hx rfl (hb hby d5_44) rfl (XS.aloadN X6.here hx rfl (hb hby d5_46) rfl rfl k))) ?_
  show G T6 (mkF m 47 #[rv a1, rv a2, iv 0, rv a3, rv a4, iv 0, iv z4, iv 0] [.ref a2, .int 0])
  obtain ⟨cq7, kq7, q7a, q7b, q7c⟩ := isOf hZ e6 E_a2
  obtain ⟨_, _, ⟨T7, Lz7, kz7, nz7⟩, -, X7, ⟨Lc7, hQ7, lq7, yq7, zq7⟩, st7⟩ := X6.virtualBack hx (y := (⟨"java/lang/String", "coder", "()B"⟩ : MethodName)) (z := (⟨"java/lang/String", "coder", "()B"⟩ : MethodName)) hown (mvT hZ (ow hw 37 rfl)) (mvT hZ (ow hw 38 rfl)) (notFace_of_selects (args := #[]) (mvT hZ (ow hw 40 rfl))) (mvT hZ (ow hw 40 rfl)) (mvT hZ (ow hw 39 rfl)) (by decide) (backOf (W := 1) (rmCd l Z a0 hw [] a2 h0 n0 O zc S_cs hzc F_c2) hZ (ow hw 41 rfl) (ow hw 8 rfl) (by decide) (by decide)) q7a q7c (g := (mkF m 47 #[rv a1, rv a2, iv 0, rv a3, rv a4, iv 0, iv z4, iv 0] [.ref a2, .int 0])) rfl (by rw [hml]; rfl) (Steps.refl _) (argsL := []) (rest := [(.int (0 : Int32))]) (lenOf pd_6 rfl) rfl (by show 2 * 0 + _ ≤ _; exact Nat.le_of_eq rfl) (hb hby d5_47) (fun _ _ => ⟨rfl, e6, (by decide : 0 + 0 ≤ _), (by decide : 0 + 0 ≤ _)⟩)
  dsimp only [Pt.U, Pt.locs, Pt.cells, Pt.slots] at X7 lq7 yq7 zq7 st7 hQ7
  subst lq7 yq7 zq7
  obtain ⟨rfl, rfl, e7⟩ := hQ7
  try rw [List.append_nil] at X7
  refine gb (fun _ k => st7.trans k) ?_
  show G T7 (mkF m 50 #[rv a1, rv a2, iv 0, rv a3, rv a4, iv 0, iv z4, iv 0] [.int 0, .int 0])
  refine gb (fun _ k => XS.icmpNo X7.here hx rfl (hb hby d5_50) rfl (teq (by decide : (0 : Int32) = (0 : Int32))).2 (XS.iload X7.here hx rfl (hb hby d5_53) rfl (XS.iconst X7.here hx rfl (hb hby d5_55) (XS.icmpYes X7.here hx rfl (pc0 := 56) (pc' := 63) rfl (hb hby d5_56) rfl (feq (by decide : ¬ ((0 : Int32) = (1 : Int32)))).2 (by decide) (by decide) (XS.aloadN X7.here hx rfl (hb hby d5_63) rfl rfl (XS.iloadN X7.here hx rfl (hb hby d5_64) rfl k)))))) ?_
  show G T7 (mkF m 65 #[rv a1, rv a2, iv 0, rv a3, rv a4, iv 0, iv z4, iv 0] [.int 0, .ref a3])
  refine gb (fun _ k => XS.aload X7.here hx rfl (hb hby d5_65) rfl rfl (XS.iconst X7.here hx rfl (hb hby d5_67) (XS.iload X7.here hx rfl (hb hby d5_68) rfl k))) ?_
  show G T7 (mkF m 70 #[rv a1, rv a2, iv 0, rv a3, rv a4, iv 0, iv z4, iv 0] [.int z4, .int 0, .ref a4, .int 0, .ref a3])
  obtain ⟨_, _, ⟨T8, Lz8, kz8, nz8⟩, -, X8, ⟨Lc8, hQ8, lq8, yq8, zq8⟩, st8⟩ := Jvm.LawKit.callS X7 hx (y := (⟨"jdk/internal/util/ArraysSupport", "mismatch", "([BI[BII)I"⟩ : MethodName)) hown (mvT hZ (ow hw 44 rfl)) (mvT hZ (ow hw 45 rfl)) (mvT hZ (ow hw 46 rfl)) (mvT hZ (ow hw 47 rfl)) (by decide) (backOf (W := 0) (rmMM l Z a0 hw [] a3 a4 k3 k4 z3 z4 xs ys h0 n0 O V_a3 V_a4 hz3 hz4 h7 hle hpre) hZ (ow hw 47 rfl) (ow hw 46 rfl) (by decide) (by decide)) (g := (mkF m 70 #[rv a1, rv a2, iv 0, rv a3, rv a4, iv 0, iv z4, iv 0] [.int z4, .int 0, .ref a4, .int 0, .ref a3])) rfl (by rw [hml]; rfl) (argsL := [(.ref a3), (.int (0 : Int32)), (.ref a4), (.int (0 : Int32)), (.int z4)]) (rest := []) (lenOf pd_8 rfl) rfl (by show 2 * 0 + _ ≤ _; exact Nat.le_of_eq rfl) (hb hby d5_70) (fun _ _ => ⟨rfl, e7, (by decide : 0 + 0 ≤ _), (by decide : 0 + 0 ≤ _)⟩)
  dsimp only [Pt.U, Pt.locs, Pt.cells, Pt.slots] at X8 lq8 yq8 zq8 st8 hQ8
  subst lq8 yq8 zq8
  obtain ⟨rfl, rfl, e8⟩ := hQ8
  try rw [List.append_nil] at X8
  refine gb st8 ?_
  show G T8 (mkF m 73 #[rv a1, rv a2, iv 0, rv a3, rv a4, iv 0, iv z4, iv 0] [.int (-1)])
  refine gb (fun _ k => XS.ifNo X8.here hx rfl (hb hby d5_73) rfl ((if0 _ _).trans (tlt (by decide : (-1 : Int32) < (0 : Int32))).2.1) (XS.iconst X8.here hx rfl (hb hby d5_76) (XS.goto X8.here hx rfl (pc0 := 77) (pc' := 81) rfl (hb hby d5_77) (by decide) (by decide) k))) ?_
  show G T8 (mkF m 81 #[rv a1, rv a2, iv 0, rv a3, rv a4, iv 0, iv z4, iv 0] [.int 1])
  exact go X8 (v := (some (.int (1 : Int32)))) (fun h => by rw [Bd.returns] at h; cases h) (fun fs hr => retOut X8 hx Bd.returns rfl (Or.inl ⟨rfl, by simp, _, rfl⟩) (hb hby d5_81) hr) (⟨rfl, rfl, e8⟩) (by decide) (by decide)
def Q_rmSw (Z : State) (a1 a2 : Addr) (a3 a4 : Addr) (k3 k4 : ClassId) (z3 z4 : Int32) (xs ys : List Int32) (h0 : Heap) (n0 : Nat) (zc : Int32) : Option Value → Heap → List Loc → Prop := fun v h L => v = some (.int (1 : Int32)) ∧ L = [] ∧ h = h0
set_option maxRecDepth 65536 in
set_option maxHeartbeats 40000000 in
theorem rmSw (l : Launch) (Z : State) (a0 : Array Value) (hw : ∀ d ∈ tables_1, d.before a0 Z = true) (ws : List Jvm.Cond) (a1 a2 : Addr) (a3 a4 : Addr) (k3 k4 : ClassId) (z3 z4 : Int32) (xs ys : List Int32) (h0 : Heap) (n0 : Nat) (O : Old Z n0 h0) (E_a1 : Exa Z h0 a1 "java/lang/String") (E_a2 : Exa Z h0 a2 "java/lang/String") (F_c1 : Fld Z h0 a1 "java/lang/String" "coder" "B" (.int (0 : Int32))) (F_v1 : Fld Z h0 a1 "java/lang/String" "value" "[B" (.ref a3)) (F_c2 : Fld Z h0 a2 "java/lang/String" "coder" "B" (.int (0 : Int32))) (F_v2 : Fld Z h0 a2 "java/lang/String" "value" "[B" (.ref a4)) (V_a3 : Arv Z h0 a3 k3 .byte z3 (xs.map Value.int) (.int (0 : Int32))) (V_a4 : Arv Z h0 a4 k4 .byte z4 (ys.map Value.int) (.int (0 : Int32))) (hz3 : z3.toNatClampNeg = xs.length) (hz4 : z4.toNatClampNeg = ys.length) (h7 : ¬ (7 : Int32) < z4) (hle : ys.length ≤ xs.length) (hpre : ∀ j, j < ys.length → xs.getD j 0 = ys.getD j 0) (zc : Int32) (S_cs : Sta Z Z.heap "java/lang/String" "COMPACT_STRINGS" "Z" (.int zc)) (hzc : ¬ zc = (0 : Int32)) :
    MetFree l (⟨"java/lang/String", "startsWith", "(Ljava/lang/String;)Z"⟩ : MethodName) (head1 (Jvm.Cond.code (⟨"java/lang/String", "startsWith", "(Ljava/lang/String;)Z"⟩ : MethodName) jdk_42_method_76_code 2 (some .boolean) :: ws) ({ frames := 3, cells := 0, slots := 0, locals := 46 } : Room)) (fun a U => a = #[(.ref a1), (.ref a2)] ∧ Z.Warmed39 U.vm ∧ U.heap = h0) (fun _ _ _ _ _ => True) (fun _ U o U' => ∃ v L, o = .returned v ∧ (Q_rmSw Z a1 a2 a3 a4 k3 k4 z3 z4 xs ys h0 n0 zc) v U'.heap L ∧ FrameEnd U o U' L ({ frames := 3, cells := 0, slots := 0, locals := 46 } : Room).cells ({ frames := 3, cells := 0, slots := 0, locals := 46 } : Room).slots) := by
  refine MetFree.of_bodySF (plainFor_of_name pn_1) hisR ?_
  intro p e s m args below meth c s₁ Bd hml0 hP hK
  obtain ⟨rfl, hZ, hh⟩ := hP
  have hx := Bd.exec
  have hby := Bd.bytes
  have hml : c.maxLocals = 2 := hml0
  have hown : s.vm.findClass "java/lang/String" = some m.cls := findClass_of_methodNamed Bd.named
  have hnm := (name_of_methodNamed Bd.named Bd.method).1
  have hlk := BodyLoose.notSynchronized Bd
  have X0 : Stand p l e ({ frames := 3, cells := 0, slots := 0, locals := 46 } : Room) s m #[(.ref a1), (.ref a2)] below meth c s₁ [] 0 0 := Stand.of_body Bd
  have e0 : s₁.heap = h0 := by rw [← hh, Bd.state]; rfl
  have N := Fr.nil n0
  obtain ⟨G, hG⟩ : ∃ G : State → JFrame → Prop, G = OwnG p e below s ({ frames := 3, cells := 0, slots := 0, locals := 46 } : Room).cells ({ frames := 3, cells := 0, slots := 0, locals := 46 } : Room).slots (Q_rmSw Z a1 a2 a3 a4 k3 k4 z3 z4 xs ys h0 n0 zc) := ⟨_, rfl⟩
  have gb : ∀ {T T' : State} {g g' : JFrame}, (∀ t, Steps p.tables e below (T'.setTop g') t → Steps p.tables e below (T.setTop g) t) → G T' g' → G T g := by subst hG; exact fun k h => own_by k h
  have go : ∀ {T : State} {locs : List Loc} {cells slots : Nat} {g : JFrame} {v : Option Value}, Stand p l e ({ frames := 3, cells := 0, slots := 0, locals := 46 } : Room) s m #[(.ref a1), (.ref a2)] below meth c T locs cells slots → (meth.sig.returnType = none → v = none) → (∀ fs, (∀ (f : JFrame) (acts : List Action), f.method = m → f.locked = none → f.entered = [] → (doReturn e (T.setTop f) acts v).1 = T.setFrames fs) → Steps p.tables e below (T.setTop g) (T.setFrames fs)) → (Q_rmSw Z a1 a2 a3 a4 k3 k4 z3 z4 xs ys h0 n0 zc) v T.heap locs → cells ≤ ({ frames := 3, cells := 0, slots := 0, locals := 46 } : Room).cells → slots ≤ ({ frames := 3, cells := 0, slots := 0, locals := 46 } : Room).slots → G T g := by subst hG; exact fun X h1 h2 h3 h4 h5 => own_out X hlk h1 h2 h3 h4 h5
  show OwnG p e below s ({ frames := 3, cells := 0, slots := 0, locals := 46 } : Room).cells ({ frames := 3, cells := 0, slots := 0, locals := 46 } : Room).slots (Q_rmSw Z a1 a2 a3 a4 k3 k4 z3 z4 xs ys h0 n0 zc) s₁ (entryFrame m #[(.ref a1), (.ref a2)] 2)
  rw [← hG, ef_rmSw m a1 a2]
  clear hG
  show G s₁ (mkF m 0 #[.val (.ref a1), .val (.ref a2)] [])
  refine gb (fun _ k => XS.aloadN X0.here hx rfl (hb hby d4_0) rfl rfl (XS.aloadN X0.here hx rfl (hb hby d4_1) rfl rfl (XS.iconst X0.here hx rfl (hb hby d4_2) k))) ?_
  show G s₁ (mkF m 3 #[rv a1, rv a2] [.int 0, .ref a2, .ref a1])
  obtain ⟨cq1, kq1, q1a, q1b, q1c⟩ := isOf hZ e0 E_a1
  obtain ⟨_, _, ⟨T1, Lz1, kz1, nz1⟩, -, X1, ⟨Lc1, hQ1, lq1, yq1, zq1⟩, st1⟩ := X0.virtualBack hx (y := (⟨"java/lang/String", "startsWith", "(Ljava/lang/String;I)Z"⟩ : MethodName)) (z := (⟨"java/lang/String", "startsWith", "(Ljava/lang/String;I)Z"⟩ : MethodName)) hown (mvT hZ (ow hw 26 rfl)) (mvT hZ (ow hw 27 rfl)) (notFace_of_selects (args := #[]) (mvT hZ (ow hw 29 rfl))) (mvT hZ (ow hw 29 rfl)) (mvT hZ (ow hw 28 rfl)) (by decide) (backOf (W := 0) (rmSw2 l Z a0 hw [] a1 a2 a3 a4 k3 k4 z3 z4 xs ys h0 n0 O E_a1 E_a2 F_c1 F_v1 F_c2 F_v2 V_a3 V_a4 hz3 hz4 h7 hle hpre zc S_cs hzc) hZ (ow hw 30 rfl) (ow hw 8 rfl) (by decide) (by decide)) q1a q1c (g := (mkF m 3 #[rv a1, rv a2] [.int 0, .ref a2, .ref a1])) rfl (by rw [hml]; rfl) (Steps.refl _) (argsL := [(.ref a2), (.int (0 : Int32))]) (rest := []) (lenOf pd_9 rfl) rfl (by show 2 * 0 + _ ≤ _; exact Nat.le_of_eq rfl) (hb hby d4_3) (fun _ _ => ⟨rfl, e0, (by decide : 0 + 0 ≤ _), (by decide : 0 + 0 ≤ _)⟩)
  dsimp only [Pt.U, Pt.locs, Pt.cells, Pt.slots] at X1 lq1 yq1 zq1 st1 hQ1
  subst lq1 yq1 zq1
  obtain ⟨rfl, rfl, e1⟩ := hQ1
  try rw [List.append_nil] at X1
  refine gb (fun _ k => st1.trans k) ?_
  show G T1 (mkF m 6 #[rv a1, rv a2] [.int 1])
  exact go X1 (v := (some (.int (1 : Int32)))) (fun h => by rw [Bd.returns] at h; cases h) (fun fs hr => retOut X1 hx Bd.returns rfl (Or.inl ⟨rfl, by simp, _, rfl⟩) (hb hby d4_6) hr) (⟨rfl, rfl, e1⟩) (by decide) (by decide)
def Q_rmRN (Z : State) (a1 a2 : Addr) (h0 : Heap) (n0 : Nat) : Option Value → Heap → List Loc → Prop := fun v h L => v = some (.ref a1) ∧ L = [] ∧ h = h0
set_option maxRecDepth 65536 in
set_option maxHeartbeats 40000000 in
theorem rmRN (l : Launch) (Z : State) (a0 : Array Value) (hw : ∀ d ∈ tables_1, d.before a0 Z = true) (ws : List Jvm.Cond) (a1 a2 : Addr) (h0 : Heap) (n0 : Nat) (O : Old Z n0 h0) :
    MetFree l (⟨"java/util/Objects", "requireNonNull", "(Ljava/lang/Object;Ljava/lang/String;)Ljava/lang/Object;"⟩ : MethodName) (head1 (Jvm.Cond.code (⟨"java/util/Objects", "requireNonNull", "(Ljava/lang/Object;Ljava/lang/String;)Ljava/lang/Object;"⟩ : MethodName) jdk_31_method_11_code 2 (some (.object "java/lang/Object")) :: ws) ({ frames := 0, cells := 0, slots := 0, locals := 0 } : Room)) (fun a U => a = #[(.ref a1), (.ref a2)] ∧ Z.Warmed39 U.vm ∧ U.heap = h0) (fun _ _ _ _ _ => True) (fun _ U o U' => ∃ v L, o = .returned v ∧ (Q_rmRN Z a1 a2 h0 n0) v U'.heap L ∧ FrameEnd U o U' L ({ frames := 0, cells := 0, slots := 0, locals := 0 } : Room).cells ({ frames := 0, cells := 0, slots := 0, locals := 0 } : Room).slots) := by
  refine MetFree.of_bodySF (plainFor_of_name pn_5) hisR ?_
  intro p e s m args below meth c s₁ Bd hml0 hP hK
  obtain ⟨rfl, hZ, hh⟩ := hP
  have hx := Bd.exec
  have hby := Bd.bytes
  have hml : c.maxLocals = 2 := hml0
  have hown : s.vm.findClass "java/util/Objects" = some m.cls := findClass_of_methodNamed Bd.named
  have hnm := (name_of_methodNamed Bd.named Bd.method).1
  have hlk := BodyLoose.notSynchronized Bd
  have X0 : Stand p l e ({ frames := 0, cells := 0, slots := 0, locals := 0 } : Room) s m #[(.ref a1), (.ref a2)] below meth c s₁ [] 0 0 := Stand.of_body Bd
  have e0 : s₁.heap = h0 := by rw [← hh, Bd.state]; rfl
  have N := Fr.nil n0
  obtain ⟨G, hG⟩ : ∃ G : State → JFrame → Prop, G = OwnG p e below s ({ frames := 0, cells := 0, slots := 0, locals := 0 } : Room).cells ({ frames := 0, cells := 0, slots := 0, locals := 0 } : Room).slots (Q_rmRN Z a1 a2 h0 n0) := ⟨_, rfl⟩
  have gb : ∀ {T T' : State} {g g' : JFrame}, (∀ t, Steps p.tables e below (T'.setTop g') t → Steps p.tables e below (T.setTop g) t) → G T' g' → G T g := by subst hG; exact fun k h => own_by k h
  have go : ∀ {T : State} {locs : List Loc} {cells slots : Nat} {g : JFrame} {v : Option Value}, Stand p l e ({ frames := 0, cells := 0, slots := 0, locals := 0 } : Room) s m #[(.ref a1), (.ref a2)] below meth c T locs cells slots → (meth.sig.returnType = none → v = none) → (∀ fs, (∀ (f : JFrame) (acts : List Action), f.method = m → f.locked = none → f.entered = [] → (doReturn e (T.setTop f) acts v).1 = T.setFrames fs) → Steps p.tables e below (T.setTop g) (T.setFrames fs)) → (Q_rmRN Z a1 a2 h0 n0) v T.heap locs → cells ≤ ({ frames := 0, cells := 0, slots := 0, locals := 0 } : Room).cells → slots ≤ ({ frames := 0, cells := 0, slots := 0, locals := 0 } : Room).slots → G T g := by subst hG; exact fun X h1 h2 h3 h4 h5 => own_out X hlk h1 h2 h3 h4 h5
  show OwnG p e below s ({ frames := 0, cells := 0, slots := 0, locals := 0 } : Room).cells ({ frames := 0, cells := 0, slots := 0, locals := 0 } : Room).slots (Q_rmRN Z a1 a2 h0 n0) s₁ (entryFrame m #[(.ref a1), (.ref a2)] 2)
  rw [← hG, ef_rmRN m a1 a2]
  clear hG
  show G s₁ (mkF m 0 #[.val (.ref a1), .val (.ref a2)] [])
  refine gb (fun _ k => XS.aloadN X0.here hx rfl (hb hby d9_0) rfl rfl (XS.ifnonnullYes X0.here hx rfl (pc0 := 1) (pc' := 13) rfl (hb hby d9_1) rfl (by decide) (by decide) (XS.aloadN X0.here hx rfl (hb hby d9_13) rfl rfl k))) ?_
  show G s₁ (mkF m 14 #[rv a1, rv a2] [.ref a1])
  exact go X0 (v := (some (.ref a1))) (fun h => by rw [Bd.returns] at h; cases h) (fun fs hr => retOut X0 hx Bd.returns rfl (Or.inr (Or.inr (Or.inr (Or.inr ⟨rfl, rfl, rfl⟩)))) (hb hby d9_14) hr) (⟨rfl, rfl, e0⟩) (by decide) (by decide)
def Q_rmI (Z : State) (o1 x1 x2 x3 x4 y1 y2 y3 y4 : Addr) (k1 k2 k3 k4 : ClassId) (z1 z2 z3 z4 d1 : Int32) (xs1 xs2 xs3 xs4 : List Int32) (h0 : Heap) (n0 : Nat) (zc : Int32) : Option Value → Heap → List Loc → Prop := fun v h L => v = none ∧ Fr n0 L ∧ Keep h0 h [o1] ∧ Exa Z h o1 "com/example/wrought_gate/wroughtgate/engine/SchemaLocation" ∧ Fld Z h o1 "com/example/wrought_gate/wroughtgate/engine/SchemaLocation" "pointer" "Ljava/lang/String;" (.ref x1) ∧ Fld Z h o1 "com/example/wrought_gate/wroughtgate/engine/SchemaLocation" "partLength" "I" (.int z2) ∧ Fld Z h o1 "com/example/wrought_gate/wroughtgate/engine/SchemaLocation" "resource" "Ljava/lang/String;" (.ref x3) ∧ Fld Z h o1 "com/example/wrought_gate/wroughtgate/engine/SchemaLocation" "resourceLength" "I" (.int z4) ∧ Fld Z h o1 "com/example/wrought_gate/wroughtgate/engine/SchemaLocation" "identified" "Z" (.int d1)
set_option maxRecDepth 65536 in
set_option maxHeartbeats 40000000 in
theorem rmI (l : Launch) (Z : State) (a0 : Array Value) (hw : ∀ d ∈ tables_1, d.before a0 Z = true) (ws : List Jvm.Cond) (o1 x1 x2 x3 x4 y1 y2 y3 y4 : Addr) (k1 k2 k3 k4 : ClassId) (z1 z2 z3 z4 d1 : Int32) (xs1 xs2 xs3 xs4 : List Int32) (h0 : Heap) (n0 : Nat) (O : Old Z n0 h0) (zc : Int32) (S_cs : Sta Z Z.heap "java/lang/String" "COMPACT_STRINGS" "Z" (.int zc)) (hzc : ¬ zc = (0 : Int32)) (hEL : EW Z a0 [("com/example/wrought_gate/wroughtgate/engine/SchemaLocationEqualsPinLaw", 7)]) (hd : d1 = 0 ∨ d1 = 1) (E_x1 : Exa Z h0 x1 "java/lang/String") (F_coder_x1 : Fld Z h0 x1 "java/lang/String" "coder" "B" (.int (0 : Int32))) (F_value_x1 : Fld Z h0 x1 "java/lang/String" "value" "[B" (.ref y1)) (V_y1 : Arv Z h0 y1 k1 .byte z1 (xs1.map Value.int) (.int (0 : Int32))) (hz_x1 : z1.toNatClampNeg = xs1.length) (E_x2 : Exa Z h0 x2 "java/lang/String") (F_coder_x2 : Fld Z h0 x2 "java/lang/String" "coder" "B" (.int (0 : Int32))) (F_value_x2 : Fld Z h0 x2 "java/lang/String" "value" "[B" (.ref y2)) (V_y2 : Arv Z h0 y2 k2 .byte z2 (xs2.map Value.int) (.int (0 : Int32))) (hz_x2 : z2.toNatClampNeg = xs2.length) (E_x3 : Exa Z h0 x3 "java/lang/String") (F_coder_x3 : Fld Z h0 x3 "java/lang/String" "coder" "B" (.int (0 : Int32))) (F_value_x3 : Fld Z h0 x3 "java/lang/String" "value" "[B" (.ref y3)) (V_y3 : Arv Z h0 y3 k3 .byte z3 (xs3.map Value.int) (.int (0 : Int32))) (hz_x3 : z3.toNatClampNeg = xs3.length) (E_x4 : Exa Z h0 x4 "java/lang/String") (F_coder_x4 : Fld Z h0 x4 "java/lang/String" "coder" "B" (.int (0 : Int32))) (F_value_x4 : Fld Z h0 x4 "java/lang/String" "value" "[B" (.ref y4)) (V_y4 : Arv Z h0 y4 k4 .byte z4 (xs4.map Value.int) (.int (0 : Int32))) (hz_x4 : z4.toNatClampNeg = xs4.length) (h7_2 : ¬ (7 : Int32) < z2) (hle_2 : xs2.length ≤ xs1.length) (hpre_2 : ∀ j, j < xs2.length → xs1.getD j 0 = xs2.getD j 0) (h7_4 : ¬ (7 : Int32) < z4) (hle_4 : xs4.length ≤ xs1.length) (hpre_4 : ∀ j, j < xs4.length → xs1.getD j 0 = xs4.getD j 0) (E_o1 : Exa Z h0 o1 "com/example/wrought_gate/wroughtgate/engine/SchemaLocation") (F_pointer : Fld Z h0 o1 "com/example/wrought_gate/wroughtgate/engine/SchemaLocation" "pointer" "Ljava/lang/String;" .null) (F_partLength : Fld Z h0 o1 "com/example/wrought_gate/wroughtgate/engine/SchemaLocation" "partLength" "I" (.int (0 : Int32))) (F_resource : Fld Z h0 o1 "com/example/wrought_gate/wroughtgate/engine/SchemaLocation" "resource" "Ljava/lang/String;" .null) (F_resourceLength : Fld Z h0 o1 "com/example/wrought_gate/wroughtgate/engine/SchemaLocation" "resourceLength" "I" (.int (0 : Int32))) (F_identified : Fld Z h0 o1 "com/example/wrought_gate/wroughtgate/engine/SchemaLocation" "identified" "Z" (.int (0 : Int32))) (g_o1 : n0 ≤ o1) :
    MetFree l (⟨"com/example/wrought_gate/wroughtgate/engine/SchemaLocation", "<init>", "(Ljava/lang/String;Ljava/lang/String;Ljava/lang/String;Ljava/lang/String;Z)V"⟩ : MethodName) (head1 (Jvm.Cond.code (⟨"com/example/wrought_gate/wroughtgate/engine/SchemaLocation", "<init>", "(Ljava/lang/String;Ljava/lang/String;Ljava/lang/String;Ljava/lang/String;Z)V"⟩ : MethodName) prog_19_method_1_code 6 none :: ws) ({ frames := 4, cells := 2, slots := 36, locals := 59 } : Room)) (fun a U => a = #[(.ref o1), (.ref x1), (.ref x2), (.ref x3), (.ref x4), (.int d1)] ∧ Z.Warmed39 U.vm ∧ U.heap = h0 ∧ CHv Z [("com/example/wrought_gate/wroughtgate/engine/SchemaLocationEqualsPinLaw", 7)] U.vm h0) (fun _ _ _ _ _ => True) (fun _ U o U' => ∃ v L, o = .returned v ∧ (Q_rmI Z o1 x1 x2 x3 x4 y1 y2 y3 y4 k1 k2 k3 k4 z1 z2 z3 z4 d1 xs1 xs2 xs3 xs4 h0 n0 zc) v U'.heap L ∧ CHr Z [("com/example/wrought_gate/wroughtgate/engine/SchemaLocationEqualsPinLaw", 7)] U.vm U.heap U'.vm U'.heap ∧ ReturnedEndW U o U' L ({ frames := 4, cells := 2, slots := 36, locals := 59 } : Room).cells ({ frames := 4, cells := 2, slots := 36, locals := 59 } : Room).slots) := by
  refine MetFree.of_bodySF (plainFor_of_name pn_6) hisR ?_
  intro p e s m args below meth c s₁ Bd hml0 hP hK
  obtain ⟨rfl, hZ, hh, hHC⟩ := hP
  have hx := Bd.exec
  have hby := Bd.bytes
  have hml : c.maxLocals = 6 := hml0
  have hown : s.vm.findClass "com/example/wrought_gate/wroughtgate/engine/SchemaLocation" = some m.cls := findClass_of_methodNamed Bd.named
  have hnm := (name_of_methodNamed Bd.named Bd.method).1
  have hlk := BodyLoose.notSynchronized Bd
  have X0 : Stand p l e ({ frames := 4, cells := 2, slots := 36, locals := 59 } : Room) (s.setVm s.vm) m #[(.ref o1), (.ref x1), (.ref x2), (.ref x3), (.ref x4), (.int d1)] below meth c s₁ [] 0 0 := Stand.of_body Bd
  have e0 : s₁.heap = h0 := by rw [← hh, Bd.state]; rfl
  have N := Fr.nil n0
  have hS : s.Since s.vm h0.size := (State.WarmedH.refl s).since _
  have hk := Nat.le_refl h0.size
  have HR : CHr Z [("com/example/wrought_gate/wroughtgate/engine/SchemaLocationEqualsPinLaw", 7)] s.vm h0 s.vm h0 := CHr.refl hHC
  have K := Keep.refl h0 [o1]
  obtain ⟨G, hG⟩ : ∃ G : State → JFrame → Prop, G = OwnGH p e below s Z [("com/example/wrought_gate/wroughtgate/engine/SchemaLocationEqualsPinLaw", 7)] ({ frames := 4, cells := 2, slots := 36, locals := 59 } : Room).cells ({ frames := 4, cells := 2, slots := 36, locals := 59 } : Room).slots (Q_rmI Z o1 x1 x2 x3 x4 y1 y2 y3 y4 k1 k2 k3 k4 z1 z2 z3 z4 d1 xs1 xs2 xs3 xs4 h0 n0 zc) := ⟨_, rfl⟩
  have gb : ∀ {T T' : State} {g g' : JFrame}, (∀ t, Steps p.tables e below (T'.setTop g') t → Steps p.tables e below (T.setTop g) t) → G T' g' → G T g := by subst hG; exact fun k h => own_byH k h
  have go : ∀ {T : State} {locs : List Loc} {cells slots : Nat} {g : JFrame} {v : Option Value} {vm : Vm} {k : Nat}, Stand p l e ({ frames := 4, cells := 2, slots := 36, locals := 59 } : Room) (s.setVm vm) m #[(.ref o1), (.ref x1), (.ref x2), (.ref x3), (.ref x4), (.int d1)] below meth c T locs cells slots → s.Since vm k → k ≤ T.heap.size → CHr Z [("com/example/wrought_gate/wroughtgate/engine/SchemaLocationEqualsPinLaw", 7)] s.vm h0 vm T.heap → Z.Warmed39 vm → (meth.sig.returnType = none → v = none) → (∀ fs, (∀ (f : JFrame) (acts : List Action), f.method = m → f.locked = none → f.entered = [] → (doReturn e (T.setTop f) acts v).1 = T.setFrames fs) → Steps p.tables e below (T.setTop g) (T.setFrames fs)) → (Q_rmI Z o1 x1 x2 x3 x4 y1 y2 y3 y4 k1 k2 k3 k4 z1 z2 z3 z4 d1 xs1 xs2 xs3 xs4 h0 n0 zc) v T.heap locs → cells ≤ ({ frames := 4, cells := 2, slots := 36, locals := 59 } : Room).cells → slots ≤ ({ frames := 4, cells := 2, slots := 36, locals := 59 } : Room).slots → G T g := by subst hG; exact fun X a b c' d h1 h2 h3 h4 h5 => own_outH X hh hEL a b c' d hlk h1 h2 h3 h4 h5
  show OwnGH p e below s Z [("com/example/wrought_gate/wroughtgate/engine/SchemaLocationEqualsPinLaw", 7)] ({ frames := 4, cells := 2, slots := 36, locals := 59 } : Room).cells ({ frames := 4, cells := 2, slots := 36, locals := 59 } : Room).slots (Q_rmI Z o1 x1 x2 x3 x4 y1 y2 y3 y4 k1 k2 k3 k4 z1 z2 z3 z4 d1 xs1 xs2 xs3 xs4 h0 n0 zc) s₁ (entryFrame m #[(.ref o1), (.ref x1), (.ref x2), (.ref x3), (.ref x4), (.int d1)] 6)
  rw [← hG, ef_rmI m o1 x1 x2 x3 x4 d1]
  clear hG
  show G s₁ (mkF m 0 #[.val (.ref o1), .val (.ref x1), .val (.ref x2), .val (.ref x3), .val (.ref x4), .val (.int d1)] [])
  refine gb (fun _ k => XS.aloadN X0.here hx rfl (hb hby d2_0) rfl rfl k) ?_
  show G s₁ (mkF m 1 #[rv o1, rv x1, rv x2, rv x3, rv x4, iv d1] [.ref o1])
  obtain ⟨T1, X1, e1, st1⟩ := initO X0 hx hZ hown (ow hw 18 rfl) (ow hw 19 rfl) (ow hw 20 rfl) e0 (g := (mkF m 1 #[rv o1, rv x1, rv x2, rv x3, rv x4, iv d1] [.ref o1])) rfl (by rw [hml]; rfl) rfl (hb hby d2_1) (by decide) (W := 0) (by show 2 * 0 + _ ≤ _; exact Nat.le_of_eq rfl) (by decide)
  refine gb st1 ?_
  show G T1 (mkF m 4 #[rv o1, rv x1, rv x2, rv x3, rv x4, iv d1] [])
  refine gb (fun _ k => XS.aloadN X1.here hx rfl (hb hby d2_4) rfl rfl (XS.aloadN X1.here hx rfl (hb hby d2_5) rfl rfl k)) ?_
  show G T1 (mkF m 6 #[rv o1, rv x1, rv x2, rv x3, rv x4, iv d1] [.ref x2, .ref x1])
  obtain ⟨cq2, kq2, q2a, q2b, q2c⟩ := isOf hZ e1 E_x1
  obtain ⟨_, _, ⟨T2, Lz2, kz2, nz2⟩, -, X2, ⟨Lc2, hQ2, lq2, yq2, zq2⟩, st2⟩ := X1.virtualBack hx (y := (⟨"java/lang/String", "startsWith", "(Ljava/lang/String;)Z"⟩ : MethodName)) (z := (⟨"java/lang/String", "startsWith", "(Ljava/lang/String;)Z"⟩ : MethodName)) hown (mvT hZ (ow hw 21 rfl)) (mvT hZ (ow hw 22 rfl)) (notFace_of_selects (args := #[]) (mvT hZ (ow hw 24 rfl))) (mvT hZ (ow hw 24 rfl)) (mvT hZ (ow hw 23 rfl)) (by decide) (backOf (W := 0) (rmSw l Z a0 hw [] x1 x2 y1 y2 k1 k2 z1 z2 xs1 xs2 h0 n0 O E_x1 E_x2 F_coder_x1 F_value_x1 F_coder_x2 F_value_x2 V_y1 V_y2 hz_x1 hz_x2 h7_2 hle_2 hpre_2 zc S_cs hzc) hZ (ow hw 25 rfl) (ow hw 8 rfl) (by decide) (by decide)) q2a q2c (g := (mkF m 6 #[rv o1, rv x1, rv x2, rv x3, rv x4, iv d1] [.ref x2, .ref x1])) rfl (by rw [hml]; rfl) (Steps.refl _) (argsL := [(.ref x2)]) (rest := []) (lenOf pd_10 rfl) rfl (by show 2 * 0 + _ ≤ _; exact Nat.le_of_eq rfl) (hb hby d2_6) (fun _ _ => ⟨rfl, e1, (by decide : 0 + 0 ≤ _), (by decide : 0 + 0 ≤ _)⟩)
  dsimp only [Pt.U, Pt.locs, Pt.cells, Pt.slots] at X2 lq2 yq2 zq2 st2 hQ2
  subst lq2 yq2 zq2
  obtain ⟨rfl, rfl, e2⟩ := hQ2
  try rw [List.append_nil] at X2
  refine gb (fun _ k => st2.trans k) ?_
  show G T2 (mkF m 9 #[rv o1, rv x1, rv x2, rv x3, rv x4, iv d1] [.int 1])
  refine gb (fun _ k => XS.ifNo X2.here hx rfl (hb hby d2_9) rfl ((if0 _ _).trans (feq (by decide : ¬ ((1 : Int32) = (0 : Int32)))).1) (XS.aloadN X2.here hx rfl (hb hby d2_12) rfl rfl (XS.aload X2.here hx rfl (hb hby d2_13) rfl rfl k))) ?_
  show G T2 (mkF m 15 #[rv o1, rv x1, rv x2, rv x3, rv x4, iv d1] [.ref x4, .ref x1])
  obtain ⟨cq3, kq3, q3a, q3b, q3c⟩ := isOf hZ e2 E_x1
  obtain ⟨_, _, ⟨T3, Lz3, kz3, nz3⟩, -, X3, ⟨Lc3, hQ3, lq3, yq3, zq3⟩, st3⟩ := X2.virtualBack hx (y := (⟨"java/lang/String", "startsWith", "(Ljava/lang/String;)Z"⟩ : MethodName)) (z := (⟨"java/lang/String", "startsWith", "(Ljava/lang/String;)Z"⟩ : MethodName)) hown (mvT hZ (ow hw 21 rfl)) (mvT hZ (ow hw 22 rfl)) (notFace_of_selects (args := #[]) (mvT hZ (ow hw 24 rfl))) (mvT hZ (ow hw 24 rfl)) (mvT hZ (ow hw 23 rfl)) (by decide) (backOf (W := 0) (rmSw l Z a0 hw [] x1 x4 y1 y4 k1 k4 z1 z4 xs1 xs4 h0 n0 O E_x1 E_x4 F_coder_x1 F_value_x1 F_coder_x4 F_value_x4 V_y1 V_y4 hz_x1 hz_x4 h7_4 hle_4 hpre_4 zc S_cs hzc) hZ (ow hw 25 rfl) (ow hw 8 rfl) (by decide) (by decide)) q3a q3c (g := (mkF m 15 #[rv o1, rv x1, rv x2, rv x3, rv x4, iv d1] [.ref x4, .ref x1])) rfl (by rw [hml]; rfl) (Steps.refl _) (argsL := [(.ref x4)]) (rest := []) (lenOf pd_10 rfl) rfl (by show 2 * 0 + _ ≤ _; exact Nat.le_of_eq rfl) (hb hby d2_15) (fun _ _ => ⟨rfl, e2, (by decide : 0 + 0 ≤ _), (by decide : 0 + 0 ≤ _)⟩)
  dsimp only [Pt.U, Pt.locs, Pt.cells, Pt.slots] at X3 lq3 yq3 zq3 st3 hQ3
  subst lq3 yq3 zq3
  obtain ⟨rfl, rfl, e3⟩ := hQ3
  try rw [List.append_nil] at X3
  refine gb (fun _ k => st3.trans k) ?_
  show G T3 (mkF m 18 #[rv o1, rv x1, rv x2, rv x3, rv x4, iv d1] [.int 1])
  refine gb (fun _ k => XS.ifYes X3.here hx rfl (pc0 := 18) (pc' := 38) rfl (hb hby d2_18) rfl ((if0 _ _).trans (feq (by decide : ¬ ((1 : Int32) = (0 : Int32)))).2) (by decide) (by decide) (XS.aloadN X3.here hx rfl (hb hby d2_38) rfl rfl (XS.aloadN X3.here hx rfl (hb hby d2_39) rfl rfl k))) ?_
  show G T3 (mkF m 40 #[rv o1, rv x1, rv x2, rv x3, rv x4, iv d1] [.ref x1, .ref o1])
  have Sw4 : Safe Z [("com/example/wrought_gate/wroughtgate/engine/SchemaLocationEqualsPinLaw", 7)] _ _ o1 := (Safe.exa hZ.alike E_o1 (by decide) (by decide))
  obtain ⟨T4, h4, X4, e4, W4, st4⟩ := putF X3 hx hZ hown (host := "") (Or.inl (ow hw 48 rfl)) Via.refl e3 F_pointer E_o1 (Or.inr ⟨(ow hw 49 rfl), rfl, hnm⟩) (ow hw 1 rfl) (ty := (.object "java/lang/String")) (by decide) rfl rfl (g := (mkF m 40 #[rv o1, rv x1, rv x2, rv x3, rv x4, iv d1] [.ref x1, .ref o1])) rfl rfl (hb hby d2_40)
  refine gb st4 ?_
  have F_pointer := F_pointer.same W4
  have ne_x1_o1 : x1 ≠ o1 := (own_neEE E_x1 E_o1 (by decide))
  have ne_y1_o1 : y1 ≠ o1 := (own_neEV E_o1 V_y1 (ow hw 1 rfl))
  have ne_x2_o1 : x2 ≠ o1 := (own_neEE E_x2 E_o1 (by decide))
  have ne_y2_o1 : y2 ≠ o1 := (own_neEV E_o1 V_y2 (ow hw 1 rfl))
  have ne_x3_o1 : x3 ≠ o1 := (own_neEE E_x3 E_o1 (by decide))
  have ne_y3_o1 : y3 ≠ o1 := (own_neEV E_o1 V_y3 (ow hw 1 rfl))
  have ne_x4_o1 : x4 ≠ o1 := (own_neEE E_x4 E_o1 (by decide))
  have ne_y4_o1 : y4 ≠ o1 := (own_neEV E_o1 V_y4 (ow hw 1 rfl))
  have HR := HR.trans (CHr.wr W4 Sw4 HR.1)
  have E_o1 := E_o1.wr W4
  have F_partLength := F_partLength.other W4 (Or.inr (slot_ne (Or.inr (ow hw 52 rfl)) (Or.inr (ow hw 49 rfl)) (by decide) (t := .int) (t' := (.object "java/lang/String")) (by decide) (by decide)))
  have F_resource := F_resource.other W4 (Or.inr (slot_ne (Or.inr (ow hw 61 rfl)) (Or.inr (ow hw 49 rfl)) (by decide) (t := (.object "java/lang/String")) (t' := (.object "java/lang/String")) (by decide) (by decide)))
  have F_resourceLength := F_resourceLength.other W4 (Or.inr (slot_ne (Or.inr (ow hw 63 rfl)) (Or.inr (ow hw 49 rfl)) (by decide) (t := .int) (t' := (.object "java/lang/String")) (by decide) (by decide)))
  have F_identified := F_identified.other W4 (Or.inr (slot_ne (Or.inr (ow hw 65 rfl)) (Or.inr (ow hw 49 rfl)) (by decide) (t := .boolean) (t' := (.object "java/lang/String")) (by decide) (by decide)))
  have E_x1 := E_x1.wr W4
  have F_coder_x1 := F_coder_x1.other W4 (Or.inl ne_x1_o1)
  have F_value_x1 := F_value_x1.other W4 (Or.inl ne_x1_o1)
  have V_y1 := V_y1.other W4 ne_y1_o1
  have E_x2 := E_x2.wr W4
  have F_coder_x2 := F_coder_x2.other W4 (Or.inl ne_x2_o1)
  have F_value_x2 := F_value_x2.other W4 (Or.inl ne_x2_o1)
  have V_y2 := V_y2.other W4 ne_y2_o1
  have E_x3 := E_x3.wr W4
  have F_coder_x3 := F_coder_x3.other W4 (Or.inl ne_x3_o1)
  have F_value_x3 := F_value_x3.other W4 (Or.inl ne_x3_o1)
  have V_y3 := V_y3.other W4 ne_y3_o1
  have E_x4 := E_x4.wr W4
  have F_coder_x4 := F_coder_x4.other W4 (Or.inl ne_x4_o1)
  have F_value_x4 := F_value_x4.other W4 (Or.inl ne_x4_o1)
  have V_y4 := V_y4.other W4 ne_y4_o1
  have O := O.wr W4 g_o1
  have hk := Nat.le_trans hk (Keep.of_wr W4).1
  have K := K.wr W4 (Or.inl (List.mem_of_getElem? (i := 0) rfl))
  have N := Fr.snoc X4 N g_o1
  show G T4 (mkF m 43 #[rv o1, rv x1, rv x2, rv x3, rv x4, iv d1] [])
  refine gb (fun _ k => XS.aloadN X4.here hx rfl (hb hby d2_43) rfl rfl (XS.aloadN X4.here hx rfl (hb hby d2_44) rfl rfl k)) ?_
  show G T4 (mkF m 45 #[rv o1, rv x1, rv x2, rv x3, rv x4, iv d1] [.ref x2, .ref o1])
  obtain ⟨cq5, kq5, q5a, q5b, q5c⟩ := isOf hZ e4 E_x2
  obtain ⟨_, _, ⟨T5, Lz5, kz5, nz5⟩, -, X5, ⟨Lc5, hQ5, lq5, yq5, zq5⟩, st5⟩ := X4.virtualBack hx (y := (⟨"java/lang/String", "length", "()I"⟩ : MethodName)) (z := (⟨"java/lang/String", "length", "()I"⟩ : MethodName)) hown (mvT hZ (ow hw 50 rfl)) (mvT hZ (ow hw 32 rfl)) (notFace_of_selects (args := #[]) (mvT hZ (ow hw 34 rfl))) (mvT hZ (ow hw 34 rfl)) (mvT hZ (ow hw 33 rfl)) (by decide) (backOf (W := 1) (rmLn l Z a0 hw [] x2 y2 k2 z2 xs2 h4 n0 O zc S_cs hzc E_x2 F_coder_x2 F_value_x2 V_y2) hZ (ow hw 35 rfl) (ow hw 8 rfl) (by decide) (by decide)) q5a q5c (g := (mkF m 45 #[rv o1, rv x1, rv x2, rv x3, rv x4, iv d1] [.ref x2, .ref o1])) rfl (by rw [hml]; rfl) (Steps.refl _) (argsL := []) (rest := [(.ref o1)]) (lenOf pd_7 rfl) rfl (by show 2 * 0 + _ ≤ _; exact Nat.le_of_eq rfl) (hb hby d2_45) (fun _ _ => ⟨rfl, e4, (by decide : 0 + 0 ≤ _), (by decide : 0 + 0 ≤ _)⟩)
  dsimp only [Pt.U, Pt.locs, Pt.cells, Pt.slots] at X5 lq5 yq5 zq5 st5 hQ5
  subst lq5 yq5 zq5
  obtain ⟨rfl, rfl, e5⟩ := hQ5
  try rw [List.append_nil] at X5
  refine gb (fun _ k => st5.trans k) ?_
  show G T5 (mkF m 48 #[rv o1, rv x1, rv x2, rv x3, rv x4, iv d1] [.int z2, .ref o1])
  have Sw6 : Safe Z [("com/example/wrought_gate/wroughtgate/engine/SchemaLocationEqualsPinLaw", 7)] _ _ o1 := (Safe.exa hZ.alike E_o1 (by decide) (by decide))
  obtain ⟨T6, h6, X6, e6, W6, st6⟩ := putF X5 hx hZ hown (host := "") (Or.inl (ow hw 51 rfl)) Via.refl e5 F_partLength E_o1 (Or.inr ⟨(ow hw 52 rfl), rfl, hnm⟩) (ow hw 1 rfl) (ty := .int) (by decide) rfl rfl (g := (mkF m 48 #[rv o1, rv x1, rv x2, rv x3, rv x4, iv d1] [.int z2, .ref o1])) rfl rfl (hb hby d2_48)
  refine gb st6 ?_
  have F_partLength := F_partLength.same W6
  have HR := HR.trans (CHr.wr W6 Sw6 HR.1)
  have E_o1 := E_o1.wr W6
  have F_resource := F_resource.other W6 (Or.inr (slot_ne (Or.inr (ow hw 61 rfl)) (Or.inr (ow hw 52 rfl)) (by decide) (t := (.object "java/lang/String")) (t' := .int) (by decide) (by decide)))
  have F_resourceLength := F_resourceLength.other W6 (Or.inr (slot_ne (Or.inr (ow hw 63 rfl)) (Or.inr (ow hw 52 rfl)) (by decide) (t := .int) (t' := .int) (by decide) (by decide)))
  have F_identified := F_identified.other W6 (Or.inr (slot_ne (Or.inr (ow hw 65 rfl)) (Or.inr (ow hw 52 rfl)) (by decide) (t := .boolean) (t' := .int) (by decide) (by decide)))
  have E_x1 := E_x1.wr W6
  have F_coder_x1 := F_coder_x1.other W6 (Or.inl ne_x1_o1)
  have F_value_x1 := F_value_x1.other W6 (Or.inl ne_x1_o1)
  have V_y1 := V_y1.other W6 ne_y1_o1
  have E_x2 := E_x2.wr W6
  have F_coder_x2 := F_coder_x2.other W6 (Or.inl ne_x2_o1)
  have F_value_x2 := F_value_x2.other W6 (Or.inl ne_x2_o1)
  have V_y2 := V_y2.other W6 ne_y2_o1
  have E_x3 := E_x3.wr W6
  have F_coder_x3 := F_coder_x3.other W6 (Or.inl ne_x3_o1)
  have F_value_x3 := F_value_x3.other W6 (Or.inl ne_x3_o1)
  have V_y3 := V_y3.other W6 ne_y3_o1
  have E_x4 := E_x4.wr W6
  have F_coder_x4 := F_coder_x4.other W6 (Or.inl ne_x4_o1)
  have F_value_x4 := F_value_x4.other W6 (Or.inl ne_x4_o1)
  have V_y4 := V_y4.other W6 ne_y4_o1
  have F_pointer := F_pointer.other W6 (Or.inr (slot_ne (Or.inr (ow hw 49 rfl)) (Or.inr (ow hw 52 rfl)) (by decide) (t := (.object "java/lang/String")) (t' := .int) (by decide) (by decide)))
  have O := O.wr W6 g_o1
  have hk := Nat.le_trans hk (Keep.of_wr W6).1
  have K := K.wr W6 (Or.inl (List.mem_of_getElem? (i := 0) rfl))
  have N := Fr.snoc X6 N g_o1
  show G T6 (mkF m 51 #[rv o1, rv x1, rv x2, rv x3, rv x4, iv d1] [])
  refine gb (fun _ k => XS.aloadN X6.here hx rfl (hb hby d2_51) rfl rfl (XS.aloadN X6.here hx rfl (hb hby d2_52) rfl rfl k)) ?_
  show G T6 (mkF m 53 #[rv o1, rv x1, rv x2, rv x3, rv x4, iv d1] [.ref x3, .ref o1])
  have lt_o1 := E_o1.lt
  have lt_x1 := E_x1.lt
  have lt_y1 := V_y1.lt
  have lt_x2 := E_x2.lt
  have lt_y2 := V_y2.lt
  have lt_x3 := E_x3.lt
  have lt_y3 := V_y3.lt
  have lt_x4 := E_x4.lt
  have lt_y4 := V_y4.lt
  obtain ⟨b7, T7, h7, kn7, X7, e7, E7, hS, hk7, hZ, hown, hC7, -, st7⟩ := ldcOH X6 hx hZ hown (ow hw 53 rfl) (own_wS hw) e6 hS hk hEL HR.1 (g := (mkF m 53 #[rv o1, rv x1, rv x2, rv x3, rv x4, iv d1] [.ref x3, .ref o1])) rfl (hb hby d2_53) (n := 32) (by decide) (by decide) (by decide) (by decide)
  have HR := HR.trans hC7
  have E_o1 := E_o1.ext E7
  have F_resource := F_resource.ext E7
  have F_resourceLength := F_resourceLength.ext E7
  have F_identified := F_identified.ext E7
  have E_x1 := E_x1.ext E7
  have F_coder_x1 := F_coder_x1.ext E7
  have F_value_x1 := F_value_x1.ext E7
  have V_y1 := V_y1.ext E7
  have E_x2 := E_x2.ext E7
  have F_coder_x2 := F_coder_x2.ext E7
  have F_value_x2 := F_value_x2.ext E7
  have V_y2 := V_y2.ext E7
  have E_x3 := E_x3.ext E7
  have F_coder_x3 := F_coder_x3.ext E7
  have F_value_x3 := F_value_x3.ext E7
  have V_y3 := V_y3.ext E7
  have E_x4 := E_x4.ext E7
  have F_coder_x4 := F_coder_x4.ext E7
  have F_value_x4 := F_value_x4.ext E7
  have V_y4 := V_y4.ext E7
  have F_pointer := F_pointer.ext E7
  have F_partLength := F_partLength.ext E7
  have O := O.ext E7
  have hk := Nat.le_trans hk E7.1
  have K := K.ext E7
  have hk := hk7
  refine gb st7 ?_
  show G T7 (mkF m 55 #[rv o1, rv x1, rv x2, rv x3, rv x4, iv d1] [.ref b7, .ref x3, .ref o1])
  obtain ⟨_, _, ⟨T8, Lz8, kz8, nz8⟩, -, X8, ⟨Lc8, hQ8, lq8, yq8, zq8⟩, st8⟩ := Jvm.LawKit.callS X7 hx (y := (⟨"java/util/Objects", "requireNonNull", "(Ljava/lang/Object;Ljava/lang/String;)Ljava/lang/Object;"⟩ : MethodName)) hown (mvT hZ (ow hw 54 rfl)) (mvT hZ (ow hw 55 rfl)) (mvT hZ (ow hw 56 rfl)) (mvT hZ (ow hw 57 rfl)) (by decide) (backOf (W := 1) (rmRN l Z a0 hw [] x3 b7 h7 n0 O) hZ (ow hw 57 rfl) (ow hw 56 rfl) (by decide) (by decide)) (g := (mkF m 55 #[rv o1, rv x1, rv x2, rv x3, rv x4, iv d1] [.ref b7, .ref x3, .ref o1])) rfl (by rw [hml]; rfl) (argsL := [(.ref x3), (.ref b7)]) (rest := [(.ref o1)]) (lenOf pd_11 rfl) rfl (by show 2 * 0 + _ ≤ _; exact Nat.le_of_eq rfl) (hb hby d2_55) (fun _ _ => ⟨rfl, e7, (by decide : 2 + 0 ≤ _), (by decide : 36 + 0 ≤ _)⟩)
  dsimp only [Pt.U, Pt.locs, Pt.cells, Pt.slots] at X8 lq8 yq8 zq8 st8 hQ8
  subst lq8 yq8 zq8
  obtain ⟨rfl, rfl, e8⟩ := hQ8
  try rw [List.append_nil] at X8
  refine gb st8 ?_
  show G T8 (mkF m 58 #[rv o1, rv x1, rv x2, rv x3, rv x4, iv d1] [.ref x3, .ref o1])
  obtain ⟨T9, X9, e9, st9⟩ := castY X8 hx hZ hown (ow hw 58 rfl) e8 (Ins.self E_x3) (g := (mkF m 58 #[rv o1, rv x1, rv x2, rv x3, rv x4, iv d1] [.ref x3, .ref o1])) rfl rfl (hb hby d2_58)
  refine gb st9 ?_
  show G T9 (mkF m 61 #[rv o1, rv x1, rv x2, rv x3, rv x4, iv d1] [.ref x3, .ref o1])
  have Sw10 : Safe Z [("com/example/wrought_gate/wroughtgate/engine/SchemaLocationEqualsPinLaw", 7)] _ _ o1 := (Safe.exa hZ.alike E_o1 (by decide) (by decide))
  obtain ⟨T10, h10, X10, e10, W10, st10⟩ := putF X9 hx hZ hown (host := "") (Or.inl (ow hw 60 rfl)) Via.refl e9 F_resource E_o1 (Or.inr ⟨(ow hw 61 rfl), rfl, hnm⟩) (ow hw 1 rfl) (ty := (.object "java/lang/String")) (by decide) rfl rfl (g := (mkF m 61 #[rv o1, rv x1, rv x2, rv x3, rv x4, iv d1] [.ref x3, .ref o1])) rfl rfl (hb hby d2_61)
  refine gb st10 ?_
  have F_resource := F_resource.same W10
  have HR := HR.trans (CHr.wr W10 Sw10 HR.1)
  have E_o1 := E_o1.wr W10
  have F_resourceLength := F_resourceLength.other W10 (Or.inr (slot_ne (Or.inr (ow hw 63 rfl)) (Or.inr (ow hw 61 rfl)) (by decide) (t := .int) (t' := (.object "java/lang/String")) (by decide) (by decide)))
  have F_identified := F_identified.other W10 (Or.inr (slot_ne (Or.inr (ow hw 65 rfl)) (Or.inr (ow hw 61 rfl)) (by decide) (t := .boolean) (t' := (.object "java/lang/String")) (by decide) (by decide)))
  have E_x1 := E_x1.wr W10
  have F_coder_x1 := F_coder_x1.other W10 (Or.inl ne_x1_o1)
  have F_value_x1 := F_value_x1.other W10 (Or.inl ne_x1_o1)
  have V_y1 := V_y1.other W10 ne_y1_o1
  have E_x2 := E_x2.wr W10
  have F_coder_x2 := F_coder_x2.other W10 (Or.inl ne_x2_o1)
  have F_value_x2 := F_value_x2.other W10 (Or.inl ne_x2_o1)
  have V_y2 := V_y2.other W10 ne_y2_o1
  have E_x3 := E_x3.wr W10
  have F_coder_x3 := F_coder_x3.other W10 (Or.inl ne_x3_o1)
  have F_value_x3 := F_value_x3.other W10 (Or.inl ne_x3_o1)
  have V_y3 := V_y3.other W10 ne_y3_o1
  have E_x4 := E_x4.wr W10
  have F_coder_x4 := F_coder_x4.other W10 (Or.inl ne_x4_o1)
  have F_value_x4 := F_value_x4.other W10 (Or.inl ne_x4_o1)
  have V_y4 := V_y4.other W10 ne_y4_o1
  have F_pointer := F_pointer.other W10 (Or.inr (slot_ne (Or.inr (ow hw 49 rfl)) (Or.inr (ow hw 61 rfl)) (by decide) (t := (.object "java/lang/String")) (t' := (.object "java/lang/String")) (by decide) (by decide)))
  have F_partLength := F_partLength.other W10 (Or.inr (slot_ne (Or.inr (ow hw 52 rfl)) (Or.inr (ow hw 61 rfl)) (by decide) (t := .int) (t' := (.object "java/lang/String")) (by decide) (by decide)))
  have O := O.wr W10 g_o1
  have hk := Nat.le_trans hk (Keep.of_wr W10).1
  have K := K.wr W10 (Or.inl (List.mem_of_getElem? (i := 0) rfl))
  have N := Fr.snoc X10 N g_o1
  show G T10 (mkF m 64 #[rv o1, rv x1, rv x2, rv x3, rv x4, iv d1] [])
  refine gb (fun _ k => XS.aloadN X10.here hx rfl (hb hby d2_64) rfl rfl (XS.aload X10.here hx rfl (hb hby d2_65) rfl rfl k)) ?_
  show G T10 (mkF m 67 #[rv o1, rv x1, rv x2, rv x3, rv x4, iv d1] [.ref x4, .ref o1])
  obtain ⟨cq11, kq11, q11a, q11b, q11c⟩ := isOf hZ e10 E_x4
  obtain ⟨_, _, ⟨T11, Lz11, kz11, nz11⟩, -, X11, ⟨Lc11, hQ11, lq11, yq11, zq11⟩, st11⟩ := X10.virtualBack hx (y := (⟨"java/lang/String", "length", "()I"⟩ : MethodName)) (z := (⟨"java/lang/String", "length", "()I"⟩ : MethodName)) hown (mvT hZ (ow hw 50 rfl)) (mvT hZ (ow hw 32 rfl)) (notFace_of_selects (args := #[]) (mvT hZ (ow hw 34 rfl))) (mvT hZ (ow hw 34 rfl)) (mvT hZ (ow hw 33 rfl)) (by decide) (backOf (W := 1) (rmLn l Z a0 hw [] x4 y4 k4 z4 xs4 h10 n0 O zc S_cs hzc E_x4 F_coder_x4 F_value_x4 V_y4) hZ (ow hw 35 rfl) (ow hw 8 rfl) (by decide) (by decide)) q11a q11c (g := (mkF m 67 #[rv o1, rv x1, rv x2, rv x3, rv x4, iv d1] [.ref x4, .ref o1])) rfl (by rw [hml]; rfl) (Steps.refl _) (argsL := []) (rest := [(.ref o1)]) (lenOf pd_7 rfl) rfl (by show 2 * 0 + _ ≤ _; exact Nat.le_of_eq rfl) (hb hby d2_67) (fun _ _ => ⟨rfl, e10, (by decide : 2 + 0 ≤ _), (by decide : 36 + 0 ≤ _)⟩)
  dsimp only [Pt.U, Pt.locs, Pt.cells, Pt.slots] at X11 lq11 yq11 zq11 st11 hQ11
  subst lq11 yq11 zq11
  obtain ⟨rfl, rfl, e11⟩ := hQ11
  try rw [List.append_nil] at X11
  refine gb (fun _ k => st11.trans k) ?_
  show G T11 (mkF m 70 #[rv o1, rv x1, rv x2, rv x3, rv x4, iv d1] [.int z4, .ref o1])
  have Sw12 : Safe Z [("com/example/wrought_gate/wroughtgate/engine/SchemaLocationEqualsPinLaw", 7)] _ _ o1 := (Safe.exa hZ.alike E_o1 (by decide) (by decide))
  obtain ⟨T12, h12, X12, e12, W12, st12⟩ := putF X11 hx hZ hown (host := "") (Or.inl (ow hw 62 rfl)) Via.refl e11 F_resourceLength E_o1 (Or.inr ⟨(ow hw 63 rfl), rfl, hnm⟩) (ow hw 1 rfl) (ty := .int) (by decide) rfl rfl (g := (mkF m 70 #[rv o1, rv x1, rv x2, rv x3, rv x4, iv d1] [.int z4, .ref o1])) rfl rfl (hb hby d2_70)
  refine gb st12 ?_
  have F_resourceLength := F_resourceLength.same W12
  have HR := HR.trans (CHr.wr W12 Sw12 HR.1)
  have E_o1 := E_o1.wr W12
  have F_identified := F_identified.other W12 (Or.inr (slot_ne (Or.inr (ow hw 65 rfl)) (Or.inr (ow hw 63 rfl)) (by decide) (t := .boolean) (t' := .int) (by decide) (by decide)))
  have E_x1 := E_x1.wr W12
  have F_coder_x1 := F_coder_x1.other W12 (Or.inl ne_x1_o1)
  have F_value_x1 := F_value_x1.other W12 (Or.inl ne_x1_o1)
  have V_y1 := V_y1.other W12 ne_y1_o1
  have E_x2 := E_x2.wr W12
  have F_coder_x2 := F_coder_x2.other W12 (Or.inl ne_x2_o1)
  have F_value_x2 := F_value_x2.other W12 (Or.inl ne_x2_o1)
  have V_y2 := V_y2.other W12 ne_y2_o1
  have E_x3 := E_x3.wr W12
  have F_coder_x3 := F_coder_x3.other W12 (Or.inl ne_x3_o1)
  have F_value_x3 := F_value_x3.other W12 (Or.inl ne_x3_o1)
  have V_y3 := V_y3.other W12 ne_y3_o1
  have E_x4 := E_x4.wr W12
  have F_coder_x4 := F_coder_x4.other W12 (Or.inl ne_x4_o1)
  have F_value_x4 := F_value_x4.other W12 (Or.inl ne_x4_o1)
  have V_y4 := V_y4.other W12 ne_y4_o1
  have F_pointer := F_pointer.other W12 (Or.inr (slot_ne (Or.inr (ow hw 49 rfl)) (Or.inr (ow hw 63 rfl)) (by decide) (t := (.object "java/lang/String")) (t' := .int) (by decide) (by decide)))
  have F_partLength := F_partLength.other W12 (Or.inr (slot_ne (Or.inr (ow hw 52 rfl)) (Or.inr (ow hw 63 rfl)) (by decide) (t := .int) (t' := .int) (by decide) (by decide)))
  have F_resource := F_resource.other W12 (Or.inr (slot_ne (Or.inr (ow hw 61 rfl)) (Or.inr (ow hw 63 rfl)) (by decide) (t := (.object "java/lang/String")) (t' := .int) (by decide) (by decide)))
  have O := O.wr W12 g_o1
  have hk := Nat.le_trans hk (Keep.of_wr W12).1
  have K := K.wr W12 (Or.inl (List.mem_of_getElem? (i := 0) rfl))
  have N := Fr.snoc X12 N g_o1
  show G T12 (mkF m 73 #[rv o1, rv x1, rv x2, rv x3, rv x4, iv d1] [])
  refine gb (fun _ k => XS.aloadN X12.here hx rfl (hb hby d2_73) rfl rfl (XS.iload X12.here hx rfl (hb hby d2_74) rfl k)) ?_
  show G T12 (mkF m 76 #[rv o1, rv x1, rv x2, rv x3, rv x4, iv d1] [.int d1, .ref o1])
  have Sw13 : Safe Z [("com/example/wrought_gate/wroughtgate/engine/SchemaLocationEqualsPinLaw", 7)] _ _ o1 := (Safe.exa hZ.alike E_o1 (by decide) (by decide))
  obtain ⟨T13, h13, X13, e13, W13, st13⟩ := putFN X12 hx hZ hown (ow hw 64 rfl) Via.refl e12 F_identified E_o1 (Or.inr ⟨(ow hw 65 rfl), rfl, hnm⟩) (ow hw 1 rfl) (ty := .boolean) (v' := (.int d1)) (by decide) (by rcases hd with rfl | rfl <;> rfl) (by rcases hd with rfl | rfl <;> rfl) (g := (mkF m 76 #[rv o1, rv x1, rv x2, rv x3, rv x4, iv d1] [.int d1, .ref o1])) rfl rfl (hb hby d2_76)
  refine gb st13 ?_
  have F_identified := F_identified.same W13
  have HR := HR.trans (CHr.wr W13 Sw13 HR.1)
  have E_o1 := E_o1.wr W13
  have E_x1 := E_x1.wr W13
  have F_coder_x1 := F_coder_x1.other W13 (Or.inl ne_x1_o1)
  have F_value_x1 := F_value_x1.other W13 (Or.inl ne_x1_o1)
  have V_y1 := V_y1.other W13 ne_y1_o1
  have E_x2 := E_x2.wr W13
  have F_coder_x2 := F_coder_x2.other W13 (Or.inl ne_x2_o1)
  have F_value_x2 := F_value_x2.other W13 (Or.inl ne_x2_o1)
  have V_y2 := V_y2.other W13 ne_y2_o1
  have E_x3 := E_x3.wr W13
  have F_coder_x3 := F_coder_x3.other W13 (Or.inl ne_x3_o1)
  have F_value_x3 := F_value_x3.other W13 (Or.inl ne_x3_o1)
  have V_y3 := V_y3.other W13 ne_y3_o1
  have E_x4 := E_x4.wr W13
  have F_coder_x4 := F_coder_x4.other W13 (Or.inl ne_x4_o1)
  have F_value_x4 := F_value_x4.other W13 (Or.inl ne_x4_o1)
  have V_y4 := V_y4.other W13 ne_y4_o1
  have F_pointer := F_pointer.other W13 (Or.inr (slot_ne (Or.inr (ow hw 49 rfl)) (Or.inr (ow hw 65 rfl)) (by decide) (t := (.object "java/lang/String")) (t' := .boolean) (by decide) (by decide)))
  have F_partLength := F_partLength.other W13 (Or.inr (slot_ne (Or.inr (ow hw 52 rfl)) (Or.inr (ow hw 65 rfl)) (by decide) (t := .int) (t' := .boolean) (by decide) (by decide)))
  have F_resource := F_resource.other W13 (Or.inr (slot_ne (Or.inr (ow hw 61 rfl)) (Or.inr (ow hw 65 rfl)) (by decide) (t := (.object "java/lang/String")) (t' := .boolean) (by decide) (by decide)))
  have F_resourceLength := F_resourceLength.other W13 (Or.inr (slot_ne (Or.inr (ow hw 63 rfl)) (Or.inr (ow hw 65 rfl)) (by decide) (t := .int) (t' := .boolean) (by decide) (by decide)))
  have O := O.wr W13 g_o1
  have hk := Nat.le_trans hk (Keep.of_wr W13).1
  have K := K.wr W13 (Or.inl (List.mem_of_getElem? (i := 0) rfl))
  have N := Fr.snoc X13 N g_o1
  show G T13 (mkF m 79 #[rv o1, rv x1, rv x2, rv x3, rv x4, iv d1] [])
  exact go X13 hS (Nat.le_trans hk (Nat.le_of_eq (congrArg Array.size e13.symm))) (by rw [e13]; exact HR) hZ (v := none) (fun _ => rfl) (fun fs hr => X13.returnOut hx Bd.returns (hb hby d2_79) hr) (by rw [e13]; exact ⟨rfl, N, K, E_o1, F_pointer, F_partLength, F_resource, F_resourceLength, F_identified⟩) (by decide) (by decide)
def Q_rmQ (Z : State) (o1 o2 x1 x2 x3 x4 y1 y2 y3 y4 : Addr) (k1 k2 k3 k4 : ClassId) (z1 z2 z3 z4 u1 u2 u3 u4 d1 d2 e1 : Int32) (xs1 xs2 xs3 xs4 : List Int32) (h0 : Heap) (n0 : Nat) (zc : Int32) : Option Value → Heap → List Loc → Prop := fun v h L => v = some (.int e1) ∧ L = [] ∧ h = h0
set_option maxRecDepth 65536 in
set_option maxHeartbeats 40000000 in
theorem rmQ (l : Launch) (Z : State) (a0 : Array Value) (hw : ∀ d ∈ tables_1, d.before a0 Z = true) (ws : List Jvm.Cond) (o1 o2 x1 x2 x3 x4 y1 y2 y3 y4 : Addr) (k1 k2 k3 k4 : ClassId) (z1 z2 z3 z4 u1 u2 u3 u4 d1 d2 e1 : Int32) (xs1 xs2 xs3 xs4 : List Int32) (h0 : Heap) (n0 : Nat) (O : Old Z n0 h0) (zc : Int32) (S_cs : Sta Z Z.heap "java/lang/String" "COMPACT_STRINGS" "Z" (.int zc)) (hzc : ¬ zc = (0 : Int32)) (E_x1 : Exa Z h0 x1 "java/lang/String") (F_coder_x1 : Fld Z h0 x1 "java/lang/String" "coder" "B" (.int (0 : Int32))) (F_value_x1 : Fld Z h0 x1 "java/lang/String" "value" "[B" (.ref y1)) (V_y1 : Arv Z h0 y1 k1 .byte z1 (xs1.map Value.int) (.int (0 : Int32))) (hz_x1 : z1.toNatClampNeg = xs1.length) (E_x2 : Exa Z h0 x2 "java/lang/String") (F_coder_x2 : Fld Z h0 x2 "java/lang/String" "coder" "B" (.int (0 : Int32))) (F_value_x2 : Fld Z h0 x2 "java/lang/String" "value" "[B" (.ref y2)) (V_y2 : Arv Z h0 y2 k2 .byte z2 (xs2.map Value.int) (.int (0 : Int32))) (hz_x2 : z2.toNatClampNeg = xs2.length) (E_x3 : Exa Z h0 x3 "java/lang/String") (F_coder_x3 : Fld Z h0 x3 "java/lang/String" "coder" "B" (.int (0 : Int32))) (F_value_x3 : Fld Z h0 x3 "java/lang/String" "value" "[B" (.ref y3)) (V_y3 : Arv Z h0 y3 k3 .byte z3 (xs3.map Value.int) (.int (0 : Int32))) (hz_x3 : z3.toNatClampNeg = xs3.length) (E_x4 : Exa Z h0 x4 "java/lang/String") (F_coder_x4 : Fld Z h0 x4 "java/lang/String" "coder" "B" (.int (0 : Int32))) (F_value_x4 : Fld Z h0 x4 "java/lang/String" "value" "[B" (.ref y4)) (V_y4 : Arv Z h0 y4 k4 .byte z4 (xs4.map Value.int) (.int (0 : Int32))) (hz_x4 : z4.toNatClampNeg = xs4.length) (E_o1 : Exa Z h0 o1 "com/example/wrought_gate/wroughtgate/engine/SchemaLocation") (F_pointer_o1 : Fld Z h0 o1 "com/example/wrought_gate/wroughtgate/engine/SchemaLocation" "pointer" "Ljava/lang/String;" (.ref x1)) (F_partLength_o1 : Fld Z h0 o1 "com/example/wrought_gate/wroughtgate/engine/SchemaLocation" "partLength" "I" (.int u1)) (F_resource_o1 : Fld Z h0 o1 "com/example/wrought_gate/wroughtgate/engine/SchemaLocation" "resource" "Ljava/lang/String;" (.ref x3)) (F_resourceLength_o1 : Fld Z h0 o1 "com/example/wrought_gate/wroughtgate/engine/SchemaLocation" "resourceLength" "I" (.int u3)) (F_identified_o1 : Fld Z h0 o1 "com/example/wrought_gate/wroughtgate/engine/SchemaLocation" "identified" "Z" (.int d1)) (E_o2 : Exa Z h0 o2 "com/example/wrought_gate/wroughtgate/engine/SchemaLocation") (F_pointer_o2 : Fld Z h0 o2 "com/example/wrought_gate/wroughtgate/engine/SchemaLocation" "pointer" "Ljava/lang/String;" (.ref x2)) (F_partLength_o2 : Fld Z h0 o2 "com/example/wrought_gate/wroughtgate/engine/SchemaLocation" "partLength" "I" (.int u2)) (F_resource_o2 : Fld Z h0 o2 "com/example/wrought_gate/wroughtgate/engine/SchemaLocation" "resource" "Ljava/lang/String;" (.ref x4)) (F_resourceLength_o2 : Fld Z h0 o2 "com/example/wrought_gate/wroughtgate/engine/SchemaLocation" "resourceLength" "I" (.int u4)) (F_identified_o2 : Fld Z h0 o2 "com/example/wrought_gate/wroughtgate/engine/SchemaLocation" "identified" "Z" (.int d2)) (hr : own_E xs1 xs2 u1 u2 xs3 xs4 u3 u4 d1 d2 = e1) :
    MetFree l (⟨"com/example/wrought_gate/wroughtgate/engine/SchemaLocation", "equals", "(Ljava/lang/Object;)Z"⟩ : MethodName) (head1 (Jvm.Cond.code (⟨"com/example/wrought_gate/wroughtgate/engine/SchemaLocation", "equals", "(Ljava/lang/Object;)Z"⟩ : MethodName) prog_19_method_7_code 3 (some .boolean) :: ws) ({ frames := 2, cells := 0, slots := 0, locals := 28 } : Room)) (fun a U => a = #[(.ref o1), (.ref o2)] ∧ Z.Warmed39 U.vm ∧ U.heap = h0) (fun _ _ _ _ _ => True) (fun _ U o U' => ∃ v L, o = .returned v ∧ (Q_rmQ Z o1 o2 x1 x2 x3 x4 y1 y2 y3 y4 k1 k2 k3 k4 z1 z2 z3 z4 u1 u2 u3 u4 d1 d2 e1 xs1 xs2 xs3 xs4 h0 n0 zc) v U'.heap L ∧ FrameEnd U o U' L ({ frames := 2, cells := 0, slots := 0, locals := 28 } : Room).cells ({ frames := 2, cells := 0, slots := 0, locals := 28 } : Room).slots) := by
  refine MetFree.of_bodySF (plainFor_of_name pn_6) hisR ?_
  intro p e s m args below meth c s₁ Bd hml0 hP hK
  obtain ⟨rfl, hZ, hh⟩ := hP
  have hx := Bd.exec
  have hby := Bd.bytes
  have hml : c.maxLocals = 3 := hml0
  have hown : s.vm.findClass "com/example/wrought_gate/wroughtgate/engine/SchemaLocation" = some m.cls := findClass_of_methodNamed Bd.named
  have hnm := (name_of_methodNamed Bd.named Bd.method).1
  have hlk := BodyLoose.notSynchronized Bd
  have X0 : Stand p l e ({ frames := 2, cells := 0, slots := 0, locals := 28 } : Room) s m #[(.ref o1), (.ref o2)] below meth c s₁ [] 0 0 := Stand.of_body Bd
  have e0 : s₁.heap = h0 := by rw [← hh, Bd.state]; rfl
  have N := Fr.nil n0
  obtain ⟨G, hG⟩ : ∃ G : State → JFrame → Prop, G = OwnG p e below s ({ frames := 2, cells := 0, slots := 0, locals := 28 } : Room).cells ({ frames := 2, cells := 0, slots := 0, locals := 28 } : Room).slots (Q_rmQ Z o1 o2 x1 x2 x3 x4 y1 y2 y3 y4 k1 k2 k3 k4 z1 z2 z3 z4 u1 u2 u3 u4 d1 d2 e1 xs1 xs2 xs3 xs4 h0 n0 zc) := ⟨_, rfl⟩
  have gb : ∀ {T T' : State} {g g' : JFrame}, (∀ t, Steps p.tables e below (T'.setTop g') t → Steps p.tables e below (T.setTop g) t) → G T' g' → G T g := by subst hG; exact fun k h => own_by k h
  have go : ∀ {T : State} {locs : List Loc} {cells slots : Nat} {g : JFrame} {v : Option Value}, Stand p l e ({ frames := 2, cells := 0, slots := 0, locals := 28 } : Room) s m #[(.ref o1), (.ref o2)] below meth c T locs cells slots → (meth.sig.returnType = none → v = none) → (∀ fs, (∀ (f : JFrame) (acts : List Action), f.method = m → f.locked = none → f.entered = [] → (doReturn e (T.setTop f) acts v).1 = T.setFrames fs) → Steps p.tables e below (T.setTop g) (T.setFrames fs)) → (Q_rmQ Z o1 o2 x1 x2 x3 x4 y1 y2 y3 y4 k1 k2 k3 k4 z1 z2 z3 z4 u1 u2 u3 u4 d1 d2 e1 xs1 xs2 xs3 xs4 h0 n0 zc) v T.heap locs → cells ≤ ({ frames := 2, cells := 0, slots := 0, locals := 28 } : Room).cells → slots ≤ ({ frames := 2, cells := 0, slots := 0, locals := 28 } : Room).slots → G T g := by subst hG; exact fun X h1 h2 h3 h4 h5 => own_out X hlk h1 h2 h3 h4 h5
  show OwnG p e below s ({ frames := 2, cells := 0, slots := 0, locals := 28 } : Room).cells ({ frames := 2, cells := 0, slots := 0, locals := 28 } : Room).slots (Q_rmQ Z o1 o2 x1 x2 x3 x4 y1 y2 y3 y4 k1 k2 k3 k4 z1 z2 z3 z4 u1 u2 u3 u4 d1 d2 e1 xs1 xs2 xs3 xs4 h0 n0 zc) s₁ (entryFrame m #[(.ref o1), (.ref o2)] 3)
  rw [← hG, ef_rmQ m o1 o2]
  clear hG
  show G s₁ (mkF m 0 #[.val (.ref o1), .val (.ref o2), .unset] [])
  refine gb (fun _ k => XS.aloadN X0.here hx rfl (hb hby d10_0) rfl rfl k) ?_
  show G s₁ (mkF m 1 #[rv o1, rv o2, .unset] [.ref o2])
  obtain ⟨T1, X1, e1, st1⟩ := instY X0 hx hZ hown (ow hw 71 rfl) e0 (Ins.self E_o2) (g := (mkF m 1 #[rv o1, rv o2, .unset] [.ref o2])) rfl rfl (hb hby d10_1)
  refine gb st1 ?_
  show G T1 (mkF m 4 #[rv o1, rv o2, .unset] [.int 1])
  refine gb (fun _ k => XS.ifNo X1.here hx rfl (hb hby d10_4) rfl ((if0 _ _).trans (feq (by decide : ¬ ((1 : Int32) = (0 : Int32)))).1) (XS.aloadN X1.here hx rfl (hb hby d10_7) rfl rfl k)) ?_
  show G T1 (mkF m 8 #[rv o1, rv o2, .unset] [.ref o2])
  obtain ⟨T2, X2, e2, st2⟩ := castY X1 hx hZ hown (ow hw 71 rfl) e1 (Ins.self E_o2) (g := (mkF m 8 #[rv o1, rv o2, .unset] [.ref o2])) rfl rfl (hb hby d10_8)
  refine gb st2 ?_
  show G T2 (mkF m 11 #[rv o1, rv o2, .unset] [.ref o2])
  refine gb (fun _ k => XS.astoreN X2.here hx rfl (hb hby d10_11) rfl rfl (l' := #[rv o1, rv o2, rv o2]) rfl (XS.aloadN X2.here hx rfl (hb hby d10_12) rfl rfl k)) ?_
  show G T2 (mkF m 13 #[rv o1, rv o2, rv o2] [.ref o1])
  obtain ⟨T3, X3, e3, st3⟩ := getF X2 hx hZ hown (host := "") (Or.inl (ow hw 48 rfl)) Via.refl e2 F_pointer_o1 (g := (mkF m 13 #[rv o1, rv o2, rv o2] [.ref o1])) rfl rfl (hb hby d10_13)
  refine gb st3 ?_
  show G T3 (mkF m 16 #[rv o1, rv o2, rv o2] [.ref x1])
  refine gb (fun _ k => XS.aloadN X3.here hx rfl (hb hby d10_16) rfl rfl k) ?_
  show G T3 (mkF m 17 #[rv o1, rv o2, rv o2] [.ref o2, .ref x1])
  obtain ⟨T4, X4, e4, st4⟩ := getF X3 hx hZ hown (host := "") (Or.inl (ow hw 48 rfl)) Via.refl e3 F_pointer_o2 (g := (mkF m 17 #[rv o1, rv o2, rv o2] [.ref o2, .ref x1])) rfl rfl (hb hby d10_17)
  refine gb st4 ?_
  show G T4 (mkF m 20 #[rv o1, rv o2, rv o2] [.ref x2, .ref x1])
  obtain ⟨cq5, kq5, q5a, q5b, q5c⟩ := isOf hZ e4 E_x1
  obtain ⟨_, _, ⟨T5, Lz5, kz5, nz5⟩, -, X5, ⟨Lc5, hQ5, lq5, yq5, zq5⟩, st5⟩ := X4.virtualBack hx (y := (⟨"java/lang/String", "equals", "(Ljava/lang/Object;)Z"⟩ : MethodName)) (z := (⟨"java/lang/String", "equals", "(Ljava/lang/Object;)Z"⟩ : MethodName)) hown (mvT hZ (ow hw 73 rfl)) (mvT hZ (ow hw 74 rfl)) (notFace_of_selects (args := #[]) (mvT hZ (ow hw 76 rfl))) (mvT hZ (ow hw 76 rfl)) (mvT hZ (ow hw 75 rfl)) (by decide) (backOf (W := 0) (rmEq l Z a0 hw [] x1 x2 y1 y2 k1 k2 z1 z2 xs1 xs2 h0 n0 O E_x1 E_x2 F_coder_x1 F_value_x1 F_coder_x2 F_value_x2 V_y1 V_y2 hz_x1 hz_x2 zc S_cs hzc) hZ (ow hw 77 rfl) (ow hw 8 rfl) (by decide) (by decide)) q5a q5c (g := (mkF m 20 #[rv o1, rv o2, rv o2] [.ref x2, .ref x1])) rfl (by rw [hml]; rfl) (Steps.refl _) (argsL := [(.ref x2)]) (rest := []) (lenOf pd_12 rfl) rfl (by show 2 * 0 + _ ≤ _; exact Nat.le_of_eq rfl) (hb hby d10_20) (fun _ _ => ⟨rfl, e4, (by decide : 0 + 0 ≤ _), (by decide : 0 + 0 ≤ _)⟩)
  dsimp only [Pt.U, Pt.locs, Pt.cells, Pt.slots] at X5 lq5 yq5 zq5 st5 hQ5
  subst lq5 yq5 zq5
  obtain ⟨rfl, rfl, e5⟩ := hQ5
  try rw [List.append_nil] at X5
  refine gb (fun _ k => st5.trans k) ?_
  show G T5 (mkF m 23 #[rv o1, rv o2, rv o2] [.int (if xs1 = xs2 then (1 : Int32) else (0 : Int32))])
  by_cases hc23 : (if xs1 = xs2 then (1 : Int32) else (0 : Int32)) = (0 : Int32)
  · skip
    refine gb (fun _ k => XS.ifYes X5.here hx rfl (pc0 := 23) (pc' := 77) rfl (hb hby d10_23) rfl ((if0 _ _).trans (teq hc23).1) (by decide) (by decide) (XS.iconst X5.here hx rfl (hb hby d10_77) k)) ?_
    show G T5 (mkF m 78 #[rv o1, rv o2, rv o2] [.int 0])
    exact go X5 (v := (some (.int (0 : Int32)))) (fun h => by rw [Bd.returns] at h; cases h) (fun fs hr => retOut X5 hx Bd.returns rfl (Or.inl ⟨rfl, by simp, _, rfl⟩) (hb hby d10_78) hr) (⟨by rw [← hr]; unfold own_E; rw [if_neg (own_e0 hc23)], rfl, e5⟩) (by decide) (by decide)
  · skip
    refine gb (fun _ k => XS.ifNo X5.here hx rfl (hb hby d10_23) rfl ((if0 _ _).trans (feq hc23).1) (XS.aloadN X5.here hx rfl (hb hby d10_26) rfl rfl k)) ?_
    show G T5 (mkF m 27 #[rv o1, rv o2, rv o2] [.ref o1])
    obtain ⟨T6, X6, e6, st6⟩ := getF X5 hx hZ hown (host := "") (Or.inl (ow hw 51 rfl)) Via.refl e5 F_partLength_o1 (g := (mkF m 27 #[rv o1, rv o2, rv o2] [.ref o1])) rfl rfl (hb hby d10_27)
    refine gb st6 ?_
    show G T6 (mkF m 30 #[rv o1, rv o2, rv o2] [.int u1])
    refine gb (fun _ k => XS.aloadN X6.here hx rfl (hb hby d10_30) rfl rfl k) ?_
    show G T6 (mkF m 31 #[rv o1, rv o2, rv o2] [.ref o2, .int u1])
    obtain ⟨T7, X7, e7, st7⟩ := getF X6 hx hZ hown (host := "") (Or.inl (ow hw 51 rfl)) Via.refl e6 F_partLength_o2 (g := (mkF m 31 #[rv o1, rv o2, rv o2] [.ref o2, .int u1])) rfl rfl (hb hby d10_31)
    refine gb st7 ?_
    show G T7 (mkF m 34 #[rv o1, rv o2, rv o2] [.int u2, .int u1])
    by_cases hc34 : u1 = u2
    · skip
      refine gb (fun _ k => XS.icmpNo X7.here hx rfl (hb hby d10_34) rfl (teq hc34).2 (XS.aloadN X7.here hx rfl (hb hby d10_37) rfl rfl k)) ?_
      show G T7 (mkF m 38 #[rv o1, rv o2, rv o2] [.ref o1])
      obtain ⟨T8, X8, e8, st8⟩ := getF X7 hx hZ hown (host := "") (Or.inl (ow hw 60 rfl)) Via.refl e7 F_resource_o1 (g := (mkF m 38 #[rv o1, rv o2, rv o2] [.ref o1])) rfl rfl (hb hby d10_38)
      refine gb st8 ?_
      show G T8 (mkF m 41 #[rv o1, rv o2, rv o2] [.ref x3])
      refine gb (fun _ k => XS.aloadN X8.here hx rfl (hb hby d10_41) rfl rfl k) ?_
      show G T8 (mkF m 42 #[rv o1, rv o2, rv o2] [.ref o2, .ref x3])
      obtain ⟨T9, X9, e9, st9⟩ := getF X8 hx hZ hown (host := "") (Or.inl (ow hw 60 rfl)) Via.refl e8 F_resource_o2 (g := (mkF m 42 #[rv o1, rv o2, rv o2] [.ref o2, .ref x3])) rfl rfl (hb hby d10_42)
      refine gb st9 ?_
      show G T9 (mkF m 45 #[rv o1, rv o2, rv o2] [.ref x4, .ref x3])
      obtain ⟨cq10, kq10, q10a, q10b, q10c⟩ := isOf hZ e9 E_x3
      obtain ⟨_, _, ⟨T10, Lz10, kz10, nz10⟩, -, X10, ⟨Lc10, hQ10, lq10, yq10, zq10⟩, st10⟩ := X9.virtualBack hx (y := (⟨"java/lang/String", "equals", "(Ljava/lang/Object;)Z"⟩ : MethodName)) (z := (⟨"java/lang/String", "equals", "(Ljava/lang/Object;)Z"⟩ : MethodName)) hown (mvT hZ (ow hw 73 rfl)) (mvT hZ (ow hw 74 rfl)) (notFace_of_selects (args := #[]) (mvT hZ (ow hw 76 rfl))) (mvT hZ (ow hw 76 rfl)) (mvT hZ (ow hw 75 rfl)) (by decide) (backOf (W := 0) (rmEq l Z a0 hw [] x3 x4 y3 y4 k3 k4 z3 z4 xs3 xs4 h0 n0 O E_x3 E_x4 F_coder_x3 F_value_x3 F_coder_x4 F_value_x4 V_y3 V_y4 hz_x3 hz_x4 zc S_cs hzc) hZ (ow hw 77 rfl) (ow hw 8 rfl) (by decide) (by decide)) q10a q10c (g := (mkF m 45 #[rv o1, rv o2, rv o2] [.ref x4, .ref x3])) rfl (by rw [hml]; rfl) (Steps.refl _) (argsL := [(.ref x4)]) (rest := []) (lenOf pd_12 rfl) rfl (by show 2 * 0 + _ ≤ _; exact Nat.le_of_eq rfl) (hb hby d10_45) (fun _ _ => ⟨rfl, e9, (by decide : 0 + 0 ≤ _), (by decide : 0 + 0 ≤ _)⟩)
      dsimp only [Pt.U, Pt.locs, Pt.cells, Pt.slots] at X10 lq10 yq10 zq10 st10 hQ10
      subst lq10 yq10 zq10
      obtain ⟨rfl, rfl, e10⟩ := hQ10
      try rw [List.append_nil] at X10
      refine gb (fun _ k => st10.trans k) ?_
      show G T10 (mkF m 48 #[rv o1, rv o2, rv o2] [.int (if xs3 = xs4 then (1 : Int32) else (0 : Int32))])
      by_cases hc48 : (if xs3 = xs4 then (1 : Int32) else (0 : Int32)) = (0 : Int32)
      · skip
        refine gb (fun _ k => XS.ifYes X10.here hx rfl (pc0 := 48) (pc' := 77) rfl (hb hby d10_48) rfl ((if0 _ _).trans (teq hc48).1) (by decide) (by decide) (XS.iconst X10.here hx rfl (hb hby d10_77) k)) ?_
        show G T10 (mkF m 78 #[rv o1, rv o2, rv o2] [.int 0])
        exact go X10 (v := (some (.int (0 : Int32)))) (fun h => by rw [Bd.returns] at h; cases h) (fun fs hr => retOut X10 hx Bd.returns rfl (Or.inl ⟨rfl, by simp, _, rfl⟩) (hb hby d10_78) hr) (⟨by rw [← hr]; unfold own_E; rw [if_pos (own_e1 hc23), if_pos hc34, if_neg (own_e0 hc48)], rfl, e10⟩) (by decide) (by decide)
      · skip
        refine gb (fun _ k => XS.ifNo X10.here hx rfl (hb hby d10_48) rfl ((if0 _ _).trans (feq hc48).1) (XS.aloadN X10.here hx rfl (hb hby d10_51) rfl rfl k)) ?_
        show G T10 (mkF m 52 #[rv o1, rv o2, rv o2] [.ref o1])
        obtain ⟨T11, X11, e11, st11⟩ := getF X10 hx hZ hown (host := "") (Or.inl (ow hw 62 rfl)) Via.refl e10 F_resourceLength_o1 (g := (mkF m 52 #[rv o1, rv o2, rv o2] [.ref o1])) rfl rfl (hb hby d10_52)
        refine gb st11 ?_
        show G T11 (mkF m 55 #[rv o1, rv o2, rv o2] [.int u3])
        refine gb (fun _ k => XS.aloadN X11.here hx rfl (hb hby d10_55) rfl rfl k) ?_
        show G T11 (mkF m 56 #[rv o1, rv o2, rv o2] [.ref o2, .int u3])
        obtain ⟨T12, X12, e12, st12⟩ := getF X11 hx hZ hown (host := "") (Or.inl (ow hw 62 rfl)) Via.refl e11 F_resourceLength_o2 (g := (mkF m 56 #[rv o1, rv o2, rv o2] [.ref o2, .int u3])) rfl rfl (hb hby d10_56)
        refine gb st12 ?_
        show G T12 (mkF m 59 #[rv o1, rv o2, rv o2] [.int u4, .int u3])
        by_cases hc59 : u3 = u4
        · skip
          refine gb (fun _ k => XS.icmpNo X12.here hx rfl (hb hby d10_59) rfl (teq hc59).2 (XS.aloadN X12.here hx rfl (hb hby d10_62) rfl rfl k)) ?_
          show G T12 (mkF m 63 #[rv o1, rv o2, rv o2] [.ref o1])
          obtain ⟨T13, X13, e13, st13⟩ := getF X12 hx hZ hown (host := "") (Or.inl (ow hw 64 rfl)) Via.refl e12 F_identified_o1 (g := (mkF m 63 #[rv o1, rv o2, rv o2] [.ref o1])) rfl rfl (hb hby d10_63)
          refine gb st13 ?_
          show G T13 (mkF m 66 #[rv o1, rv o2, rv o2] [.int d1])
          refine gb (fun _ k => XS.aloadN X13.here hx rfl (hb hby d10_66) rfl rfl k) ?_
          show G T13 (mkF m 67 #[rv o1, rv o2, rv o2] [.ref o2, .int d1])
          obtain ⟨T14, X14, e14, st14⟩ := getF X13 hx hZ hown (host := "") (Or.inl (ow hw 64 rfl)) Via.refl e13 F_identified_o2 (g := (mkF m 67 #[rv o1, rv o2, rv o2] [.ref o2, .int d1])) rfl rfl (hb hby d10_67)
          refine gb st14 ?_
          show G T14 (mkF m 70 #[rv o1, rv o2, rv o2] [.int d2, .int d1])
          by_cases hc70 : d1 = d2
          · skip
            refine gb (fun _ k => XS.icmpNo X14.here hx rfl (hb hby d10_70) rfl (teq hc70).2 (XS.iconst X14.here hx rfl (hb hby d10_73) (XS.goto X14.here hx rfl (pc0 := 74) (pc' := 78) rfl (hb hby d10_74) (by decide) (by decide) k))) ?_
            show G T14 (mkF m 78 #[rv o1, rv o2, rv o2] [.int 1])
            exact go X14 (v := (some (.int (1 : Int32)))) (fun h => by rw [Bd.returns] at h; cases h) (fun fs hr => retOut X14 hx Bd.returns rfl (Or.inl ⟨rfl, by simp, _, rfl⟩) (hb hby d10_78) hr) (⟨by rw [← hr]; unfold own_E; rw [if_pos (own_e1 hc23), if_pos hc34, if_pos (own_e1 hc48), if_pos hc59, if_pos hc70], rfl, e14⟩) (by decide) (by decide)
          · skip
            refine gb (fun _ k => XS.icmpYes X14.here hx rfl (pc0 := 70) (pc' := 77) rfl (hb hby d10_70) rfl (feq hc70).2 (by decide) (by decide) (XS.iconst X14.here hx rfl (hb hby d10_77) k)) ?_
            show G T14 (mkF m 78 #[rv o1, rv o2, rv o2] [.int 0])
            exact go X14 (v := (some (.int (0 : Int32)))) (fun h => by rw [Bd.returns] at h; cases h) (fun fs hr => retOut X14 hx Bd.returns rfl (Or.inl ⟨rfl, by simp, _, rfl⟩) (hb hby d10_78) hr) (⟨by rw [← hr]; unfold own_E; rw [if_pos (own_e1 hc23), if_pos hc34, if_pos (own_e1 hc48), if_pos hc59, if_neg hc70], rfl, e14⟩) (by decide) (by decide)
        · skip
          refine gb (fun _ k => XS.icmpYes X12.here hx rfl (pc0 := 59) (pc' := 77) rfl (hb hby d10_59) rfl (feq hc59).2 (by decide) (by decide) (XS.iconst X12.here hx rfl (hb hby d10_77) k)) ?_
          show G T12 (mkF m 78 #[rv o1, rv o2, rv o2] [.int 0])
          exact go X12 (v := (some (.int (0 : Int32)))) (fun h => by rw [Bd.returns] at h; cases h) (fun fs hr => retOut X12 hx Bd.returns rfl (Or.inl ⟨rfl, by simp, _, rfl⟩) (hb hby d10_78) hr) (⟨by rw [← hr]; unfold own_E; rw [if_pos (own_e1 hc23), if_pos hc34, if_pos (own_e1 hc48), if_neg hc59], rfl, e12⟩) (by decide) (by decide)
    · skip
      refine gb (fun _ k => XS.icmpYes X7.here hx rfl (pc0 := 34) (pc' := 77) rfl (hb hby d10_34) rfl (feq hc34).2 (by decide) (by decide) (XS.iconst X7.here hx rfl (hb hby d10_77) k)) ?_
      show G T7 (mkF m 78 #[rv o1, rv o2, rv o2] [.int 0])
      exact go X7 (v := (some (.int (0 : Int32)))) (fun h => by rw [Bd.returns] at h; cases h) (fun fs hr => retOut X7 hx Bd.returns rfl (Or.inl ⟨rfl, by simp, _, rfl⟩) (hb hby d10_78) hr) (⟨by rw [← hr]; unfold own_E; rw [if_pos (own_e1 hc23), if_neg hc34], rfl, e7⟩) (by decide) (by decide)
def Q_rmQN (Z : State) (o1 : Addr) (h0 : Heap) (n0 : Nat) : Option Value → Heap → List Loc → Prop := fun v h L => v = some (.int (0 : Int32)) ∧ L = [] ∧ h = h0
set_option maxRecDepth 65536 in
set_option maxHeartbeats 40000000 in
theorem rmQN (l : Launch) (Z : State) (a0 : Array Value) (hw : ∀ d ∈ tables_1, d.before a0 Z = true) (ws : List Jvm.Cond) (o1 : Addr) (h0 : Heap) (n0 : Nat) (O : Old Z n0 h0) :
    MetFree l (⟨"com/example/wrought_gate/wroughtgate/engine/SchemaLocation", "equals", "(Ljava/lang/Object;)Z"⟩ : MethodName) (head1 (Jvm.Cond.code (⟨"com/example/wrought_gate/wroughtgate/engine/SchemaLocation", "equals", "(Ljava/lang/Object;)Z"⟩ : MethodName) prog_19_method_7_code 3 (some .boolean) :: ws) ({ frames := 0, cells := 0, slots := 0, locals := 0 } : Room)) (fun a U => a = #[(.ref o1), .null] ∧ Z.Warmed39 U.vm ∧ U.heap = h0) (fun _ _ _ _ _ => True) (fun _ U o U' => ∃ v L, o = .returned v ∧ (Q_rmQN Z o1 h0 n0) v U'.heap L ∧ FrameEnd U o U' L ({ frames := 0, cells := 0, slots := 0, locals := 0 } : Room).cells ({ frames := 0, cells := 0, slots := 0, locals := 0 } : Room).slots) := by
  refine MetFree.of_bodySF (plainFor_of_name pn_6) hisR ?_
  intro p e s m args below meth c s₁ Bd hml0 hP hK
  obtain ⟨rfl, hZ, hh⟩ := hP
  have hx := Bd.exec
  have hby := Bd.bytes
  have hml : c.maxLocals = 3 := hml0
  have hown : s.vm.findClass "com/example/wrought_gate/wroughtgate/engine/SchemaLocation" = some m.cls := findClass_of_methodNamed Bd.named
  have hnm := (name_of_methodNamed Bd.named Bd.method).1
  have hlk := BodyLoose.notSynchronized Bd
  have X0 : Stand p l e ({ frames := 0, cells := 0, slots := 0, locals := 0 } : Room) s m #[(.ref o1), .null] below meth c s₁ [] 0 0 := Stand.of_body Bd
  have e0 : s₁.heap = h0 := by rw [← hh, Bd.state]; rfl
  have N := Fr.nil n0
  obtain ⟨G, hG⟩ : ∃ G : State → JFrame → Prop, G = OwnG p e below s ({ frames := 0, cells := 0, slots := 0, locals := 0 } : Room).cells ({ frames := 0, cells := 0, slots := 0, locals := 0 } : Room).slots (Q_rmQN Z o1 h0 n0) := ⟨_, rfl⟩
  have gb : ∀ {T T' : State} {g g' : JFrame}, (∀ t, Steps p.tables e below (T'.setTop g') t → Steps p.tables e below (T.setTop g) t) → G T' g' → G T g := by subst hG; exact fun k h => own_by k h
  have go : ∀ {T : State} {locs : List Loc} {cells slots : Nat} {g : JFrame} {v : Option Value}, Stand p l e ({ frames := 0, cells := 0, slots := 0, locals := 0 } : Room) s m #[(.ref o1), .null] below meth c T locs cells slots → (meth.sig.returnType = none → v = none) → (∀ fs, (∀ (f : JFrame) (acts : List Action), f.method = m → f.locked = none → f.entered = [] → (doReturn e (T.setTop f) acts v).1 = T.setFrames fs) → Steps p.tables e below (T.setTop g) (T.setFrames fs)) → (Q_rmQN Z o1 h0 n0) v T.heap locs → cells ≤ ({ frames := 0, cells := 0, slots := 0, locals := 0 } : Room).cells → slots ≤ ({ frames := 0, cells := 0, slots := 0, locals := 0 } : Room).slots → G T g := by subst hG; exact fun X h1 h2 h3 h4 h5 => own_out X hlk h1 h2 h3 h4 h5
  show OwnG p e below s ({ frames := 0, cells := 0, slots := 0, locals := 0 } : Room).cells ({ frames := 0, cells := 0, slots := 0, locals := 0 } : Room).slots (Q_rmQN Z o1 h0 n0) s₁ (entryFrame m #[(.ref o1), .null] 3)
  rw [← hG, ef_rmQN m o1]
  clear hG
  show G s₁ (mkF m 0 #[.val (.ref o1), .val .null, .unset] [])
  refine gb (fun _ k => XS.aloadN X0.here hx rfl (hb hby d10_0) rfl rfl k) ?_
  show G s₁ (mkF m 1 #[rv o1, .val .null, .unset] [.null])
  refine gb (X0.instanceofNull hx (g := (mkF m 1 #[rv o1, .val .null, .unset] [.null])) rfl rfl (hb hby d10_1)) ?_
  show G s₁ (mkF m 4 #[rv o1, .val .null, .unset] [.int 0])
  refine gb (fun _ k => XS.ifYes X0.here hx rfl (pc0 := 4) (pc' := 77) rfl (hb hby d10_4) rfl ((if0 _ _).trans (teq (by decide : (0 : Int32) = (0 : Int32))).1) (by decide) (by decide) (XS.iconst X0.here hx rfl (hb hby d10_77) k)) ?_
  show G s₁ (mkF m 78 #[rv o1, .val .null, .unset] [.int 0])
  exact go X0 (v := (some (.int (0 : Int32)))) (fun h => by rw [Bd.returns] at h; cases h) (fun fs hr => retOut X0 hx Bd.returns rfl (Or.inl ⟨rfl, by simp, _, rfl⟩) (hb hby d10_78) hr) (⟨rfl, rfl, e0⟩) (by decide) (by decide)
def Q_rmQI (Z : State) (o1 o2 : Addr) (h0 : Heap) (n0 : Nat) : Option Value → Heap → List Loc → Prop := fun v h L => v = some (.int (0 : Int32)) ∧ L = [] ∧ h = h0
set_option maxRecDepth 65536 in
set_option maxHeartbeats 40000000 in
theorem rmQI (l : Launch) (Z : State) (a0 : Array Value) (hw : ∀ d ∈ tables_1, d.before a0 Z = true) (ws : List Jvm.Cond) (o1 o2 : Addr) (h0 : Heap) (n0 : Nat) (O : Old Z n0 h0) (E_o2 : Exa Z h0 o2 "java/lang/Integer") :
    MetFree l (⟨"com/example/wrought_gate/wroughtgate/engine/SchemaLocation", "equals", "(Ljava/lang/Object;)Z"⟩ : MethodName) (head1 (Jvm.Cond.code (⟨"com/example/wrought_gate/wroughtgate/engine/SchemaLocation", "equals", "(Ljava/lang/Object;)Z"⟩ : MethodName) prog_19_method_7_code 3 (some .boolean) :: ws) ({ frames := 0, cells := 0, slots := 0, locals := 0 } : Room)) (fun a U => a = #[(.ref o1), (.ref o2)] ∧ Z.Warmed39 U.vm ∧ U.heap = h0) (fun _ _ _ _ _ => True) (fun _ U o U' => ∃ v L, o = .returned v ∧ (Q_rmQI Z o1 o2 h0 n0) v U'.heap L ∧ FrameEnd U o U' L ({ frames := 0, cells := 0, slots := 0, locals := 0 } : Room).cells ({ frames := 0, cells := 0, slots := 0, locals := 0 } : Room).slots) := by
  refine MetFree.of_bodySF (plainFor_of_name pn_6) hisR ?_
  intro p e s m args below meth c s₁ Bd hml0 hP hK
  obtain ⟨rfl, hZ, hh⟩ := hP
  have hx := Bd.exec
  have hby := Bd.bytes
  have hml : c.maxLocals = 3 := hml0
  have hown : s.vm.findClass "com/example/wrought_gate/wroughtgate/engine/SchemaLocation" = some m.cls := findClass_of_methodNamed Bd.named
  have hnm := (name_of_methodNamed Bd.named Bd.method).1
  have hlk := BodyLoose.notSynchronized Bd
  have X0 : Stand p l e ({ frames := 0, cells := 0, slots := 0, locals := 0 } : Room) s m #[(.ref o1), (.ref o2)] below meth c s₁ [] 0 0 := Stand.of_body Bd
  have e0 : s₁.heap = h0 := by rw [← hh, Bd.state]; rfl
  have N := Fr.nil n0
  obtain ⟨G, hG⟩ : ∃ G : State → JFrame → Prop, G = OwnG p e below s ({ frames := 0, cells := 0, slots := 0, locals := 0 } : Room).cells ({ frames := 0, cells := 0, slots := 0, locals := 0 } : Room).slots (Q_rmQI Z o1 o2 h0 n0) := ⟨_, rfl⟩
  have gb : ∀ {T T' : State} {g g' : JFrame}, (∀ t, Steps p.tables e below (T'.setTop g') t → Steps p.tables e below (T.setTop g) t) → G T' g' → G T g := by subst hG; exact fun k h => own_by k h
  have go : ∀ {T : State} {locs : List Loc} {cells slots : Nat} {g : JFrame} {v : Option Value}, Stand p l e ({ frames := 0, cells := 0, slots := 0, locals := 0 } : Room) s m #[(.ref o1), (.ref o2)] below meth c T locs cells slots → (meth.sig.returnType = none → v = none) → (∀ fs, (∀ (f : JFrame) (acts : List Action), f.method = m → f.locked = none → f.entered = [] → (doReturn e (T.setTop f) acts v).1 = T.setFrames fs) → Steps p.tables e below (T.setTop g) (T.setFrames fs)) → (Q_rmQI Z o1 o2 h0 n0) v T.heap locs → cells ≤ ({ frames := 0, cells := 0, slots := 0, locals := 0 } : Room).cells → slots ≤ ({ frames := 0, cells := 0, slots := 0, locals := 0 } : Room).slots → G T g := by subst hG; exact fun X h1 h2 h3 h4 h5 => own_out X hlk h1 h2 h3 h4 h5
  show OwnG p e below s ({ frames := 0, cells := 0, slots := 0, locals := 0 } : Room).cells ({ frames := 0, cells := 0, slots := 0, locals := 0 } : Room).slots (Q_rmQI Z o1 o2 h0 n0) s₁ (entryFrame m #[(.ref o1), (.ref o2)] 3)
  rw [← hG, ef_rmQI m o1 o2]
  clear hG
  show G s₁ (mkF m 0 #[.val (.ref o1), .val (.ref o2), .unset] [])
  refine gb (fun _ k => XS.aloadN X0.here hx rfl (hb hby d10_0) rfl rfl k) ?_
  show G s₁ (mkF m 1 #[rv o1, rv o2, .unset] [.ref o2])
  obtain ⟨Ti, Xi, ei, sti⟩ := instNo X0 hx hZ hown (ow hw 71 rfl) e0 E_o2 (own_notInst2 (ow hw 85 rfl) (ow hw 86 rfl) (ow hw 87 rfl) (ow hw 1 rfl) (by decide) (by decide) (by decide)) (g := (mkF m 1 #[rv o1, rv o2, .unset] [.ref o2])) rfl rfl (hb hby d10_1)
  refine gb sti ?_
  show G Ti (mkF m 4 #[rv o1, rv o2, .unset] [.int 0])
  refine gb (fun _ k => XS.ifYes Xi.here hx rfl (pc0 := 4) (pc' := 77) rfl (hb hby d10_4) rfl ((if0 _ _).trans (teq (by decide : (0 : Int32) = (0 : Int32))).1) (by decide) (by decide) (XS.iconst Xi.here hx rfl (hb hby d10_77) k)) ?_
  show G Ti (mkF m 78 #[rv o1, rv o2, .unset] [.int 0])
  exact go Xi (v := (some (.int (0 : Int32)))) (fun h => by rw [Bd.returns] at h; cases h) (fun fs hr => retOut Xi hx Bd.returns rfl (Or.inl ⟨rfl, by simp, _, rfl⟩) (hb hby d10_78) hr) (⟨rfl, rfl, ei⟩) (by decide) (by decide)
def Q_rmNI (Z : State) (a1 : Addr) (h0 : Heap) (n0 : Nat) : Option Value → Heap → List Loc → Prop := fun v h L => v = none ∧ L = [] ∧ h = h0
set_option maxRecDepth 65536 in
set_option maxHeartbeats 40000000 in
theorem rmNI (l : Launch) (Z : State) (a0 : Array Value) (hw : ∀ d ∈ tables_1, d.before a0 Z = true) (ws : List Jvm.Cond) (a1 : Addr) (h0 : Heap) (n0 : Nat) (O : Old Z n0 h0) :
    MetFree l (⟨"java/lang/Number", "<init>", "()V"⟩ : MethodName) (head1 (Jvm.Cond.code (⟨"java/lang/Number", "<init>", "()V"⟩ : MethodName) jdk_18_method_1_code 1 none :: ws) ({ frames := 1, cells := 0, slots := 0, locals := 12 } : Room)) (fun a U => a = #[(.ref a1)] ∧ Z.Warmed39 U.vm ∧ U.heap = h0) (fun _ _ _ _ _ => True) (fun _ U o U' => ∃ v L, o = .returned v ∧ (Q_rmNI Z a1 h0 n0) v U'.heap L ∧ FrameEnd U o U' L ({ frames := 1, cells := 0, slots := 0, locals := 12 } : Room).cells ({ frames := 1, cells := 0, slots := 0, locals := 12 } : Room).slots) := by
  refine MetFree.of_bodySF (plainFor_of_name pn_7) hisR ?_
  intro p e s m args below meth c s₁ Bd hml0 hP hK
  obtain ⟨rfl, hZ, hh⟩ := hP
  have hx := Bd.exec
  have hby := Bd.bytes
  have hml : c.maxLocals = 1 := hml0
  have hown : s.vm.findClass "java/lang/Number" = some m.cls := findClass_of_methodNamed Bd.named
  have hnm := (name_of_methodNamed Bd.named Bd.method).1
  have hlk := BodyLoose.notSynchronized Bd
  have X0 : Stand p l e ({ frames := 1, cells := 0, slots := 0, locals := 12 } : Room) s m #[(.ref a1)] below meth c s₁ [] 0 0 := Stand.of_body Bd
  have e0 : s₁.heap = h0 := by rw [← hh, Bd.state]; rfl
  have N := Fr.nil n0
  obtain ⟨G, hG⟩ : ∃ G : State → JFrame → Prop, G = OwnG p e below s ({ frames := 1, cells := 0, slots := 0, locals := 12 } : Room).cells ({ frames := 1, cells := 0, slots := 0, locals := 12 } : Room).slots (Q_rmNI Z a1 h0 n0) := ⟨_, rfl⟩
  have gb : ∀ {T T' : State} {g g' : JFrame}, (∀ t, Steps p.tables e below (T'.setTop g') t → Steps p.tables e below (T.setTop g) t) → G T' g' → G T g := by subst hG; exact fun k h => own_by k h
  have go : ∀ {T : State} {locs : List Loc} {cells slots : Nat} {g : JFrame} {v : Option Value}, Stand p l e ({ frames := 1, cells := 0, slots := 0, locals := 12 } : Room) s m #[(.ref a1)] below meth c T locs cells slots → (meth.sig.returnType = none → v = none) → (∀ fs, (∀ (f : JFrame) (acts : List Action), f.method = m → f.locked = none → f.entered = [] → (doReturn e (T.setTop f) acts v).1 = T.setFrames fs) → Steps p.tables e below (T.setTop g) (T.setFrames fs)) → (Q_rmNI Z a1 h0 n0) v T.heap locs → cells ≤ ({ frames := 1, cells := 0, slots := 0, locals := 12 } : Room).cells → slots ≤ ({ frames := 1, cells := 0, slots := 0, locals := 12 } : Room).slots → G T g := by subst hG; exact fun X h1 h2 h3 h4 h5 => own_out X hlk h1 h2 h3 h4 h5
  show OwnG p e below s ({ frames := 1, cells := 0, slots := 0, locals := 12 } : Room).cells ({ frames := 1, cells := 0, slots := 0, locals := 12 } : Room).slots (Q_rmNI Z a1 h0 n0) s₁ (entryFrame m #[(.ref a1)] 1)
  rw [← hG, ef_rmNI m a1]
  clear hG
  show G s₁ (mkF m 0 #[.val (.ref a1)] [])
  refine gb (fun _ k => XS.aloadN X0.here hx rfl (hb hby d20_0) rfl rfl k) ?_
  show G s₁ (mkF m 1 #[rv a1] [.ref a1])
  obtain ⟨T1, X1, e1, st1⟩ := initO X0 hx hZ hown (ow hw 124 rfl) (ow hw 19 rfl) (ow hw 20 rfl) e0 (g := (mkF m 1 #[rv a1] [.ref a1])) rfl (by rw [hml]; rfl) rfl (hb hby d20_1) (by decide) (W := 0) (by show 2 * 0 + _ ≤ _; exact Nat.le_of_eq rfl) (by decide)
  refine gb st1 ?_
  show G T1 (mkF m 4 #[rv a1] [])
  exact go X1 (v := none) (fun _ => rfl) (fun fs hr => X1.returnOut hx Bd.returns (hb hby d20_4) hr) (⟨rfl, rfl, e1⟩) (by decide) (by decide)
def Q_rmII (Z : State) (a1 : Addr) (p1 : Int32) (h0 : Heap) (n0 : Nat) : Option Value → Heap → List Loc → Prop := fun v h L => v = none ∧ Fr n0 L ∧ Keep h0 h [a1] ∧ Exa Z h a1 "java/lang/Integer"
set_option maxRecDepth 65536 in
set_option maxHeartbeats 40000000 in
theorem rmII (l : Launch) (Z : State) (a0 : Array Value) (hw : ∀ d ∈ tables_1, d.before a0 Z = true) (ws : List Jvm.Cond) (a1 : Addr) (p1 : Int32) (h0 : Heap) (n0 : Nat) (O : Old Z n0 h0) (E_a1 : Exa Z h0 a1 "java/lang/Integer") (F_value : Fld Z h0 a1 "java/lang/Integer" "value" "I" (.int (0 : Int32))) (g_a1 : n0 ≤ a1) :
    MetFree l (⟨"java/lang/Integer", "<init>", "(I)V"⟩ : MethodName) (head1 (Jvm.Cond.code (⟨"java/lang/Integer", "<init>", "(I)V"⟩ : MethodName) jdk_33_method_23_code 2 none :: ws) ({ frames := 2, cells := 0, slots := 0, locals := 24 } : Room)) (fun a U => a = #[(.ref a1), (.int p1)] ∧ Z.Warmed39 U.vm ∧ U.heap = h0) (fun _ _ _ _ _ => True) (fun _ U o U' => ∃ v L, o = .returned v ∧ (Q_rmII Z a1 p1 h0 n0) v U'.heap L ∧ FrameEnd U o U' L ({ frames := 2, cells := 0, slots := 0, locals := 24 } : Room).cells ({ frames := 2, cells := 0, slots := 0, locals := 24 } : Room).slots) := by
  refine MetFree.of_bodySF (plainFor_of_name pn_8) hisR ?_
  intro p e s m args below meth c s₁ Bd hml0 hP hK
  obtain ⟨rfl, hZ, hh⟩ := hP
  have hx := Bd.exec
  have hby := Bd.bytes
  have hml : c.maxLocals = 2 := hml0
  have hown : s.vm.findClass "java/lang/Integer" = some m.cls := findClass_of_methodNamed Bd.named
  have hnm := (name_of_methodNamed Bd.named Bd.method).1
  have hlk := BodyLoose.notSynchronized Bd
  have X0 : Stand p l e ({ frames := 2, cells := 0, slots := 0, locals := 24 } : Room) s m #[(.ref a1), (.int p1)] below meth c s₁ [] 0 0 := Stand.of_body Bd
  have e0 : s₁.heap = h0 := by rw [← hh, Bd.state]; rfl
  have N := Fr.nil n0
  have K := Keep.refl h0 [a1]
  obtain ⟨G, hG⟩ : ∃ G : State → JFrame → Prop, G = OwnG p e below s ({ frames := 2, cells := 0, slots := 0, locals := 24 } : Room).cells ({ frames := 2, cells := 0, slots := 0, locals := 24 } : Room).slots (Q_rmII Z a1 p1 h0 n0) := ⟨_, rfl⟩
  have gb : ∀ {T T' : State} {g g' : JFrame}, (∀ t, Steps p.tables e below (T'.setTop g') t → Steps p.tables e below (T.setTop g) t) → G T' g' → G T g := by subst hG; exact fun k h => own_by k h
  have go : ∀ {T : State} {locs : List Loc} {cells slots : Nat} {g : JFrame} {v : Option Value}, Stand p l e ({ frames := 2, cells := 0, slots := 0, locals := 24 } : Room) s m #[(.ref a1), (.int p1)] below meth c T locs cells slots → (meth.sig.returnType = none → v = none) → (∀ fs, (∀ (f : JFrame) (acts : List Action), f.method = m → f.locked = none → f.entered = [] → (doReturn e (T.setTop f) acts v).1 = T.setFrames fs) → Steps p.tables e below (T.setTop g) (T.setFrames fs)) → (Q_rmII Z a1 p1 h0 n0) v T.heap locs → cells ≤ ({ frames := 2, cells := 0, slots := 0, locals := 24 } : Room).cells → slots ≤ ({ frames := 2, cells := 0, slots := 0, locals := 24 } : Room).slots → G T g := by subst hG; exact fun X h1 h2 h3 h4 h5 => own_out X hlk h1 h2 h3 h4 h5
  show OwnG p e below s ({ frames := 2, cells := 0, slots := 0, locals := 24 } : Room).cells ({ frames := 2, cells := 0, slots := 0, locals := 24 } : Room).slots (Q_rmII Z a1 p1 h0 n0) s₁ (entryFrame m #[(.ref a1), (.int p1)] 2)
  rw [← hG, ef_rmII m a1 p1]
  clear hG
  show G s₁ (mkF m 0 #[.val (.ref a1), .val (.int p1)] [])
  refine gb (fun _ k => XS.aloadN X0.here hx rfl (hb hby d19_0) rfl rfl k) ?_
  show G s₁ (mkF m 1 #[rv a1, iv p1] [.ref a1])
  obtain ⟨_, _, ⟨T1, Lz1, kz1, nz1⟩, -, X1, ⟨Lc1, hQ1, lq1, yq1, zq1⟩, st1⟩ := X0.specialBack hx (y := (⟨"java/lang/Number", "<init>", "()V"⟩ : MethodName)) rfl hown (mvT hZ (ow hw 118 rfl)) (mvT hZ (ow hw 119 rfl)) (mvT hZ (ow hw 123 rfl)) (by decide) (backOf (W := 0) (rmNI l Z a0 hw [] a1 h0 n0 O) hZ (ow hw 123 rfl) (ow hw 122 rfl) (by decide) (by decide)) (g := (mkF m 1 #[rv a1, iv p1] [.ref a1])) rfl (by rw [hml]; rfl) (Steps.refl _) (a := a1) (argsL := []) (rest := []) (lenOf pd_13 rfl) rfl (by show 2 * 0 + _ ≤ _; exact Nat.le_of_eq rfl) (hb hby d19_1) (fun _ _ => ⟨rfl, e0, (by decide : 0 + 0 ≤ _), (by decide : 0 + 0 ≤ _)⟩)
  dsimp only [Pt.U, Pt.locs, Pt.cells, Pt.slots] at X1 lq1 yq1 zq1 st1 hQ1
  subst lq1 yq1 zq1
  obtain ⟨rfl, rfl, e1⟩ := hQ1
  try rw [List.append_nil] at X1
  refine gb (fun _ k => st1.trans k) ?_
  show G T1 (mkF m 4 #[rv a1, iv p1] [])
  refine gb (fun _ k => XS.aloadN X1.here hx rfl (hb hby d19_4) rfl rfl (XS.iloadN X1.here hx rfl (hb hby d19_5) rfl k)) ?_
  show G T1 (mkF m 6 #[rv a1, iv p1] [.int p1, .ref a1])
  obtain ⟨T2, h2, X2, e2, W2, st2⟩ := putF X1 hx hZ hown (host := "") (Or.inl (ow hw 125 rfl)) Via.refl e1 F_value E_a1 (Or.inr ⟨(ow hw 126 rfl), rfl, hnm⟩) (ow hw 113 rfl) (ty := .int) (by decide) rfl rfl (g := (mkF m 6 #[rv a1, iv p1] [.int p1, .ref a1])) rfl rfl (hb hby d19_6)
  refine gb st2 ?_
  have F_value := F_value.same W2
  have E_a1 := E_a1.wr W2
  have O := O.wr W2 g_a1
  have K := K.wr W2 (Or.inl (List.mem_of_getElem? (i := 0) rfl))
  have N := Fr.snoc X2 N g_a1
  show G T2 (mkF m 9 #[rv a1, iv p1] [])
  exact go X2 (v := none) (fun _ => rfl) (fun fs hr => X2.returnOut hx Bd.returns (hb hby d19_9) hr) (by rw [e2]; exact ⟨rfl, N, K, E_a1⟩) (by decide) (by decide)
theorem own_cache {x : Int32} {n : Nat} (hn : n = (256 : Int32).toNatClampNeg) (h1 : ¬ x < (-128 : Int32)) (h2 : ¬ (127 : Int32) < x) : ¬ ((x + (128 : Int32)) < 0 ∨ n ≤ (x + (128 : Int32)).toNatClampNeg) := by
  have a0 : (0 : Int32).toInt = 0 := rfl
  have a1 : (-128 : Int32).toInt = -128 := rfl
  have a2 : (127 : Int32).toInt = 127 := rfl
  have a3 : (128 : Int32).toInt = 128 := rfl
  have a4 : (256 : Int32).toNatClampNeg = 256 := rfl
  rw [Int32.lt_iff_toInt_lt] at h1 h2
  have e : (x + (128 : Int32)).toInt = x.toInt + 128 := by
    rw [Int32.toInt_add, a3]; exact Int.bmod_eq_of_le (by omega) (by omega)
  have e2 : (x + (128 : Int32)).toNatClampNeg = (x + (128 : Int32)).toInt.toNat := rfl
  rw [Int32.lt_iff_toInt_lt, e2, e]
  omega
def Q_rmIV (Z : State) (p1 : Int32) (h0 : Heap) (n0 : Nat) (wC : Addr) : Option Value → Heap → List Loc → Prop := fun v h L => ∃ t : Addr, v = some (.ref t) ∧ Fr n0 L ∧ Keep h0 h [] ∧ Exa Z h t "java/lang/Integer"
set_option maxRecDepth 65536 in
set_option maxHeartbeats 40000000 in
theorem rmIV (l : Launch) (Z : State) (a0 : Array Value) (hw : ∀ d ∈ tables_1, d.before a0 Z = true) (ws : List Jvm.Cond) (p1 : Int32) (h0 : Heap) (n0 : Nat) (O : Old Z n0 h0) (wC : Addr) (cC : Cell) (val : Int32 → Value) (S_high : Sta Z Z.heap "java/lang/Integer$IntegerCache" "high" "I" (.int (127 : Int32))) (S_cache : Sta Z Z.heap "java/lang/Integer$IntegerCache" "cache" "[Ljava/lang/Integer;" (.ref wC)) (Bx : Bxs Z wC cC "java/lang/Integer" "I" (256 : Int32) val) :
    MetFree l (⟨"java/lang/Integer", "valueOf", "(I)Ljava/lang/Integer;"⟩ : MethodName) (head1 (Jvm.Cond.code (⟨"java/lang/Integer", "valueOf", "(I)Ljava/lang/Integer;"⟩ : MethodName) jdk_33_method_22_code 1 (some (.object "java/lang/Integer")) :: ws) ({ frames := 3, cells := 1, slots := 1, locals := 38 } : Room)) (fun a U => a = #[(.int p1)] ∧ Z.Warmed39 U.vm ∧ U.heap = h0) (fun _ _ _ _ _ => True) (fun _ U o U' => ∃ v L, o = .returned v ∧ (Q_rmIV Z p1 h0 n0 wC) v U'.heap L ∧ FrameEnd U o U' L ({ frames := 3, cells := 1, slots := 1, locals := 38 } : Room).cells ({ frames := 3, cells := 1, slots := 1, locals := 38 } : Room).slots) := by
  refine MetFree.of_bodySF (plainFor_of_name pn_8) hisR ?_
  intro p e s m args below meth c s₁ Bd hml0 hP hK
  obtain ⟨rfl, hZ, hh⟩ := hP
  have hx := Bd.exec
  have hby := Bd.bytes
  have hml : c.maxLocals = 1 := hml0
  have hown : s.vm.findClass "java/lang/Integer" = some m.cls := findClass_of_methodNamed Bd.named
  have hnm := (name_of_methodNamed Bd.named Bd.method).1
  have hlk := BodyLoose.notSynchronized Bd
  have X0 : Stand p l e ({ frames := 3, cells := 1, slots := 1, locals := 38 } : Room) s m #[(.int p1)] below meth c s₁ [] 0 0 := Stand.of_body Bd
  have e0 : s₁.heap = h0 := by rw [← hh, Bd.state]; rfl
  have N := Fr.nil n0
  have K := Keep.refl h0 []
  obtain ⟨G, hG⟩ : ∃ G : State → JFrame → Prop, G = OwnG p e below s ({ frames := 3, cells := 1, slots := 1, locals := 38 } : Room).cells ({ frames := 3, cells := 1, slots := 1, locals := 38 } : Room).slots (Q_rmIV Z p1 h0 n0 wC) := ⟨_, rfl⟩
  have gb : ∀ {T T' : State} {g g' : JFrame}, (∀ t, Steps p.tables e below (T'.setTop g') t → Steps p.tables e below (T.setTop g) t) → G T' g' → G T g := by subst hG; exact fun k h => own_by k h
  have go : ∀ {T : State} {locs : List Loc} {cells slots : Nat} {g : JFrame} {v : Option Value}, Stand p l e ({ frames := 3, cells := 1, slots := 1, locals := 38 } : Room) s m #[(.int p1)] below meth c T locs cells slots → (meth.sig.returnType = none → v = none) → (∀ fs, (∀ (f : JFrame) (acts : List Action), f.method = m → f.locked = none → f.entered = [] → (doReturn e (T.setTop f) acts v).1 = T.setFrames fs) → Steps p.tables e below (T.setTop g) (T.setFrames fs)) → (Q_rmIV Z p1 h0 n0 wC) v T.heap locs → cells ≤ ({ frames := 3, cells := 1, slots := 1, locals := 38 } : Room).cells → slots ≤ ({ frames := 3, cells := 1, slots := 1, locals := 38 } : Room).slots → G T g := by subst hG; exact fun X h1 h2 h3 h4 h5 => own_out X hlk h1 h2 h3 h4 h5
  show OwnG p e below s ({ frames := 3, cells := 1, slots := 1, locals := 38 } : Room).cells ({ frames := 3, cells := 1, slots := 1, locals := 38 } : Room).slots (Q_rmIV Z p1 h0 n0 wC) s₁ (entryFrame m #[(.int p1)] 1)
  rw [← hG, ef_rmIV m p1]
  clear hG
  show G s₁ (mkF m 0 #[.val (.int p1)] [])
  refine gb (fun _ k => XS.iloadN X0.here hx rfl (hb hby d12_0) rfl (XS.bipush X0.here hx rfl (hb hby d12_1) k)) ?_
  show G s₁ (mkF m 3 #[iv p1] [.int (-128), .int p1])
  by_cases hc3 : p1 < (-128 : Int32)
  · skip
    refine gb (fun _ k => XS.icmpYes X0.here hx rfl (pc0 := 3) (pc' := 23) rfl (hb hby d12_3) rfl (tlt hc3).1 (by decide) (by decide) k) ?_
    show G s₁ (mkF m 23 #[iv p1] [])
    obtain ⟨T1, h1, X1, e1, E1, A1, D1, U1, st1⟩ := newO X0 hx hZ hown (ow hw 112 rfl) (ow hw 113 rfl) (ow hw 80 rfl) e0 (g := (mkF m 23 #[iv p1] [])) rfl (hb hby d12_23) (by decide) (by decide)
    obtain ⟨b1, g1⟩ : ∃ z, z = h0.size := ⟨_, rfl⟩
    rw [← g1] at A1 D1 U1 st1
    have g_b1 : n0 ≤ b1 := Nat.le_trans (by have := O.2.1; rw [O.1] at this; exact this) (Nat.le_of_eq g1.symm)
    have sz_b1 : h0.size ≤ b1 := Nat.le_trans K.1 (Nat.le_of_eq g1.symm)
    have O := O.ext E1
    have K := K.ext E1
    have E_b1 := A1
    have F_value_b1 : Fld Z h1 b1 "java/lang/Integer" "value" "I" (.int (0 : Int32)) := D1 (Or.inr (ow hw 126 rfl)) (ty := .int) (by decide)
    refine gb st1 ?_
    show G T1 (mkF m 26 #[iv p1] [.ref b1])
    refine gb (fun _ k => XS.dup X1.here hx rfl (hb hby d12_26) rfl rfl (XS.iloadN X1.here hx rfl (hb hby d12_27) rfl k)) ?_
    show G T1 (mkF m 28 #[iv p1] [.int p1, .ref b1, .ref b1])
    obtain ⟨_, _, ⟨T2, Lz2, kz2, nz2⟩, -, X2, ⟨Lc2, hQ2, lq2, yq2, zq2⟩, st2⟩ := X1.specialBack hx (y := (⟨"java/lang/Integer", "<init>", "(I)V"⟩ : MethodName)) rfl hown (mvT hZ (ow hw 114 rfl)) (mvT hZ (ow hw 115 rfl)) (mvT hZ (ow hw 117 rfl)) (by decide) (backOf (W := 1) (rmII l Z a0 hw [] b1 p1 h1 n0 O E_b1 F_value_b1 g_b1) hZ (ow hw 117 rfl) (ow hw 80 rfl) (by decide) (by decide)) (g := (mkF m 28 #[iv p1] [.int p1, .ref b1, .ref b1])) rfl (by rw [hml]; rfl) (Steps.refl _) (a := b1) (argsL := [(.int p1)]) (rest := [(.ref b1)]) (lenOf pd_14 rfl) rfl (by show 2 * 0 + _ ≤ _; exact Nat.le_of_eq rfl) (hb hby d12_28) (fun _ _ => ⟨rfl, e1, (by decide : 1 + 0 ≤ _), (by decide : 1 + 0 ≤ _)⟩)
    dsimp only [Pt.U, Pt.locs, Pt.cells, Pt.slots] at X2 lq2 yq2 zq2 st2 hQ2
    subst lq2 yq2 zq2
    obtain ⟨h2, e2⟩ : ∃ z, z = T2.heap := ⟨_, rfl⟩
    rw [← e2] at hQ2
    replace e2 := e2.symm
    obtain ⟨rfl, Nq2, Kq2, hR2⟩ := hQ2
    have N := Fr.app N Nq2
    have E_b1 := E_b1.keep Kq2
    have E_b1 := hR2
    have O := O.keep Kq2 (allS g_b1 all0)
    have K := K.trans Kq2 (allS (Or.inr sz_b1) all0)
    refine gb (fun _ k => st2.trans k) ?_
    show G T2 (mkF m 31 #[iv p1] [.ref b1])
    exact go X2 (v := (some (.ref b1))) (fun h => by rw [Bd.returns] at h; cases h) (fun fs hr => retOut X2 hx Bd.returns rfl (Or.inr (Or.inr (Or.inr (Or.inr ⟨rfl, rfl, rfl⟩)))) (hb hby d12_31) hr) (by rw [e2]; exact ⟨_, rfl, N, K, E_b1⟩) (by decide) (by decide)
  · skip
    refine gb (fun _ k => XS.icmpNo X0.here hx rfl (hb hby d12_3) rfl (flt hc3).1 (XS.iloadN X0.here hx rfl (hb hby d12_6) rfl k)) ?_
    show G s₁ (mkF m 7 #[iv p1] [.int p1])
    obtain ⟨T3, X3, e3, st3⟩ := getS2 X0 hx hZ hown (host := "") (Or.inl (ow hw 82 rfl)) Via.refl e0 (S_high.ext O.2) (g := (mkF m 7 #[iv p1] [.int p1])) rfl (hb hby d12_7)
    refine gb st3 ?_
    show G T3 (mkF m 10 #[iv p1] [.int 127, .int p1])
    by_cases hc10 : (127 : Int32) < p1
    · skip
      refine gb (fun _ k => XS.icmpYes X3.here hx rfl (pc0 := 10) (pc' := 23) rfl (hb hby d12_10) rfl (tlt hc10).2.2.1 (by decide) (by decide) k) ?_
      show G T3 (mkF m 23 #[iv p1] [])
      obtain ⟨T4, h4, X4, e4, E4, A4, D4, U4, st4⟩ := newO X3 hx hZ hown (ow hw 112 rfl) (ow hw 113 rfl) (ow hw 80 rfl) e3 (g := (mkF m 23 #[iv p1] [])) rfl (hb hby d12_23) (by decide) (by decide)
      obtain ⟨b4, g4⟩ : ∃ z, z = h0.size := ⟨_, rfl⟩
      rw [← g4] at A4 D4 U4 st4
      have g_b4 : n0 ≤ b4 := Nat.le_trans (by have := O.2.1; rw [O.1] at this; exact this) (Nat.le_of_eq g4.symm)
      have sz_b4 : h0.size ≤ b4 := Nat.le_trans K.1 (Nat.le_of_eq g4.symm)
      have O := O.ext E4
      have K := K.ext E4
      have E_b4 := A4
      have F_value_b4 : Fld Z h4 b4 "java/lang/Integer" "value" "I" (.int (0 : Int32)) := D4 (Or.inr (ow hw 126 rfl)) (ty := .int) (by decide)
      refine gb st4 ?_
      show G T4 (mkF m 26 #[iv p1] [.ref b4])
      refine gb (fun _ k => XS.dup X4.here hx rfl (hb hby d12_26) rfl rfl (XS.iloadN X4.here hx rfl (hb hby d12_27) rfl k)) ?_
      show G T4 (mkF m 28 #[iv p1] [.int p1, .ref b4, .ref b4])
      obtain ⟨_, _, ⟨T5, Lz5, kz5, nz5⟩, -, X5, ⟨Lc5, hQ5, lq5, yq5, zq5⟩, st5⟩ := X4.specialBack hx (y := (⟨"java/lang/Integer", "<init>", "(I)V"⟩ : MethodName)) rfl hown (mvT hZ (ow hw 114 rfl)) (mvT hZ (ow hw 115 rfl)) (mvT hZ (ow hw 117 rfl)) (by decide) (backOf (W := 1) (rmII l Z a0 hw [] b4 p1 h4 n0 O E_b4 F_value_b4 g_b4) hZ (ow hw 117 rfl) (ow hw 80 rfl) (by decide) (by decide)) (g := (mkF m 28 #[iv p1] [.int p1, .ref b4, .ref b4])) rfl (by rw [hml]; rfl) (Steps.refl _) (a := b4) (argsL := [(.int p1)]) (rest := [(.ref b4)]) (lenOf pd_14 rfl) rfl (by show 2 * 0 + _ ≤ _; exact Nat.le_of_eq rfl) (hb hby d12_28) (fun _ _ => ⟨rfl, e4, (by decide : 1 + 0 ≤ _), (by decide : 1 + 0 ≤ _)⟩)
      dsimp only [Pt.U, Pt.locs, Pt.cells, Pt.slots] at X5 lq5 yq5 zq5 st5 hQ5
      subst lq5 yq5 zq5
      obtain ⟨h5, e5⟩ : ∃ z, z = T5.heap := ⟨_, rfl⟩
      rw [← e5] at hQ5
      replace e5 := e5.symm
      obtain ⟨rfl, Nq5, Kq5, hR5⟩ := hQ5
      have N := Fr.app N Nq5
      have E_b4 := E_b4.keep Kq5
      have E_b4 := hR5
      have O := O.keep Kq5 (allS g_b4 all0)
      have K := K.trans Kq5 (allS (Or.inr sz_b4) all0)
      refine gb (fun _ k => st5.trans k) ?_
      show G T5 (mkF m 31 #[iv p1] [.ref b4])
      exact go X5 (v := (some (.ref b4))) (fun h => by rw [Bd.returns] at h; cases h) (fun fs hr => retOut X5 hx Bd.returns rfl (Or.inr (Or.inr (Or.inr (Or.inr ⟨rfl, rfl, rfl⟩)))) (hb hby d12_31) hr) (by rw [e5]; exact ⟨_, rfl, N, K, E_b4⟩) (by decide) (by decide)
    · skip
      refine gb (fun _ k => XS.icmpNo X3.here hx rfl (hb hby d12_10) rfl (flt hc10).2.2.1 k) ?_
      show G T3 (mkF m 13 #[iv p1] [])
      obtain ⟨T6, X6, e6, st6⟩ := getS2 X3 hx hZ hown (host := "") (Or.inl (ow hw 84 rfl)) Via.refl e3 (S_cache.ext O.2) (g := (mkF m 13 #[iv p1] [])) rfl (hb hby d12_13)
      refine gb st6 ?_
      show G T6 (mkF m 16 #[iv p1] [.ref wC])
      refine gb (fun _ k => XS.iloadN X6.here hx rfl (hb hby d12_16) rfl (XS.sipush X6.here hx rfl (hb hby d12_17) (XS.iadd X6.here hx rfl (hb hby d12_20) rfl k))) ?_
      show G T6 (mkF m 21 #[iv p1] [.int (p1 + (128 : Int32)), .ref wC])
      have hin := own_cache Bx.2.1 hc3 hc10
      obtain ⟨tb, hel, Etb, -⟩ := Bx.2.2.2 (p1 + (128 : Int32)) hin
      have Etb := Etb.ext O.2
      have ArE := Bx.1.ext O.2
      refine gb (X6.aaload hx (j := (p1 + (128 : Int32))) (v := .ref tb) (by rw [e6]; exact ArE.1) (State.isArrayOf_alike hZ.alike ArE.2.1) rfl ArE.2.2 hin hel (g := (mkF m 21 #[iv p1] [.int (p1 + (128 : Int32)), .ref wC])) rfl rfl (hb hby d12_21)) ?_
      show G T6 (mkF m 22 #[iv p1] [.ref tb])
      exact go X6 (v := (some (.ref tb))) (fun h => by rw [Bd.returns] at h; cases h) (fun fs hr => retOut X6 hx Bd.returns rfl (Or.inr (Or.inr (Or.inr (Or.inr ⟨rfl, rfl, rfl⟩)))) (hb hby d12_22) hr) (by rw [e6]; exact ⟨_, rfl, N, K, Etb⟩) (by decide) (by decide)
theorem own_in {l p : Int32} (hl : 0 ≤ l.toInt ∧ l.toInt ≤ 2) (hp : 0 ≤ p.toInt ∧ p.toInt ≤ l.toInt) : 0 ≤ p.toInt ∧ p.toInt ≤ 2 := ⟨hp.1, Int.le_trans hp.2 hl.2⟩
def Q_rm0 (Z : State) (i0 i1 i2 i3 : Int32) (h0 : Heap) (n0 : Nat) (zc : Int32) (wC : Addr) : Option Value → Heap → List Loc → Prop := fun v h L => v = some (.int 1) ∧ Fr n0 L
set_option maxRecDepth 65536 in
set_option maxHeartbeats 40000000 in
theorem rm0 (l : Launch) (Z : State) (a0 : Array Value) (hw : ∀ d ∈ tables_1, d.before a0 Z = true) (ws : List Jvm.Cond) (i0 i1 i2 i3 : Int32) (h0 : Heap) (n0 : Nat) (O : Old Z n0 h0) (zc : Int32) (S_cs : Sta Z Z.heap "java/lang/String" "COMPACT_STRINGS" "Z" (.int zc)) (hzc : ¬ zc = (0 : Int32)) (wC : Addr) (cC : Cell) (val : Int32 → Value) (S_high : Sta Z Z.heap "java/lang/Integer$IntegerCache" "high" "I" (.int (127 : Int32))) (S_cache : Sta Z Z.heap "java/lang/Integer$IntegerCache" "cache" "[Ljava/lang/Integer;" (.ref wC)) (Bx : Bxs Z wC cC "java/lang/Integer" "I" (256 : Int32) val) (hEL : EW Z a0 [("com/example/wrought_gate/wroughtgate/engine/SchemaLocationEqualsPinLaw", 7)]) (hHC : CHv Z [("com/example/wrought_gate/wroughtgate/engine/SchemaLocationEqualsPinLaw", 7)] Z.vm Z.heap) :
    MetFree l x (head1 (Jvm.Cond.code x code maxLocals ret :: ws) room_1) (fun a U => a = #[(.int i0), (.int i1), (.int i2), (.int i3)] ∧ Z.Warmed39 U.vm ∧ U.heap = h0 ∧ U = Z) (fun _ _ _ _ _ => True) (fun _ U o U' => ∃ v L, o = .returned v ∧ (Q_rm0 Z i0 i1 i2 i3 h0 n0 zc wC) v U'.heap L ∧ ReturnedEndW U o U' L 31 147) := by
  refine MetFree.of_bodySF (plainFor_of_name pn_3) hisR ?_
  intro p e s m args below meth c s₁ Bd hml0 hP hK
  obtain ⟨rfl, hZ, hh, hUZ⟩ := hP
  have hx := Bd.exec
  have hby := Bd.bytes
  have hml : c.maxLocals = 27 := hml0
  have hown : s.vm.findClass "com/example/wrought_gate/wroughtgate/engine/SchemaLocationEqualsPinLaw" = some m.cls := findClass_of_methodNamed Bd.named
  have hnm := (name_of_methodNamed Bd.named Bd.method).1
  have hlk := BodyLoose.notSynchronized Bd
  have X0 : Stand p l e room_1 (s.setVm s.vm) m #[(.int i0), (.int i1), (.int i2), (.int i3)] below meth c s₁ [] 0 0 := Stand.of_body Bd
  have e0 : s₁.heap = h0 := by rw [← hh, Bd.state]; rfl
  have N := Fr.nil n0
  have O0 := O
  have hS : s.Since s.vm h0.size := (State.WarmedH.refl s).since _
  have hk := Nat.le_refl h0.size
  have HR : CHr Z [("com/example/wrought_gate/wroughtgate/engine/SchemaLocationEqualsPinLaw", 7)] s.vm h0 s.vm h0 := CHr.refl (by rw [← hh, hUZ]; exact hHC)
  obtain ⟨G, hG⟩ : ∃ G : State → JFrame → Prop, G = OwnGW p e below s 31 147 (Q_rm0 Z i0 i1 i2 i3 h0 n0 zc wC) := ⟨_, rfl⟩
  have gb : ∀ {T T' : State} {g g' : JFrame}, (∀ t, Steps p.tables e below (T'.setTop g') t → Steps p.tables e below (T.setTop g) t) → G T' g' → G T g := by subst hG; exact fun k h => own_byW k h
  have go : ∀ {T : State} {locs : List Loc} {cells slots : Nat} {g : JFrame} {v : Option Value} {vm : Vm} {k : Nat}, Stand p l e room_1 (s.setVm vm) m #[(.int i0), (.int i1), (.int i2), (.int i3)] below meth c T locs cells slots → s.Since vm k → k ≤ T.heap.size → (meth.sig.returnType = none → v = none) → (∀ fs, (∀ (f : JFrame) (acts : List Action), f.method = m → f.locked = none → f.entered = [] → (doReturn e (T.setTop f) acts v).1 = T.setFrames fs) → Steps p.tables e below (T.setTop g) (T.setFrames fs)) → (Q_rm0 Z i0 i1 i2 i3 h0 n0 zc wC) v T.heap locs → cells ≤ 31 → slots ≤ 147 → G T g := by subst hG; exact fun X a b h1 h2 h3 h4 h5 => own_outW X a b hlk h1 h2 h3 h4 h5
  show OwnGW p e below s 31 147 (Q_rm0 Z i0 i1 i2 i3 h0 n0 zc wC) s₁ (entryFrame m #[(.int i0), (.int i1), (.int i2), (.int i3)] maxLocals)
  rw [← hG, ef_rm0 m i0 i1 i2 i3]
  clear hG
  show G s₁ (mkF m 0 #[.val (.int i0), .val (.int i1), .val (.int i2), .val (.int i3), .unset, .unset, .unset, .unset, .unset, .unset, .unset, .unset, .unset, .unset, .unset, .unset, .unset, .unset, .unset, .unset, .unset, .unset, .unset, .unset, .unset, .unset, .unset] [])
  refine gb (fun _ k => XS.iloadN X0.here hx rfl (hb hby at_0) rfl (XS.iconst X0.here hx rfl (hb hby at_1) (XS.iand X0.here hx rfl (hb hby at_2) rfl (XS.iconst X0.here hx rfl (hb hby at_3) (iremM X0 hx rfl (hb hby at_4) rfl (by decide) (XS.istore X0.here hx rfl (hb hby at_5) rfl (l' := #[iv i0, iv i1, iv i2, iv i3, iv ((i0 &&& (3 : Int32)) % (3 : Int32)), .unset, .unset, .unset, .unset, .unset, .unset, .unset, .unset, .unset, .unset, .unset, .unset, .unset, .unset, .unset, .unset, .unset, .unset, .unset, .unset, .unset, .unset]) rfl k)))))) ?_
  show G s₁ (mkF m 7 #[iv i0, iv i1, iv i2, iv i3, iv ((i0 &&& (3 : Int32)) % (3 : Int32)), .unset, .unset, .unset, .unset, .unset, .unset, .unset, .unset, .unset, .unset, .unset, .unset, .unset, .unset, .unset, .unset, .unset, .unset, .unset, .unset, .unset, .unset] [])
  have J1 : ∀ (T1 : State) (locs1 : List Loc) (vm1 : Vm) (kn1 : Nat) (hS : s.Since vm1 kn1) (hk : kn1 ≤ h0.size) (hZ : Z.Warmed39 (s.setVm vm1).vm) (hown : (s.setVm vm1).vm.findClass "com/example/wrought_gate/wroughtgate/engine/SchemaLocationEqualsPinLaw" = some m.cls) (X1 : Stand p l e room_1 (s.setVm vm1) m #[(.int i0), (.int i1), (.int i2), (.int i3)] below meth c T1 locs1 0 0) (N : Fr n0 locs1) (e1 : T1.heap = h0) (HR : CHr Z [("com/example/wrought_gate/wroughtgate/engine/SchemaLocationEqualsPinLaw", 7)] s.vm h0 vm1 h0)   (la : Int32) (hla : 0 ≤ la.toInt ∧ la.toInt ≤ 2), G T1 (mkF m 7 #[iv i0, iv i1, iv i2, iv i3, iv la, .unset, .unset, .unset, .unset, .unset, .unset, .unset, .unset, .unset, .unset, .unset, .unset, .unset, .unset, .unset, .unset, .unset, .unset, .unset, .unset, .unset, .unset] []) := by
    intro T1 locs1 vm1 kn1 hS hk hZ hown X1 N e1 HR la hla
    show G T1 (mkF m 7 #[iv i0, iv i1, iv i2, iv i3, iv la, .unset, .unset, .unset, .unset, .unset, .unset, .unset, .unset, .unset, .unset, .unset, .unset, .unset, .unset, .unset, .unset, .unset, .unset, .unset, .unset, .unset, .unset] [])
    refine gb (fun _ k => XS.iloadN X1.here hx rfl (hb hby at_7) rfl (XS.iconst X1.here hx rfl (hb hby at_8) (XS.iushr X1.here hx rfl (hb hby at_9) rfl (XS.sipush X1.here hx rfl (hb hby at_10) (XS.iand X1.here hx rfl (hb hby at_13) rfl (XS.i2c X1.here hx rfl (hb hby at_14) rfl k)))))) ?_
    show G T1 (mkF m 15 #[iv i0, iv i1, iv i2, iv i3, iv la, .unset, .unset, .unset, .unset, .unset, .unset, .unset, .unset, .unset, .unset, .unset, .unset, .unset, .unset, .unset, .unset, .unset, .unset, .unset, .unset, .unset, .unset] [.int ((((i0.toUInt32 >>> ((2 : Int32) &&& 31).toUInt32).toInt32) &&& (255 : Int32)).toUInt32.toUInt16.toUInt32.toInt32)])
    rw [own_c8]
    show G T1 (mkF m 15 #[iv i0, iv i1, iv i2, iv i3, iv la, .unset, .unset, .unset, .unset, .unset, .unset, .unset, .unset, .unset, .unset, .unset, .unset, .unset, .unset, .unset, .unset, .unset, .unset, .unset, .unset, .unset, .unset] [.int (((i0.toUInt32 >>> ((2 : Int32) &&& 31).toUInt32).toInt32) &&& (255 : Int32))])
    refine gb (fun _ k => XS.istore X1.here hx rfl (hb hby at_15) rfl (l' := #[iv i0, iv i1, iv i2, iv i3, iv la, iv (((i0.toUInt32 >>> ((2 : Int32) &&& 31).toUInt32).toInt32) &&& (255 : Int32)), .unset, .unset, .unset, .unset, .unset, .unset, .unset, .unset, .unset, .unset, .unset, .unset, .unset, .unset, .unset, .unset, .unset, .unset, .unset, .unset, .unset]) rfl (XS.iloadN X1.here hx rfl (hb hby at_17) rfl (XS.bipush X1.here hx rfl (hb hby at_18) (XS.iushr X1.here hx rfl (hb hby at_20) rfl (XS.sipush X1.here hx rfl (hb hby at_21) (XS.iand X1.here hx rfl (hb hby at_24) rfl k)))))) ?_
    show G T1 (mkF m 25 #[iv i0, iv i1, iv i2, iv i3, iv la, iv (((i0.toUInt32 >>> ((2 : Int32) &&& 31).toUInt32).toInt32) &&& (255 : Int32)), .unset, .unset, .unset, .unset, .unset, .unset, .unset, .unset, .unset, .unset, .unset, .unset, .unset, .unset, .unset, .unset, .unset, .unset, .unset, .unset, .unset] [.int (((i0.toUInt32 >>> ((10 : Int32) &&& 31).toUInt32).toInt32) &&& (255 : Int32))])
    refine gb (fun _ k => XS.i2c X1.here hx rfl (hb hby at_25) rfl k) ?_
    show G T1 (mkF m 26 #[iv i0, iv i1, iv i2, iv i3, iv la, iv (((i0.toUInt32 >>> ((2 : Int32) &&& 31).toUInt32).toInt32) &&& (255 : Int32)), .unset, .unset, .unset, .unset, .unset, .unset, .unset, .unset, .unset, .unset, .unset, .unset, .unset, .unset, .unset, .unset, .unset, .unset, .unset, .unset, .unset] [.int ((((i0.toUInt32 >>> ((10 : Int32) &&& 31).toUInt32).toInt32) &&& (255 : Int32)).toUInt32.toUInt16.toUInt32.toInt32)])
    rw [own_c8]
    show G T1 (mkF m 26 #[iv i0, iv i1, iv i2, iv i3, iv la, iv (((i0.toUInt32 >>> ((2 : Int32) &&& 31).toUInt32).toInt32) &&& (255 : Int32)), .unset, .unset, .unset, .unset, .unset, .unset, .unset, .unset, .unset, .unset, .unset, .unset, .unset, .unset, .unset, .unset, .unset, .unset, .unset, .unset, .unset] [.int (((i0.toUInt32 >>> ((10 : Int32) &&& 31).toUInt32).toInt32) &&& (255 : Int32))])
    refine gb (fun _ k => XS.istore X1.here hx rfl (hb hby at_26) rfl (l' := #[iv i0, iv i1, iv i2, iv i3, iv la, iv (((i0.toUInt32 >>> ((2 : Int32) &&& 31).toUInt32).toInt32) &&& (255 : Int32)), iv (((i0.toUInt32 >>> ((10 : Int32) &&& 31).toUInt32).toInt32) &&& (255 : Int32)), .unset, .unset, .unset, .unset, .unset, .unset, .unset, .unset, .unset, .unset, .unset, .unset, .unset, .unset, .unset, .unset, .unset, .unset, .unset, .unset]) rfl k) ?_
    show G T1 (mkF m 28 #[iv i0, iv i1, iv i2, iv i3, iv la, iv (((i0.toUInt32 >>> ((2 : Int32) &&& 31).toUInt32).toInt32) &&& (255 : Int32)), iv (((i0.toUInt32 >>> ((10 : Int32) &&& 31).toUInt32).toInt32) &&& (255 : Int32)), .unset, .unset, .unset, .unset, .unset, .unset, .unset, .unset, .unset, .unset, .unset, .unset, .unset, .unset, .unset, .unset, .unset, .unset, .unset, .unset] [])
    have hnz39 := own_nz hla
    have hnz53 := hnz39
    refine gb (fun _ k => XS.iloadN X1.here hx rfl (hb hby at_28) rfl (XS.bipush X1.here hx rfl (hb hby at_29) (XS.iushr X1.here hx rfl (hb hby at_31) rfl (XS.bipush X1.here hx rfl (hb hby at_32) (XS.iand X1.here hx rfl (hb hby at_34) rfl (XS.iload X1.here hx rfl (hb hby at_35) rfl k)))))) ?_
    show G T1 (mkF m 37 #[iv i0, iv i1, iv i2, iv i3, iv la, iv (((i0.toUInt32 >>> ((2 : Int32) &&& 31).toUInt32).toInt32) &&& (255 : Int32)), iv (((i0.toUInt32 >>> ((10 : Int32) &&& 31).toUInt32).toInt32) &&& (255 : Int32)), .unset, .unset, .unset, .unset, .unset, .unset, .unset, .unset, .unset, .unset, .unset, .unset, .unset, .unset, .unset, .unset, .unset, .unset, .unset, .unset] [.int la, .int (((i0.toUInt32 >>> ((18 : Int32) &&& 31).toUInt32).toInt32) &&& (31 : Int32))])
    refine gb (fun _ k => XS.iconst X1.here hx rfl (hb hby at_37) (XS.iadd X1.here hx rfl (hb hby at_38) rfl (iremM X1 hx rfl (hb hby at_39) rfl hnz39 (XS.istore X1.here hx rfl (hb hby at_40) rfl (l' := #[iv i0, iv i1, iv i2, iv i3, iv la, iv (((i0.toUInt32 >>> ((2 : Int32) &&& 31).toUInt32).toInt32) &&& (255 : Int32)), iv (((i0.toUInt32 >>> ((10 : Int32) &&& 31).toUInt32).toInt32) &&& (255 : Int32)), iv ((((i0.toUInt32 >>> ((18 : Int32) &&& 31).toUInt32).toInt32) &&& (31 : Int32)) % (la + (1 : Int32))), .unset, .unset, .unset, .unset, .unset, .unset, .unset, .unset, .unset, .unset, .unset, .unset, .unset, .unset, .unset, .unset, .unset, .unset, .unset]) rfl (XS.iloadN X1.here hx rfl (hb hby at_42) rfl (XS.bipush X1.here hx rfl (hb hby at_43) k)))))) ?_
    show G T1 (mkF m 45 #[iv i0, iv i1, iv i2, iv i3, iv la, iv (((i0.toUInt32 >>> ((2 : Int32) &&& 31).toUInt32).toInt32) &&& (255 : Int32)), iv (((i0.toUInt32 >>> ((10 : Int32) &&& 31).toUInt32).toInt32) &&& (255 : Int32)), iv ((((i0.toUInt32 >>> ((18 : Int32) &&& 31).toUInt32).toInt32) &&& (31 : Int32)) % (la + (1 : Int32))), .unset, .unset, .unset, .unset, .unset, .unset, .unset, .unset, .unset, .unset, .unset, .unset, .unset, .unset, .unset, .unset, .unset, .unset, .unset] [.int 23, .int i0])
    refine gb (fun _ k => XS.iushr X1.here hx rfl (hb hby at_45) rfl (XS.bipush X1.here hx rfl (hb hby at_46) (XS.iand X1.here hx rfl (hb hby at_48) rfl (XS.iload X1.here hx rfl (hb hby at_49) rfl (XS.iconst X1.here hx rfl (hb hby at_51) (XS.iadd X1.here hx rfl (hb hby at_52) rfl k)))))) ?_
    show G T1 (mkF m 53 #[iv i0, iv i1, iv i2, iv i3, iv la, iv (((i0.toUInt32 >>> ((2 : Int32) &&& 31).toUInt32).toInt32) &&& (255 : Int32)), iv (((i0.toUInt32 >>> ((10 : Int32) &&& 31).toUInt32).toInt32) &&& (255 : Int32)), iv ((((i0.toUInt32 >>> ((18 : Int32) &&& 31).toUInt32).toInt32) &&& (31 : Int32)) % (la + (1 : Int32))), .unset, .unset, .unset, .unset, .unset, .unset, .unset, .unset, .unset, .unset, .unset, .unset, .unset, .unset, .unset, .unset, .unset, .unset, .unset] [.int (la + (1 : Int32)), .int (((i0.toUInt32 >>> ((23 : Int32) &&& 31).toUInt32).toInt32) &&& (31 : Int32))])
    refine gb (fun _ k => iremM X1 hx rfl (hb hby at_53) rfl hnz53 (XS.istore X1.here hx rfl (hb hby at_54) rfl (l' := #[iv i0, iv i1, iv i2, iv i3, iv la, iv (((i0.toUInt32 >>> ((2 : Int32) &&& 31).toUInt32).toInt32) &&& (255 : Int32)), iv (((i0.toUInt32 >>> ((10 : Int32) &&& 31).toUInt32).toInt32) &&& (255 : Int32)), iv ((((i0.toUInt32 >>> ((18 : Int32) &&& 31).toUInt32).toInt32) &&& (31 : Int32)) % (la + (1 : Int32))), iv ((((i0.toUInt32 >>> ((23 : Int32) &&& 31).toUInt32).toInt32) &&& (31 : Int32)) % (la + (1 : Int32))), .unset, .unset, .unset, .unset, .unset, .unset, .unset, .unset, .unset, .unset, .unset, .unset, .unset, .unset, .unset, .unset, .unset, .unset]) rfl (XS.iloadN X1.here hx rfl (hb hby at_56) rfl (XS.bipush X1.here hx rfl (hb hby at_57) (XS.iushr X1.here hx rfl (hb hby at_59) rfl (XS.iconst X1.here hx rfl (hb hby at_60) k)))))) ?_
    show G T1 (mkF m 61 #[iv i0, iv i1, iv i2, iv i3, iv la, iv (((i0.toUInt32 >>> ((2 : Int32) &&& 31).toUInt32).toInt32) &&& (255 : Int32)), iv (((i0.toUInt32 >>> ((10 : Int32) &&& 31).toUInt32).toInt32) &&& (255 : Int32)), iv ((((i0.toUInt32 >>> ((18 : Int32) &&& 31).toUInt32).toInt32) &&& (31 : Int32)) % (la + (1 : Int32))), iv ((((i0.toUInt32 >>> ((23 : Int32) &&& 31).toUInt32).toInt32) &&& (31 : Int32)) % (la + (1 : Int32))), .unset, .unset, .unset, .unset, .unset, .unset, .unset, .unset, .unset, .unset, .unset, .unset, .unset, .unset, .unset, .unset, .unset, .unset] [.int 1, .int ((i0.toUInt32 >>> ((28 : Int32) &&& 31).toUInt32).toInt32)])
    refine gb (fun _ k => XS.iand X1.here hx rfl (hb hby at_61) rfl (XS.istore X1.here hx rfl (hb hby at_62) rfl (l' := #[iv i0, iv i1, iv i2, iv i3, iv la, iv (((i0.toUInt32 >>> ((2 : Int32) &&& 31).toUInt32).toInt32) &&& (255 : Int32)), iv (((i0.toUInt32 >>> ((10 : Int32) &&& 31).toUInt32).toInt32) &&& (255 : Int32)), iv ((((i0.toUInt32 >>> ((18 : Int32) &&& 31).toUInt32).toInt32) &&& (31 : Int32)) % (la + (1 : Int32))), iv ((((i0.toUInt32 >>> ((23 : Int32) &&& 31).toUInt32).toInt32) &&& (31 : Int32)) % (la + (1 : Int32))), iv (((i0.toUInt32 >>> ((28 : Int32) &&& 31).toUInt32).toInt32) &&& (1 : Int32)), .unset, .unset, .unset, .unset, .unset, .unset, .unset, .unset, .unset, .unset, .unset, .unset, .unset, .unset, .unset, .unset, .unset]) rfl (XS.iloadN X1.here hx rfl (hb hby at_64) rfl (XS.bipush X1.here hx rfl (hb hby at_65) (XS.iushr X1.here hx rfl (hb hby at_67) rfl (XS.iconst X1.here hx rfl (hb hby at_68) k)))))) ?_
    show G T1 (mkF m 69 #[iv i0, iv i1, iv i2, iv i3, iv la, iv (((i0.toUInt32 >>> ((2 : Int32) &&& 31).toUInt32).toInt32) &&& (255 : Int32)), iv (((i0.toUInt32 >>> ((10 : Int32) &&& 31).toUInt32).toInt32) &&& (255 : Int32)), iv ((((i0.toUInt32 >>> ((18 : Int32) &&& 31).toUInt32).toInt32) &&& (31 : Int32)) % (la + (1 : Int32))), iv ((((i0.toUInt32 >>> ((23 : Int32) &&& 31).toUInt32).toInt32) &&& (31 : Int32)) % (la + (1 : Int32))), iv (((i0.toUInt32 >>> ((28 : Int32) &&& 31).toUInt32).toInt32) &&& (1 : Int32)), .unset, .unset, .unset, .unset, .unset, .unset, .unset, .unset, .unset, .unset, .unset, .unset, .unset, .unset, .unset, .unset, .unset] [.int 1, .int ((i0.toUInt32 >>> ((29 : Int32) &&& 31).toUInt32).toInt32)])
    refine gb (fun _ k => XS.iand X1.here hx rfl (hb hby at_69) rfl (XS.istore X1.here hx rfl (hb hby at_70) rfl (l' := #[iv i0, iv i1, iv i2, iv i3, iv la, iv (((i0.toUInt32 >>> ((2 : Int32) &&& 31).toUInt32).toInt32) &&& (255 : Int32)), iv (((i0.toUInt32 >>> ((10 : Int32) &&& 31).toUInt32).toInt32) &&& (255 : Int32)), iv ((((i0.toUInt32 >>> ((18 : Int32) &&& 31).toUInt32).toInt32) &&& (31 : Int32)) % (la + (1 : Int32))), iv ((((i0.toUInt32 >>> ((23 : Int32) &&& 31).toUInt32).toInt32) &&& (31 : Int32)) % (la + (1 : Int32))), iv (((i0.toUInt32 >>> ((28 : Int32) &&& 31).toUInt32).toInt32) &&& (1 : Int32)), iv (((i0.toUInt32 >>> ((29 : Int32) &&& 31).toUInt32).toInt32) &&& (1 : Int32)), .unset, .unset, .unset, .unset, .unset, .unset, .unset, .unset, .unset, .unset, .unset, .unset, .unset, .unset, .unset, .unset]) rfl (XS.iloadN X1.here hx rfl (hb hby at_72) rfl (XS.sipush X1.here hx rfl (hb hby at_73) (XS.iand X1.here hx rfl (hb hby at_76) rfl (XS.i2c X1.here hx rfl (hb hby at_77) rfl k)))))) ?_
    show G T1 (mkF m 78 #[iv i0, iv i1, iv i2, iv i3, iv la, iv (((i0.toUInt32 >>> ((2 : Int32) &&& 31).toUInt32).toInt32) &&& (255 : Int32)), iv (((i0.toUInt32 >>> ((10 : Int32) &&& 31).toUInt32).toInt32) &&& (255 : Int32)), iv ((((i0.toUInt32 >>> ((18 : Int32) &&& 31).toUInt32).toInt32) &&& (31 : Int32)) % (la + (1 : Int32))), iv ((((i0.toUInt32 >>> ((23 : Int32) &&& 31).toUInt32).toInt32) &&& (31 : Int32)) % (la + (1 : Int32))), iv (((i0.toUInt32 >>> ((28 : Int32) &&& 31).toUInt32).toInt32) &&& (1 : Int32)), iv (((i0.toUInt32 >>> ((29 : Int32) &&& 31).toUInt32).toInt32) &&& (1 : Int32)), .unset, .unset, .unset, .unset, .unset, .unset, .unset, .unset, .unset, .unset, .unset, .unset, .unset, .unset, .unset, .unset] [.int ((i2 &&& (255 : Int32)).toUInt32.toUInt16.toUInt32.toInt32)])
    rw [own_c8]
    show G T1 (mkF m 78 #[iv i0, iv i1, iv i2, iv i3, iv la, iv (((i0.toUInt32 >>> ((2 : Int32) &&& 31).toUInt32).toInt32) &&& (255 : Int32)), iv (((i0.toUInt32 >>> ((10 : Int32) &&& 31).toUInt32).toInt32) &&& (255 : Int32)), iv ((((i0.toUInt32 >>> ((18 : Int32) &&& 31).toUInt32).toInt32) &&& (31 : Int32)) % (la + (1 : Int32))), iv ((((i0.toUInt32 >>> ((23 : Int32) &&& 31).toUInt32).toInt32) &&& (31 : Int32)) % (la + (1 : Int32))), iv (((i0.toUInt32 >>> ((28 : Int32) &&& 31).toUInt32).toInt32) &&& (1 : Int32)), iv (((i0.toUInt32 >>> ((29 : Int32) &&& 31).toUInt32).toInt32) &&& (1 : Int32)), .unset, .unset, .unset, .unset, .unset, .unset, .unset, .unset, .unset, .unset, .unset, .unset, .unset, .unset, .unset, .unset] [.int (i2 &&& (255 : Int32))])
    refine gb (fun _ k => XS.istore X1.here hx rfl (hb hby at_78) rfl (l' := #[iv i0, iv i1, iv i2, iv i3, iv la, iv (((i0.toUInt32 >>> ((2 : Int32) &&& 31).toUInt32).toInt32) &&& (255 : Int32)), iv (((i0.toUInt32 >>> ((10 : Int32) &&& 31).toUInt32).toInt32) &&& (255 : Int32)), iv ((((i0.toUInt32 >>> ((18 : Int32) &&& 31).toUInt32).toInt32) &&& (31 : Int32)) % (la + (1 : Int32))), iv ((((i0.toUInt32 >>> ((23 : Int32) &&& 31).toUInt32).toInt32) &&& (31 : Int32)) % (la + (1 : Int32))), iv (((i0.toUInt32 >>> ((28 : Int32) &&& 31).toUInt32).toInt32) &&& (1 : Int32)), iv (((i0.toUInt32 >>> ((29 : Int32) &&& 31).toUInt32).toInt32) &&& (1 : Int32)), iv (i2 &&& (255 : Int32)), .unset, .unset, .unset, .unset, .unset, .unset, .unset, .unset, .unset, .unset, .unset, .unset, .unset, .unset, .unset]) rfl k) ?_
    show G T1 (mkF m 80 #[iv i0, iv i1, iv i2, iv i3, iv la, iv (((i0.toUInt32 >>> ((2 : Int32) &&& 31).toUInt32).toInt32) &&& (255 : Int32)), iv (((i0.toUInt32 >>> ((10 : Int32) &&& 31).toUInt32).toInt32) &&& (255 : Int32)), iv ((((i0.toUInt32 >>> ((18 : Int32) &&& 31).toUInt32).toInt32) &&& (31 : Int32)) % (la + (1 : Int32))), iv ((((i0.toUInt32 >>> ((23 : Int32) &&& 31).toUInt32).toInt32) &&& (31 : Int32)) % (la + (1 : Int32))), iv (((i0.toUInt32 >>> ((28 : Int32) &&& 31).toUInt32).toInt32) &&& (1 : Int32)), iv (((i0.toUInt32 >>> ((29 : Int32) &&& 31).toUInt32).toInt32) &&& (1 : Int32)), iv (i2 &&& (255 : Int32)), .unset, .unset, .unset, .unset, .unset, .unset, .unset, .unset, .unset, .unset, .unset, .unset, .unset, .unset, .unset] [])
    have J2 : ∀ (T2 : State) (locs2 : List Loc) (vm2 : Vm) (kn2 : Nat) (hS : s.Since vm2 kn2) (hk : kn2 ≤ h0.size) (hZ : Z.Warmed39 (s.setVm vm2).vm) (hown : (s.setVm vm2).vm.findClass "com/example/wrought_gate/wroughtgate/engine/SchemaLocationEqualsPinLaw" = some m.cls) (X2 : Stand p l e room_1 (s.setVm vm2) m #[(.int i0), (.int i1), (.int i2), (.int i3)] below meth c T2 locs2 0 0) (N : Fr n0 locs2) (e2 : T2.heap = h0) (HR : CHr Z [("com/example/wrought_gate/wroughtgate/engine/SchemaLocationEqualsPinLaw", 7)] s.vm h0 vm2 h0)   (ca : Int32) (cb : Int32) (pa : Int32) (ra : Int32) (ia : Int32) (ka : Int32) (da : Int32) (hg_ca : ¬ ca < (0 : Int32)) (hb_ca : ¬ (255 : Int32) < ca) (hg_cb : ¬ cb < (0 : Int32)) (hb_cb : ¬ (255 : Int32) < cb) (hpa : 0 ≤ pa.toInt ∧ pa.toInt ≤ la.toInt) (hra : 0 ≤ ra.toInt ∧ ra.toInt ≤ la.toInt) (hia : ia = 0 ∨ ia = 1) (hka : ka = 0 ∨ ka = 1) (hg_da : ¬ da < (0 : Int32)) (hb_da : ¬ (255 : Int32) < da), G T2 (mkF m 80 #[iv i0, iv i1, iv i2, iv i3, iv la, iv ca, iv cb, iv pa, iv ra, iv ia, iv ka, iv da, .unset, .unset, .unset, .unset, .unset, .unset, .unset, .unset, .unset, .unset, .unset, .unset, .unset, .unset, .unset] []) := by
      intro T2 locs2 vm2 kn2 hS hk hZ hown X2 N e2 HR ca cb pa ra ia ka da hg_ca hb_ca hg_cb hb_cb hpa hra hia hka hg_da hb_da
      show G T2 (mkF m 80 #[iv i0, iv i1, iv i2, iv i3, iv la, iv ca, iv cb, iv pa, iv ra, iv ia, iv ka, iv da, .unset, .unset, .unset, .unset, .unset, .unset, .unset, .unset, .unset, .unset, .unset, .unset, .unset, .unset, .unset] [])
      refine gb (fun _ k => XS.iloadN X2.here hx rfl (hb hby at_80) rfl (XS.iconst X2.here hx rfl (hb hby at_81) k)) ?_
      show G T2 (mkF m 82 #[iv i0, iv i1, iv i2, iv i3, iv la, iv ca, iv cb, iv pa, iv ra, iv ia, iv ka, iv da, .unset, .unset, .unset, .unset, .unset, .unset, .unset, .unset, .unset, .unset, .unset, .unset, .unset, .unset, .unset] [.int 1, .int i3])
      have J3 : ∀ (T3 : State) (locs3 : List Loc) (vm3 : Vm) (kn3 : Nat) (hS : s.Since vm3 kn3) (hk : kn3 ≤ h0.size) (hZ : Z.Warmed39 (s.setVm vm3).vm) (hown : (s.setVm vm3).vm.findClass "com/example/wrought_gate/wroughtgate/engine/SchemaLocationEqualsPinLaw" = some m.cls) (X3 : Stand p l e room_1 (s.setVm vm3) m #[(.int i0), (.int i1), (.int i2), (.int i3)] below meth c T3 locs3 0 0) (N : Fr n0 locs3) (e3 : T3.heap = h0) (HR : CHr Z [("com/example/wrought_gate/wroughtgate/engine/SchemaLocationEqualsPinLaw", 7)] s.vm h0 vm3 h0)   (lb : Int32) (hlb : 0 ≤ lb.toInt ∧ lb.toInt ≤ 2), G T3 (mkF m 96 #[iv i0, iv i1, iv i2, iv i3, iv la, iv ca, iv cb, iv pa, iv ra, iv ia, iv ka, iv da, .unset, .unset, .unset, .unset, .unset, .unset, .unset, .unset, .unset, .unset, .unset, .unset, .unset, .unset, .unset] [.int lb]) := by
        intro T3 locs3 vm3 kn3 hS hk hZ hown X3 N e3 HR lb hlb
        show G T3 (mkF m 96 #[iv i0, iv i1, iv i2, iv i3, iv la, iv ca, iv cb, iv pa, iv ra, iv ia, iv ka, iv da, .unset, .unset, .unset, .unset, .unset, .unset, .unset, .unset, .unset, .unset, .unset, .unset, .unset, .unset, .unset] [.int lb])
        refine gb (fun _ k => XS.istore X3.here hx rfl (hb hby at_96) rfl (l' := #[iv i0, iv i1, iv i2, iv i3, iv la, iv ca, iv cb, iv pa, iv ra, iv ia, iv ka, iv da, iv lb, .unset, .unset, .unset, .unset, .unset, .unset, .unset, .unset, .unset, .unset, .unset, .unset, .unset, .unset]) rfl (XS.iloadN X3.here hx rfl (hb hby at_98) rfl (XS.iconst X3.here hx rfl (hb hby at_99) k))) ?_
        show G T3 (mkF m 100 #[iv i0, iv i1, iv i2, iv i3, iv la, iv ca, iv cb, iv pa, iv ra, iv ia, iv ka, iv da, iv lb, .unset, .unset, .unset, .unset, .unset, .unset, .unset, .unset, .unset, .unset, .unset, .unset, .unset, .unset] [.int 2, .int i3])
        have J4 : ∀ (T4 : State) (locs4 : List Loc) (vm4 : Vm) (kn4 : Nat) (hS : s.Since vm4 kn4) (hk : kn4 ≤ h0.size) (hZ : Z.Warmed39 (s.setVm vm4).vm) (hown : (s.setVm vm4).vm.findClass "com/example/wrought_gate/wroughtgate/engine/SchemaLocationEqualsPinLaw" = some m.cls) (X4 : Stand p l e room_1 (s.setVm vm4) m #[(.int i0), (.int i1), (.int i2), (.int i3)] below meth c T4 locs4 0 0) (N : Fr n0 locs4) (e4 : T4.heap = h0) (HR : CHr Z [("com/example/wrought_gate/wroughtgate/engine/SchemaLocationEqualsPinLaw", 7)] s.vm h0 vm4 h0)   (cc : Int32) (hg_cc : ¬ cc < (0 : Int32)) (hb_cc : ¬ (255 : Int32) < cc), G T4 (mkF m 117 #[iv i0, iv i1, iv i2, iv i3, iv la, iv ca, iv cb, iv pa, iv ra, iv ia, iv ka, iv da, iv lb, .unset, .unset, .unset, .unset, .unset, .unset, .unset, .unset, .unset, .unset, .unset, .unset, .unset, .unset] [.int cc]) := by
          intro T4 locs4 vm4 kn4 hS hk hZ hown X4 N e4 HR cc hg_cc hb_cc
          show G T4 (mkF m 117 #[iv i0, iv i1, iv i2, iv i3, iv la, iv ca, iv cb, iv pa, iv ra, iv ia, iv ka, iv da, iv lb, .unset, .unset, .unset, .unset, .unset, .unset, .unset, .unset, .unset, .unset, .unset, .unset, .unset, .unset] [.int cc])
          refine gb (fun _ k => XS.istore X4.here hx rfl (hb hby at_117) rfl (l' := #[iv i0, iv i1, iv i2, iv i3, iv la, iv ca, iv cb, iv pa, iv ra, iv ia, iv ka, iv da, iv lb, iv cc, .unset, .unset, .unset, .unset, .unset, .unset, .unset, .unset, .unset, .unset, .unset, .unset, .unset]) rfl (XS.iloadN X4.here hx rfl (hb hby at_119) rfl (XS.iconst X4.here hx rfl (hb hby at_120) k))) ?_
          show G T4 (mkF m 121 #[iv i0, iv i1, iv i2, iv i3, iv la, iv ca, iv cb, iv pa, iv ra, iv ia, iv ka, iv da, iv lb, iv cc, .unset, .unset, .unset, .unset, .unset, .unset, .unset, .unset, .unset, .unset, .unset, .unset, .unset] [.int 4, .int i3])
          have J5 : ∀ (T5 : State) (locs5 : List Loc) (vm5 : Vm) (kn5 : Nat) (hS : s.Since vm5 kn5) (hk : kn5 ≤ h0.size) (hZ : Z.Warmed39 (s.setVm vm5).vm) (hown : (s.setVm vm5).vm.findClass "com/example/wrought_gate/wroughtgate/engine/SchemaLocationEqualsPinLaw" = some m.cls) (X5 : Stand p l e room_1 (s.setVm vm5) m #[(.int i0), (.int i1), (.int i2), (.int i3)] below meth c T5 locs5 0 0) (N : Fr n0 locs5) (e5 : T5.heap = h0) (HR : CHr Z [("com/example/wrought_gate/wroughtgate/engine/SchemaLocationEqualsPinLaw", 7)] s.vm h0 vm5 h0)   (ce : Int32) (hg_ce : ¬ ce < (0 : Int32)) (hb_ce : ¬ (255 : Int32) < ce), G T5 (mkF m 139 #[iv i0, iv i1, iv i2, iv i3, iv la, iv ca, iv cb, iv pa, iv ra, iv ia, iv ka, iv da, iv lb, iv cc, .unset, .unset, .unset, .unset, .unset, .unset, .unset, .unset, .unset, .unset, .unset, .unset, .unset] [.int ce]) := by
            intro T5 locs5 vm5 kn5 hS hk hZ hown X5 N e5 HR ce hg_ce hb_ce
            show G T5 (mkF m 139 #[iv i0, iv i1, iv i2, iv i3, iv la, iv ca, iv cb, iv pa, iv ra, iv ia, iv ka, iv da, iv lb, iv cc, .unset, .unset, .unset, .unset, .unset, .unset, .unset, .unset, .unset, .unset, .unset, .unset, .unset] [.int ce])
            refine gb (fun _ k => XS.istore X5.here hx rfl (hb hby at_139) rfl (l' := #[iv i0, iv i1, iv i2, iv i3, iv la, iv ca, iv cb, iv pa, iv ra, iv ia, iv ka, iv da, iv lb, iv cc, iv ce, .unset, .unset, .unset, .unset, .unset, .unset, .unset, .unset, .unset, .unset, .unset, .unset]) rfl (XS.iloadN X5.here hx rfl (hb hby at_141) rfl (XS.bipush X5.here hx rfl (hb hby at_142) k))) ?_
            show G T5 (mkF m 144 #[iv i0, iv i1, iv i2, iv i3, iv la, iv ca, iv cb, iv pa, iv ra, iv ia, iv ka, iv da, iv lb, iv cc, iv ce, .unset, .unset, .unset, .unset, .unset, .unset, .unset, .unset, .unset, .unset, .unset, .unset] [.int 8, .int i3])
            have J6 : ∀ (T6 : State) (locs6 : List Loc) (vm6 : Vm) (kn6 : Nat) (hS : s.Since vm6 kn6) (hk : kn6 ≤ h0.size) (hZ : Z.Warmed39 (s.setVm vm6).vm) (hown : (s.setVm vm6).vm.findClass "com/example/wrought_gate/wroughtgate/engine/SchemaLocationEqualsPinLaw" = some m.cls) (X6 : Stand p l e room_1 (s.setVm vm6) m #[(.int i0), (.int i1), (.int i2), (.int i3)] below meth c T6 locs6 0 0) (N : Fr n0 locs6) (e6 : T6.heap = h0) (HR : CHr Z [("com/example/wrought_gate/wroughtgate/engine/SchemaLocationEqualsPinLaw", 7)] s.vm h0 vm6 h0)   (qp : Int32) (hqp : 0 ≤ qp.toInt), G T6 (mkF m 160 #[iv i0, iv i1, iv i2, iv i3, iv la, iv ca, iv cb, iv pa, iv ra, iv ia, iv ka, iv da, iv lb, iv cc, iv ce, .unset, .unset, .unset, .unset, .unset, .unset, .unset, .unset, .unset, .unset, .unset, .unset] [.int qp]) := by
              intro T6 locs6 vm6 kn6 hS hk hZ hown X6 N e6 HR qp hqp
              show G T6 (mkF m 160 #[iv i0, iv i1, iv i2, iv i3, iv la, iv ca, iv cb, iv pa, iv ra, iv ia, iv ka, iv da, iv lb, iv cc, iv ce, .unset, .unset, .unset, .unset, .unset, .unset, .unset, .unset, .unset, .unset, .unset, .unset] [.int qp])
              refine gb (fun _ k => XS.iload X6.here hx rfl (hb hby at_160) rfl (XS.iconst X6.here hx rfl (hb hby at_162) k)) ?_
              show G T6 (mkF m 163 #[iv i0, iv i1, iv i2, iv i3, iv la, iv ca, iv cb, iv pa, iv ra, iv ia, iv ka, iv da, iv lb, iv cc, iv ce, .unset, .unset, .unset, .unset, .unset, .unset, .unset, .unset, .unset, .unset, .unset, .unset] [.int 1, .int lb, .int qp])
              have hnz164 := own_nz hlb
              have hnz190 := hnz164
              refine gb (fun _ k => XS.iadd X6.here hx rfl (hb hby at_163) rfl (iremM X6 hx rfl (hb hby at_164) rfl hnz164 (XS.istore X6.here hx rfl (hb hby at_165) rfl (l' := #[iv i0, iv i1, iv i2, iv i3, iv la, iv ca, iv cb, iv pa, iv ra, iv ia, iv ka, iv da, iv lb, iv cc, iv ce, iv (qp % (lb + (1 : Int32))), .unset, .unset, .unset, .unset, .unset, .unset, .unset, .unset, .unset, .unset, .unset]) rfl (XS.iloadN X6.here hx rfl (hb hby at_167) rfl (XS.bipush X6.here hx rfl (hb hby at_168) k))))) ?_
              show G T6 (mkF m 170 #[iv i0, iv i1, iv i2, iv i3, iv la, iv ca, iv cb, iv pa, iv ra, iv ia, iv ka, iv da, iv lb, iv cc, iv ce, iv (qp % (lb + (1 : Int32))), .unset, .unset, .unset, .unset, .unset, .unset, .unset, .unset, .unset, .unset, .unset] [.int 16, .int i3])
              have J7 : ∀ (T7 : State) (locs7 : List Loc) (vm7 : Vm) (kn7 : Nat) (hS : s.Since vm7 kn7) (hk : kn7 ≤ h0.size) (hZ : Z.Warmed39 (s.setVm vm7).vm) (hown : (s.setVm vm7).vm.findClass "com/example/wrought_gate/wroughtgate/engine/SchemaLocationEqualsPinLaw" = some m.cls) (X7 : Stand p l e room_1 (s.setVm vm7) m #[(.int i0), (.int i1), (.int i2), (.int i3)] below meth c T7 locs7 0 0) (N : Fr n0 locs7) (e7 : T7.heap = h0) (HR : CHr Z [("com/example/wrought_gate/wroughtgate/engine/SchemaLocationEqualsPinLaw", 7)] s.vm h0 vm7 h0)   (qr : Int32) (hqr : 0 ≤ qr.toInt), G T7 (mkF m 186 #[iv i0, iv i1, iv i2, iv i3, iv la, iv ca, iv cb, iv pa, iv ra, iv ia, iv ka, iv da, iv lb, iv cc, iv ce, iv (qp % (lb + (1 : Int32))), .unset, .unset, .unset, .unset, .unset, .unset, .unset, .unset, .unset, .unset, .unset] [.int qr]) := by
                intro T7 locs7 vm7 kn7 hS hk hZ hown X7 N e7 HR qr hqr
                show G T7 (mkF m 186 #[iv i0, iv i1, iv i2, iv i3, iv la, iv ca, iv cb, iv pa, iv ra, iv ia, iv ka, iv da, iv lb, iv cc, iv ce, iv (qp % (lb + (1 : Int32))), .unset, .unset, .unset, .unset, .unset, .unset, .unset, .unset, .unset, .unset, .unset] [.int qr])
                refine gb (fun _ k => XS.iload X7.here hx rfl (hb hby at_186) rfl (XS.iconst X7.here hx rfl (hb hby at_188) (XS.iadd X7.here hx rfl (hb hby at_189) rfl (iremM X7 hx rfl (hb hby at_190) rfl hnz190 (XS.istore X7.here hx rfl (hb hby at_191) rfl (l' := #[iv i0, iv i1, iv i2, iv i3, iv la, iv ca, iv cb, iv pa, iv ra, iv ia, iv ka, iv da, iv lb, iv cc, iv ce, iv (qp % (lb + (1 : Int32))), iv (qr % (lb + (1 : Int32))), .unset, .unset, .unset, .unset, .unset, .unset, .unset, .unset, .unset, .unset]) rfl (XS.iloadN X7.here hx rfl (hb hby at_193) rfl k)))))) ?_
                show G T7 (mkF m 194 #[iv i0, iv i1, iv i2, iv i3, iv la, iv ca, iv cb, iv pa, iv ra, iv ia, iv ka, iv da, iv lb, iv cc, iv ce, iv (qp % (lb + (1 : Int32))), iv (qr % (lb + (1 : Int32))), .unset, .unset, .unset, .unset, .unset, .unset, .unset, .unset, .unset, .unset] [.int i3])
                refine gb (fun _ k => XS.bipush X7.here hx rfl (hb hby at_194) k) ?_
                show G T7 (mkF m 196 #[iv i0, iv i1, iv i2, iv i3, iv la, iv ca, iv cb, iv pa, iv ra, iv ia, iv ka, iv da, iv lb, iv cc, iv ce, iv (qp % (lb + (1 : Int32))), iv (qr % (lb + (1 : Int32))), .unset, .unset, .unset, .unset, .unset, .unset, .unset, .unset, .unset, .unset] [.int 32, .int i3])
                have J8 : ∀ (T8 : State) (locs8 : List Loc) (vm8 : Vm) (kn8 : Nat) (hS : s.Since vm8 kn8) (hk : kn8 ≤ h0.size) (hZ : Z.Warmed39 (s.setVm vm8).vm) (hown : (s.setVm vm8).vm.findClass "com/example/wrought_gate/wroughtgate/engine/SchemaLocationEqualsPinLaw" = some m.cls) (X8 : Stand p l e room_1 (s.setVm vm8) m #[(.int i0), (.int i1), (.int i2), (.int i3)] below meth c T8 locs8 0 0) (N : Fr n0 locs8) (e8 : T8.heap = h0) (HR : CHr Z [("com/example/wrought_gate/wroughtgate/engine/SchemaLocationEqualsPinLaw", 7)] s.vm h0 vm8 h0)   (ib : Int32) (hib : ib = 0 ∨ ib = 1), G T8 (mkF m 211 #[iv i0, iv i1, iv i2, iv i3, iv la, iv ca, iv cb, iv pa, iv ra, iv ia, iv ka, iv da, iv lb, iv cc, iv ce, iv (qp % (lb + (1 : Int32))), iv (qr % (lb + (1 : Int32))), .unset, .unset, .unset, .unset, .unset, .unset, .unset, .unset, .unset, .unset] [.int ib]) := by
                  intro T8 locs8 vm8 kn8 hS hk hZ hown X8 N e8 HR ib hib
                  show G T8 (mkF m 211 #[iv i0, iv i1, iv i2, iv i3, iv la, iv ca, iv cb, iv pa, iv ra, iv ia, iv ka, iv da, iv lb, iv cc, iv ce, iv (qp % (lb + (1 : Int32))), iv (qr % (lb + (1 : Int32))), .unset, .unset, .unset, .unset, .unset, .unset, .unset, .unset, .unset, .unset] [.int ib])
                  refine gb (fun _ k => XS.istore X8.here hx rfl (hb hby at_211) rfl (l' := #[iv i0, iv i1, iv i2, iv i3, iv la, iv ca, iv cb, iv pa, iv ra, iv ia, iv ka, iv da, iv lb, iv cc, iv ce, iv (qp % (lb + (1 : Int32))), iv (qr % (lb + (1 : Int32))), iv ib, .unset, .unset, .unset, .unset, .unset, .unset, .unset, .unset, .unset]) rfl (XS.iloadN X8.here hx rfl (hb hby at_213) rfl (XS.bipush X8.here hx rfl (hb hby at_214) k))) ?_
                  show G T8 (mkF m 216 #[iv i0, iv i1, iv i2, iv i3, iv la, iv ca, iv cb, iv pa, iv ra, iv ia, iv ka, iv da, iv lb, iv cc, iv ce, iv (qp % (lb + (1 : Int32))), iv (qr % (lb + (1 : Int32))), iv ib, .unset, .unset, .unset, .unset, .unset, .unset, .unset, .unset, .unset] [.int 64, .int i3])
                  have J9 : ∀ (T9 : State) (locs9 : List Loc) (vm9 : Vm) (kn9 : Nat) (hS : s.Since vm9 kn9) (hk : kn9 ≤ h0.size) (hZ : Z.Warmed39 (s.setVm vm9).vm) (hown : (s.setVm vm9).vm.findClass "com/example/wrought_gate/wroughtgate/engine/SchemaLocationEqualsPinLaw" = some m.cls) (X9 : Stand p l e room_1 (s.setVm vm9) m #[(.int i0), (.int i1), (.int i2), (.int i3)] below meth c T9 locs9 0 0) (N : Fr n0 locs9) (e9 : T9.heap = h0) (HR : CHr Z [("com/example/wrought_gate/wroughtgate/engine/SchemaLocationEqualsPinLaw", 7)] s.vm h0 vm9 h0)   (kb : Int32) (hkb : kb = 0 ∨ kb = 1), G T9 (mkF m 231 #[iv i0, iv i1, iv i2, iv i3, iv la, iv ca, iv cb, iv pa, iv ra, iv ia, iv ka, iv da, iv lb, iv cc, iv ce, iv (qp % (lb + (1 : Int32))), iv (qr % (lb + (1 : Int32))), iv ib, .unset, .unset, .unset, .unset, .unset, .unset, .unset, .unset, .unset] [.int kb]) := by
                    intro T9 locs9 vm9 kn9 hS hk hZ hown X9 N e9 HR kb hkb
                    show G T9 (mkF m 231 #[iv i0, iv i1, iv i2, iv i3, iv la, iv ca, iv cb, iv pa, iv ra, iv ia, iv ka, iv da, iv lb, iv cc, iv ce, iv (qp % (lb + (1 : Int32))), iv (qr % (lb + (1 : Int32))), iv ib, .unset, .unset, .unset, .unset, .unset, .unset, .unset, .unset, .unset] [.int kb])
                    refine gb (fun _ k => XS.istore X9.here hx rfl (hb hby at_231) rfl (l' := #[iv i0, iv i1, iv i2, iv i3, iv la, iv ca, iv cb, iv pa, iv ra, iv ia, iv ka, iv da, iv lb, iv cc, iv ce, iv (qp % (lb + (1 : Int32))), iv (qr % (lb + (1 : Int32))), iv ib, iv kb, .unset, .unset, .unset, .unset, .unset, .unset, .unset, .unset]) rfl (XS.iloadN X9.here hx rfl (hb hby at_233) rfl (XS.sipush X9.here hx rfl (hb hby at_234) k))) ?_
                    show G T9 (mkF m 237 #[iv i0, iv i1, iv i2, iv i3, iv la, iv ca, iv cb, iv pa, iv ra, iv ia, iv ka, iv da, iv lb, iv cc, iv ce, iv (qp % (lb + (1 : Int32))), iv (qr % (lb + (1 : Int32))), iv ib, iv kb, .unset, .unset, .unset, .unset, .unset, .unset, .unset, .unset] [.int 128, .int i3])
                    have J10 : ∀ (T10 : State) (locs10 : List Loc) (vm10 : Vm) (kn10 : Nat) (hS : s.Since vm10 kn10) (hk : kn10 ≤ h0.size) (hZ : Z.Warmed39 (s.setVm vm10).vm) (hown : (s.setVm vm10).vm.findClass "com/example/wrought_gate/wroughtgate/engine/SchemaLocationEqualsPinLaw" = some m.cls) (X10 : Stand p l e room_1 (s.setVm vm10) m #[(.int i0), (.int i1), (.int i2), (.int i3)] below meth c T10 locs10 0 0) (N : Fr n0 locs10) (e10 : T10.heap = h0) (HR : CHr Z [("com/example/wrought_gate/wroughtgate/engine/SchemaLocationEqualsPinLaw", 7)] s.vm h0 vm10 h0)   (db : Int32) (hg_db : ¬ db < (0 : Int32)) (hb_db : ¬ (255 : Int32) < db), G T10 (mkF m 255 #[iv i0, iv i1, iv i2, iv i3, iv la, iv ca, iv cb, iv pa, iv ra, iv ia, iv ka, iv da, iv lb, iv cc, iv ce, iv (qp % (lb + (1 : Int32))), iv (qr % (lb + (1 : Int32))), iv ib, iv kb, .unset, .unset, .unset, .unset, .unset, .unset, .unset, .unset] [.int db]) := by
                      intro T10 locs10 vm10 kn10 hS hk hZ hown X10 N e10 HR db hg_db hb_db
                      show G T10 (mkF m 255 #[iv i0, iv i1, iv i2, iv i3, iv la, iv ca, iv cb, iv pa, iv ra, iv ia, iv ka, iv da, iv lb, iv cc, iv ce, iv (qp % (lb + (1 : Int32))), iv (qr % (lb + (1 : Int32))), iv ib, iv kb, .unset, .unset, .unset, .unset, .unset, .unset, .unset, .unset] [.int db])
                      refine gb (fun _ k => XS.istore X10.here hx rfl (hb hby at_255) rfl (l' := #[iv i0, iv i1, iv i2, iv i3, iv la, iv ca, iv cb, iv pa, iv ra, iv ia, iv ka, iv da, iv lb, iv cc, iv ce, iv (qp % (lb + (1 : Int32))), iv (qr % (lb + (1 : Int32))), iv ib, iv kb, iv db, .unset, .unset, .unset, .unset, .unset, .unset, .unset]) rfl k) ?_
                      show G T10 (mkF m 257 #[iv i0, iv i1, iv i2, iv i3, iv la, iv ca, iv cb, iv pa, iv ra, iv ia, iv ka, iv da, iv lb, iv cc, iv ce, iv (qp % (lb + (1 : Int32))), iv (qr % (lb + (1 : Int32))), iv ib, iv kb, iv db, .unset, .unset, .unset, .unset, .unset, .unset, .unset] [])
                      have J11 : ∀ (T11 : State) (locs11 : List Loc) (vm11 : Vm) (kn11 : Nat) (hS : s.Since vm11 kn11) (hk : kn11 ≤ h0.size) (hZ : Z.Warmed39 (s.setVm vm11).vm) (hown : (s.setVm vm11).vm.findClass "com/example/wrought_gate/wroughtgate/engine/SchemaLocationEqualsPinLaw" = some m.cls) (X11 : Stand p l e room_1 (s.setVm vm11) m #[(.int i0), (.int i1), (.int i2), (.int i3)] below meth c T11 locs11 0 0) (N : Fr n0 locs11) (e11 : T11.heap = h0) (HR : CHr Z [("com/example/wrought_gate/wroughtgate/engine/SchemaLocationEqualsPinLaw", 7)] s.vm h0 vm11 h0)   (pb : Int32) (rb : Int32) (hpb : 0 ≤ pb.toInt ∧ pb.toInt ≤ lb.toInt) (hrb : 0 ≤ rb.toInt ∧ rb.toInt ≤ lb.toInt), G T11 (mkF m 257 #[iv i0, iv i1, iv i2, iv i3, iv la, iv ca, iv cb, iv pa, iv ra, iv ia, iv ka, iv da, iv lb, iv cc, iv ce, iv pb, iv rb, iv ib, iv kb, iv db, .unset, .unset, .unset, .unset, .unset, .unset, .unset] []) := by
                        intro T11 locs11 vm11 kn11 hS hk hZ hown X11 N e11 HR pb rb hpb hrb
                        show G T11 (mkF m 257 #[iv i0, iv i1, iv i2, iv i3, iv la, iv ca, iv cb, iv pa, iv ra, iv ia, iv ka, iv da, iv lb, iv cc, iv ce, iv pb, iv rb, iv ib, iv kb, iv db, .unset, .unset, .unset, .unset, .unset, .unset, .unset] [])
                        obtain ⟨T12, h12, X12, e12, E12, A12, D12, U12, st12⟩ := newO X11 hx hZ hown (ow hw 0 rfl) (ow hw 1 rfl) (ow hw 2 rfl) e11 (g := (mkF m 257 #[iv i0, iv i1, iv i2, iv i3, iv la, iv ca, iv cb, iv pa, iv ra, iv ia, iv ka, iv da, iv lb, iv cc, iv ce, iv pb, iv rb, iv ib, iv kb, iv db, .unset, .unset, .unset, .unset, .unset, .unset, .unset] [])) rfl (hb hby at_257) (by decide) (by decide)
                        obtain ⟨b12, g12⟩ : ∃ z, z = h0.size := ⟨_, rfl⟩
                        rw [← g12] at A12 D12 U12 st12
                        have g_b12 : n0 ≤ b12 := Nat.le_trans (by have := O.2.1; rw [O.1] at this; exact this) (Nat.le_of_eq g12.symm)
                        have HR := HR.trans (CHr.ext E12 HR.1)
                        have O := O.ext E12
                        have hk := Nat.le_trans hk E12.1
                        have E_b12 := A12
                        have F_pointer_b12 : Fld Z h12 b12 "com/example/wrought_gate/wroughtgate/engine/SchemaLocation" "pointer" "Ljava/lang/String;" .null := D12 (Or.inr (ow hw 49 rfl)) (ty := (.object "java/lang/String")) (by decide)
                        have F_partLength_b12 : Fld Z h12 b12 "com/example/wrought_gate/wroughtgate/engine/SchemaLocation" "partLength" "I" (.int (0 : Int32)) := D12 (Or.inr (ow hw 52 rfl)) (ty := .int) (by decide)
                        have F_resource_b12 : Fld Z h12 b12 "com/example/wrought_gate/wroughtgate/engine/SchemaLocation" "resource" "Ljava/lang/String;" .null := D12 (Or.inr (ow hw 61 rfl)) (ty := (.object "java/lang/String")) (by decide)
                        have F_resourceLength_b12 : Fld Z h12 b12 "com/example/wrought_gate/wroughtgate/engine/SchemaLocation" "resourceLength" "I" (.int (0 : Int32)) := D12 (Or.inr (ow hw 63 rfl)) (ty := .int) (by decide)
                        have F_identified_b12 : Fld Z h12 b12 "com/example/wrought_gate/wroughtgate/engine/SchemaLocation" "identified" "Z" (.int (0 : Int32)) := D12 (Or.inr (ow hw 65 rfl)) (ty := .boolean) (by decide)
                        refine gb st12 ?_
                        show G T12 (mkF m 260 #[iv i0, iv i1, iv i2, iv i3, iv la, iv ca, iv cb, iv pa, iv ra, iv ia, iv ka, iv da, iv lb, iv cc, iv ce, iv pb, iv rb, iv ib, iv kb, iv db, .unset, .unset, .unset, .unset, .unset, .unset, .unset] [.ref b12])
                        refine gb (fun _ k => XS.dup X12.here hx rfl (hb hby at_260) rfl rfl (XS.iload X12.here hx rfl (hb hby at_261) rfl (XS.iload X12.here hx rfl (hb hby at_263) rfl (XS.iload X12.here hx rfl (hb hby at_265) rfl k)))) ?_
                        show G T12 (mkF m 267 #[iv i0, iv i1, iv i2, iv i3, iv la, iv ca, iv cb, iv pa, iv ra, iv ia, iv ka, iv da, iv lb, iv cc, iv ce, iv pb, iv rb, iv ib, iv kb, iv db, .unset, .unset, .unset, .unset, .unset, .unset, .unset] [.int cb, .int ca, .int la, .ref b12, .ref b12])
                        have lt_b12 := E_b12.lt
                        obtain ⟨_, _, ⟨T13, Lz13, kz13, nz13⟩, -, X13, hS13, hg13, ⟨Lc13, hQ13, lq13, yq13, zq13, hC13⟩, st13⟩ := callSS X12 hx (y := (⟨"com/example/wrought_gate/wroughtgate/engine/SchemaLocationEqualsPinLaw", "str", "(ICC)Ljava/lang/String;"⟩ : MethodName)) hown (mvT hZ (ow hw 3 rfl)) (mvT hZ (ow hw 4 rfl)) (mvT hZ (ow hw 5 rfl)) (mvT hZ (ow hw 6 rfl)) (by decide) (backOfSH (W := 2) (rmS l Z a0 hw [] la ca cb h12 n0 O zc S_cs hzc hEL hla hg_ca hb_ca hg_cb hb_cb) hZ (ow hw 6 rfl) (ow hw 5 rfl) (by decide) (by decide) hEL HR.1) (g := (mkF m 267 #[iv i0, iv i1, iv i2, iv i3, iv la, iv ca, iv cb, iv pa, iv ra, iv ia, iv ka, iv da, iv lb, iv cc, iv ce, iv pb, iv rb, iv ib, iv kb, iv db, .unset, .unset, .unset, .unset, .unset, .unset, .unset] [.int cb, .int ca, .int la, .ref b12, .ref b12])) rfl (by rw [hml]; rfl) (argsL := [(.int la), (.int ca), (.int cb)]) (rest := [(.ref b12), (.ref b12)]) (lenOf pd_15 rfl) rfl (by show 2 * 0 + _ ≤ _; exact Nat.le_of_eq rfl) (hb hby at_267) (fun _ _ => ⟨rfl, e12, (by decide : 1 + 3 ≤ _), (by decide : 5 + 8 ≤ _)⟩)
                        dsimp only [Pt.U, Pt.locs, Pt.cells, Pt.slots] at X13 lq13 yq13 zq13 st13 hQ13 hS13 hg13 hC13
                        subst lq13 yq13 zq13
                        obtain ⟨X13, hS, hZ, hown⟩ := rebS hS (Nat.le_trans hk (Nat.le_of_eq (congrArg Array.size e12.symm))) X13 hS13 hg13 hZ hown
                        obtain ⟨h13, e13⟩ : ∃ z, z = T13.heap := ⟨_, rfl⟩
                        rw [← e13] at hQ13 hC13
                        replace e13 := e13.symm
                        obtain ⟨x13, b13, kb13, zz13, xs13, rfl, Nq13, Kq13, hR13⟩ := hQ13
                        have N := Fr.app N Nq13
                        have HR := HR.trans hC13
                        have E_b12 := E_b12.keep Kq13
                        have F_pointer_b12 := F_pointer_b12.keep Kq13 nin0
                        have F_partLength_b12 := F_partLength_b12.keep Kq13 nin0
                        have F_resource_b12 := F_resource_b12.keep Kq13 nin0
                        have F_resourceLength_b12 := F_resourceLength_b12.keep Kq13 nin0
                        have F_identified_b12 := F_identified_b12.keep Kq13 nin0
                        have hk := Nat.le_trans hk Kq13.1
                        have hk : T13.heap.size ≤ h13.size := by rw [e13]; exact Nat.le_refl _
                        obtain ⟨E_x13, F_coder_x13, F_value_x13, V_b13, hz13, hzp13, hxs13⟩ := hR13
                        have O := O.keep Kq13 all0
                        refine gb (fun _ k => st13.trans k) ?_
                        show G T13 (mkF m 270 #[iv i0, iv i1, iv i2, iv i3, iv la, iv ca, iv cb, iv pa, iv ra, iv ia, iv ka, iv da, iv lb, iv cc, iv ce, iv pb, iv rb, iv ib, iv kb, iv db, .unset, .unset, .unset, .unset, .unset, .unset, .unset] [.ref x13, .ref b12, .ref b12])
                        refine gb (fun _ k => XS.iload X13.here hx rfl (hb hby at_270) rfl (XS.iload X13.here hx rfl (hb hby at_272) rfl (XS.iload X13.here hx rfl (hb hby at_274) rfl k))) ?_
                        show G T13 (mkF m 276 #[iv i0, iv i1, iv i2, iv i3, iv la, iv ca, iv cb, iv pa, iv ra, iv ia, iv ka, iv da, iv lb, iv cc, iv ce, iv pb, iv rb, iv ib, iv kb, iv db, .unset, .unset, .unset, .unset, .unset, .unset, .unset] [.int cb, .int ca, .int pa, .ref x13, .ref b12, .ref b12])
                        have lt_b12 := E_b12.lt
                        have lt_x13 := E_x13.lt
                        have lt_b13 := V_b13.lt
                        obtain ⟨_, _, ⟨T14, Lz14, kz14, nz14⟩, -, X14, hS14, hg14, ⟨Lc14, hQ14, lq14, yq14, zq14, hC14⟩, st14⟩ := callSS X13 hx (y := (⟨"com/example/wrought_gate/wroughtgate/engine/SchemaLocationEqualsPinLaw", "str", "(ICC)Ljava/lang/String;"⟩ : MethodName)) hown (mvT hZ (ow hw 3 rfl)) (mvT hZ (ow hw 4 rfl)) (mvT hZ (ow hw 5 rfl)) (mvT hZ (ow hw 6 rfl)) (by decide) (backOfSH (W := 3) (rmS l Z a0 hw [] pa ca cb h13 n0 O zc S_cs hzc hEL (own_in hla hpa) hg_ca hb_ca hg_cb hb_cb) hZ (ow hw 6 rfl) (ow hw 5 rfl) (by decide) (by decide) hEL HR.1) (g := (mkF m 276 #[iv i0, iv i1, iv i2, iv i3, iv la, iv ca, iv cb, iv pa, iv ra, iv ia, iv ka, iv da, iv lb, iv cc, iv ce, iv pb, iv rb, iv ib, iv kb, iv db, .unset, .unset, .unset, .unset, .unset, .unset, .unset] [.int cb, .int ca, .int pa, .ref x13, .ref b12, .ref b12])) rfl (by rw [hml]; rfl) (argsL := [(.int pa), (.int ca), (.int cb)]) (rest := [(.ref x13), (.ref b12), (.ref b12)]) (lenOf pd_15 rfl) rfl (by show 2 * 0 + _ ≤ _; exact Nat.le_of_eq rfl) (hb hby at_276) (fun _ _ => ⟨rfl, e13, (by decide : 4 + 3 ≤ _), (by decide : 13 + 8 ≤ _)⟩)
                        dsimp only [Pt.U, Pt.locs, Pt.cells, Pt.slots] at X14 lq14 yq14 zq14 st14 hQ14 hS14 hg14 hC14
                        subst lq14 yq14 zq14
                        obtain ⟨X14, hS, hZ, hown⟩ := rebS hS (Nat.le_trans hk (Nat.le_of_eq (congrArg Array.size e13.symm))) X14 hS14 hg14 hZ hown
                        obtain ⟨h14, e14⟩ : ∃ z, z = T14.heap := ⟨_, rfl⟩
                        rw [← e14] at hQ14 hC14
                        replace e14 := e14.symm
                        obtain ⟨x14, b14, kb14, zz14, xs14, rfl, Nq14, Kq14, hR14⟩ := hQ14
                        have N := Fr.app N Nq14
                        have HR := HR.trans hC14
                        have E_b12 := E_b12.keep Kq14
                        have F_pointer_b12 := F_pointer_b12.keep Kq14 nin0
                        have F_partLength_b12 := F_partLength_b12.keep Kq14 nin0
                        have F_resource_b12 := F_resource_b12.keep Kq14 nin0
                        have F_resourceLength_b12 := F_resourceLength_b12.keep Kq14 nin0
                        have F_identified_b12 := F_identified_b12.keep Kq14 nin0
                        have E_x13 := E_x13.keep Kq14
                        have F_coder_x13 := F_coder_x13.keep Kq14 nin0
                        have F_value_x13 := F_value_x13.keep Kq14 nin0
                        have V_b13 := V_b13.keep Kq14 nin0
                        have hk := Nat.le_trans hk Kq14.1
                        have hk : T14.heap.size ≤ h14.size := by rw [e14]; exact Nat.le_refl _
                        obtain ⟨E_x14, F_coder_x14, F_value_x14, V_b14, hz14, hzp14, hxs14⟩ := hR14
                        have O := O.keep Kq14 all0
                        refine gb (fun _ k => st14.trans k) ?_
                        show G T14 (mkF m 279 #[iv i0, iv i1, iv i2, iv i3, iv la, iv ca, iv cb, iv pa, iv ra, iv ia, iv ka, iv da, iv lb, iv cc, iv ce, iv pb, iv rb, iv ib, iv kb, iv db, .unset, .unset, .unset, .unset, .unset, .unset, .unset] [.ref x14, .ref x13, .ref b12, .ref b12])
                        refine gb (fun _ k => XS.iload X14.here hx rfl (hb hby at_279) rfl (XS.iload X14.here hx rfl (hb hby at_281) rfl (XS.iload X14.here hx rfl (hb hby at_283) rfl k))) ?_
                        show G T14 (mkF m 285 #[iv i0, iv i1, iv i2, iv i3, iv la, iv ca, iv cb, iv pa, iv ra, iv ia, iv ka, iv da, iv lb, iv cc, iv ce, iv pb, iv rb, iv ib, iv kb, iv db, .unset, .unset, .unset, .unset, .unset, .unset, .unset] [.int da, .int da, .int ka, .ref x14, .ref x13, .ref b12, .ref b12])
                        have lt_b12 := E_b12.lt
                        have lt_x13 := E_x13.lt
                        have lt_b13 := V_b13.lt
                        have lt_x14 := E_x14.lt
                        have lt_b14 := V_b14.lt
                        obtain ⟨_, _, ⟨T15, Lz15, kz15, nz15⟩, -, X15, hS15, hg15, ⟨Lc15, hQ15, lq15, yq15, zq15, hC15⟩, st15⟩ := callSS X14 hx (y := (⟨"com/example/wrought_gate/wroughtgate/engine/SchemaLocationEqualsPinLaw", "str", "(ICC)Ljava/lang/String;"⟩ : MethodName)) hown (mvT hZ (ow hw 3 rfl)) (mvT hZ (ow hw 4 rfl)) (mvT hZ (ow hw 5 rfl)) (mvT hZ (ow hw 6 rfl)) (by decide) (backOfSH (W := 4) (rmS l Z a0 hw [] ka da da h14 n0 O zc S_cs hzc hEL (own_bit2 hka) hg_da hb_da hg_da hb_da) hZ (ow hw 6 rfl) (ow hw 5 rfl) (by decide) (by decide) hEL HR.1) (g := (mkF m 285 #[iv i0, iv i1, iv i2, iv i3, iv la, iv ca, iv cb, iv pa, iv ra, iv ia, iv ka, iv da, iv lb, iv cc, iv ce, iv pb, iv rb, iv ib, iv kb, iv db, .unset, .unset, .unset, .unset, .unset, .unset, .unset] [.int da, .int da, .int ka, .ref x14, .ref x13, .ref b12, .ref b12])) rfl (by rw [hml]; rfl) (argsL := [(.int ka), (.int da), (.int da)]) (rest := [(.ref x14), (.ref x13), (.ref b12), (.ref b12)]) (lenOf pd_15 rfl) rfl (by show 2 * 0 + _ ≤ _; exact Nat.le_of_eq rfl) (hb hby at_285) (fun _ _ => ⟨rfl, e14, (by decide : 7 + 3 ≤ _), (by decide : 21 + 8 ≤ _)⟩)
                        dsimp only [Pt.U, Pt.locs, Pt.cells, Pt.slots] at X15 lq15 yq15 zq15 st15 hQ15 hS15 hg15 hC15
                        subst lq15 yq15 zq15
                        obtain ⟨X15, hS, hZ, hown⟩ := rebS hS (Nat.le_trans hk (Nat.le_of_eq (congrArg Array.size e14.symm))) X15 hS15 hg15 hZ hown
                        obtain ⟨h15, e15⟩ : ∃ z, z = T15.heap := ⟨_, rfl⟩
                        rw [← e15] at hQ15 hC15
                        replace e15 := e15.symm
                        obtain ⟨x15, b15, kb15, zz15, xs15, rfl, Nq15, Kq15, hR15⟩ := hQ15
                        have N := Fr.app N Nq15
                        have HR := HR.trans hC15
                        have E_b12 := E_b12.keep Kq15
                        have F_pointer_b12 := F_pointer_b12.keep Kq15 nin0
                        have F_partLength_b12 := F_partLength_b12.keep Kq15 nin0
                        have F_resource_b12 := F_resource_b12.keep Kq15 nin0
                        have F_resourceLength_b12 := F_resourceLength_b12.keep Kq15 nin0
                        have F_identified_b12 := F_identified_b12.keep Kq15 nin0
                        have E_x13 := E_x13.keep Kq15
                        have F_coder_x13 := F_coder_x13.keep Kq15 nin0
                        have F_value_x13 := F_value_x13.keep Kq15 nin0
                        have V_b13 := V_b13.keep Kq15 nin0
                        have E_x14 := E_x14.keep Kq15
                        have F_coder_x14 := F_coder_x14.keep Kq15 nin0
                        have F_value_x14 := F_value_x14.keep Kq15 nin0
                        have V_b14 := V_b14.keep Kq15 nin0
                        have hk := Nat.le_trans hk Kq15.1
                        have hk : T15.heap.size ≤ h15.size := by rw [e15]; exact Nat.le_refl _
                        obtain ⟨E_x15, F_coder_x15, F_value_x15, V_b15, hz15, hzp15, hxs15⟩ := hR15
                        have O := O.keep Kq15 all0
                        refine gb (fun _ k => st15.trans k) ?_
                        show G T15 (mkF m 288 #[iv i0, iv i1, iv i2, iv i3, iv la, iv ca, iv cb, iv pa, iv ra, iv ia, iv ka, iv da, iv lb, iv cc, iv ce, iv pb, iv rb, iv ib, iv kb, iv db, .unset, .unset, .unset, .unset, .unset, .unset, .unset] [.ref x15, .ref x14, .ref x13, .ref b12, .ref b12])
                        refine gb (fun _ k => XS.iload X15.here hx rfl (hb hby at_288) rfl (XS.iload X15.here hx rfl (hb hby at_290) rfl (XS.iload X15.here hx rfl (hb hby at_292) rfl k))) ?_
                        show G T15 (mkF m 294 #[iv i0, iv i1, iv i2, iv i3, iv la, iv ca, iv cb, iv pa, iv ra, iv ia, iv ka, iv da, iv lb, iv cc, iv ce, iv pb, iv rb, iv ib, iv kb, iv db, .unset, .unset, .unset, .unset, .unset, .unset, .unset] [.int cb, .int ca, .int ra, .ref x15, .ref x14, .ref x13, .ref b12, .ref b12])
                        have lt_b12 := E_b12.lt
                        have lt_x13 := E_x13.lt
                        have lt_b13 := V_b13.lt
                        have lt_x14 := E_x14.lt
                        have lt_b14 := V_b14.lt
                        have lt_x15 := E_x15.lt
                        have lt_b15 := V_b15.lt
                        obtain ⟨_, _, ⟨T16, Lz16, kz16, nz16⟩, -, X16, hS16, hg16, ⟨Lc16, hQ16, lq16, yq16, zq16, hC16⟩, st16⟩ := callSS X15 hx (y := (⟨"com/example/wrought_gate/wroughtgate/engine/SchemaLocationEqualsPinLaw", "str", "(ICC)Ljava/lang/String;"⟩ : MethodName)) hown (mvT hZ (ow hw 3 rfl)) (mvT hZ (ow hw 4 rfl)) (mvT hZ (ow hw 5 rfl)) (mvT hZ (ow hw 6 rfl)) (by decide) (backOfSH (W := 5) (rmS l Z a0 hw [] ra ca cb h15 n0 O zc S_cs hzc hEL (own_in hla hra) hg_ca hb_ca hg_cb hb_cb) hZ (ow hw 6 rfl) (ow hw 5 rfl) (by decide) (by decide) hEL HR.1) (g := (mkF m 294 #[iv i0, iv i1, iv i2, iv i3, iv la, iv ca, iv cb, iv pa, iv ra, iv ia, iv ka, iv da, iv lb, iv cc, iv ce, iv pb, iv rb, iv ib, iv kb, iv db, .unset, .unset, .unset, .unset, .unset, .unset, .unset] [.int cb, .int ca, .int ra, .ref x15, .ref x14, .ref x13, .ref b12, .ref b12])) rfl (by rw [hml]; rfl) (argsL := [(.int ra), (.int ca), (.int cb)]) (rest := [(.ref x15), (.ref x14), (.ref x13), (.ref b12), (.ref b12)]) (lenOf pd_15 rfl) rfl (by show 2 * 0 + _ ≤ _; exact Nat.le_of_eq rfl) (hb hby at_294) (fun _ _ => ⟨rfl, e15, (by decide : 10 + 3 ≤ _), (by decide : 29 + 8 ≤ _)⟩)
                        dsimp only [Pt.U, Pt.locs, Pt.cells, Pt.slots] at X16 lq16 yq16 zq16 st16 hQ16 hS16 hg16 hC16
                        subst lq16 yq16 zq16
                        obtain ⟨X16, hS, hZ, hown⟩ := rebS hS (Nat.le_trans hk (Nat.le_of_eq (congrArg Array.size e15.symm))) X16 hS16 hg16 hZ hown
                        obtain ⟨h16, e16⟩ : ∃ z, z = T16.heap := ⟨_, rfl⟩
                        rw [← e16] at hQ16 hC16
                        replace e16 := e16.symm
                        obtain ⟨x16, b16, kb16, zz16, xs16, rfl, Nq16, Kq16, hR16⟩ := hQ16
                        have N := Fr.app N Nq16
                        have HR := HR.trans hC16
                        have E_b12 := E_b12.keep Kq16
                        have F_pointer_b12 := F_pointer_b12.keep Kq16 nin0
                        have F_partLength_b12 := F_partLength_b12.keep Kq16 nin0
                        have F_resource_b12 := F_resource_b12.keep Kq16 nin0
                        have F_resourceLength_b12 := F_resourceLength_b12.keep Kq16 nin0
                        have F_identified_b12 := F_identified_b12.keep Kq16 nin0
                        have E_x13 := E_x13.keep Kq16
                        have F_coder_x13 := F_coder_x13.keep Kq16 nin0
                        have F_value_x13 := F_value_x13.keep Kq16 nin0
                        have V_b13 := V_b13.keep Kq16 nin0
                        have E_x14 := E_x14.keep Kq16
                        have F_coder_x14 := F_coder_x14.keep Kq16 nin0
                        have F_value_x14 := F_value_x14.keep Kq16 nin0
                        have V_b14 := V_b14.keep Kq16 nin0
                        have E_x15 := E_x15.keep Kq16
                        have F_coder_x15 := F_coder_x15.keep Kq16 nin0
                        have F_value_x15 := F_value_x15.keep Kq16 nin0
                        have V_b15 := V_b15.keep Kq16 nin0
                        have hk := Nat.le_trans hk Kq16.1
                        have hk : T16.heap.size ≤ h16.size := by rw [e16]; exact Nat.le_refl _
                        obtain ⟨E_x16, F_coder_x16, F_value_x16, V_b16, hz16, hzp16, hxs16⟩ := hR16
                        have O := O.keep Kq16 all0
                        refine gb (fun _ k => st16.trans k) ?_
                        show G T16 (mkF m 297 #[iv i0, iv i1, iv i2, iv i3, iv la, iv ca, iv cb, iv pa, iv ra, iv ia, iv ka, iv da, iv lb, iv cc, iv ce, iv pb, iv rb, iv ib, iv kb, iv db, .unset, .unset, .unset, .unset, .unset, .unset, .unset] [.ref x16, .ref x15, .ref x14, .ref x13, .ref b12, .ref b12])
                        refine gb (fun _ k => XS.iload X16.here hx rfl (hb hby at_297) rfl k) ?_
                        show G T16 (mkF m 299 #[iv i0, iv i1, iv i2, iv i3, iv la, iv ca, iv cb, iv pa, iv ra, iv ia, iv ka, iv da, iv lb, iv cc, iv ce, iv pb, iv rb, iv ib, iv kb, iv db, .unset, .unset, .unset, .unset, .unset, .unset, .unset] [.int ia, .ref x16, .ref x15, .ref x14, .ref x13, .ref b12, .ref b12])
                        have J17 : ∀ (T17 : State) (locs17 : List Loc) (vm17 : Vm) (kn17 : Nat) (hS : s.Since vm17 kn17) (hk : kn17 ≤ h16.size) (hZ : Z.Warmed39 (s.setVm vm17).vm) (hown : (s.setVm vm17).vm.findClass "com/example/wrought_gate/wroughtgate/engine/SchemaLocationEqualsPinLaw" = some m.cls) (X17 : Stand p l e room_1 (s.setVm vm17) m #[(.int i0), (.int i1), (.int i2), (.int i3)] below meth c T17 locs17 13 37) (N : Fr n0 locs17) (e17 : T17.heap = h16) (HR : CHr Z [("com/example/wrought_gate/wroughtgate/engine/SchemaLocationEqualsPinLaw", 7)] s.vm h0 vm17 h16)   (fa : Int32) (hfa : ia = fa), G T17 (mkF m 307 #[iv i0, iv i1, iv i2, iv i3, iv la, iv ca, iv cb, iv pa, iv ra, iv ia, iv ka, iv da, iv lb, iv cc, iv ce, iv pb, iv rb, iv ib, iv kb, iv db, .unset, .unset, .unset, .unset, .unset, .unset, .unset] [.int fa, .ref x16, .ref x15, .ref x14, .ref x13, .ref b12, .ref b12]) := by
                          intro T17 locs17 vm17 kn17 hS hk hZ hown X17 N e17 HR fa hfa
                          show G T17 (mkF m 307 #[iv i0, iv i1, iv i2, iv i3, iv la, iv ca, iv cb, iv pa, iv ra, iv ia, iv ka, iv da, iv lb, iv cc, iv ce, iv pb, iv rb, iv ib, iv kb, iv db, .unset, .unset, .unset, .unset, .unset, .unset, .unset] [.int fa, .ref x16, .ref x15, .ref x14, .ref x13, .ref b12, .ref b12])
                          obtain ⟨_, _, ⟨T18, Lz18, kz18, nz18⟩, -, X18, hS18, hg18, ⟨Lc18, hQ18, lq18, yq18, zq18, hC18⟩, st18⟩ := X17.specialBackS hx (y := (⟨"com/example/wrought_gate/wroughtgate/engine/SchemaLocation", "<init>", "(Ljava/lang/String;Ljava/lang/String;Ljava/lang/String;Ljava/lang/String;Z)V"⟩ : MethodName)) rfl hown (mvT hZ (ow hw 15 rfl)) (mvT hZ (ow hw 16 rfl)) (mvT hZ (ow hw 17 rfl)) (by decide) (backOfSH (W := 1) (rmI l Z a0 hw [] b12 x13 x14 x15 x16 b13 b14 b15 b16 kb13 kb14 kb15 kb16 zz13 zz14 zz15 zz16 fa xs13 xs14 xs15 xs16 h16 n0 O zc S_cs hzc hEL (hfa ▸ hia) E_x13 F_coder_x13 F_value_x13 V_b13 hz13 E_x14 F_coder_x14 F_value_x14 V_b14 hz14 E_x15 F_coder_x15 F_value_x15 V_b15 hz15 E_x16 F_coder_x16 F_value_x16 V_b16 hz16 (by rw [hzp14]; exact own_z7 (own_in hla hpa)) (by rw [hxs14, hxs13]; exact (own_pre hla hpa).1) (by rw [hxs14, hxs13]; exact (own_pre hla hpa).2) (by rw [hzp16]; exact own_z7 (own_in hla hra)) (by rw [hxs16, hxs13]; exact (own_pre hla hra).1) (by rw [hxs16, hxs13]; exact (own_pre hla hra).2) E_b12 F_pointer_b12 F_partLength_b12 F_resource_b12 F_resourceLength_b12 F_identified_b12 g_b12) hZ (ow hw 17 rfl) (ow hw 2 rfl) (by decide) (by decide) hEL HR.1) (g := (mkF m 307 #[iv i0, iv i1, iv i2, iv i3, iv la, iv ca, iv cb, iv pa, iv ra, iv ia, iv ka, iv da, iv lb, iv cc, iv ce, iv pb, iv rb, iv ib, iv kb, iv db, .unset, .unset, .unset, .unset, .unset, .unset, .unset] [.int fa, .ref x16, .ref x15, .ref x14, .ref x13, .ref b12, .ref b12])) rfl (by rw [hml]; rfl) (Steps.refl _) (a := b12) (argsL := [(.ref x13), (.ref x14), (.ref x15), (.ref x16), (.int fa)]) (rest := [(.ref b12)]) (lenOf pd_16 rfl) rfl (by show 2 * 0 + _ ≤ _; exact Nat.le_of_eq rfl) (hb hby at_307) (fun _ _ => ⟨rfl, e17, (by decide : 13 + 2 ≤ _), (by decide : 37 + 36 ≤ _)⟩)
                          dsimp only [Pt.U, Pt.locs, Pt.cells, Pt.slots] at X18 lq18 yq18 zq18 st18 hQ18 hS18 hg18 hC18
                          subst lq18 yq18 zq18
                          obtain ⟨X18, hS, hZ, hown⟩ := rebS hS (Nat.le_trans hk (Nat.le_of_eq (congrArg Array.size e17.symm))) X18 hS18 hg18 hZ hown
                          obtain ⟨h18, e18⟩ : ∃ z, z = T18.heap := ⟨_, rfl⟩
                          rw [← e18] at hQ18 hC18
                          replace e18 := e18.symm
                          obtain ⟨rfl, Nq18, Kq18, hR18⟩ := hQ18
                          have N := Fr.app N Nq18
                          have HR := HR.trans hC18
                          have ne_x13_b12 : x13 ≠ b12 := (own_neEE E_x13 E_b12 (by decide))
                          have ne_b13_b12 : b13 ≠ b12 := (own_neEV E_b12 V_b13 (ow hw 1 rfl))
                          have ne_x14_b12 : x14 ≠ b12 := (own_neEE E_x14 E_b12 (by decide))
                          have ne_b14_b12 : b14 ≠ b12 := (own_neEV E_b12 V_b14 (ow hw 1 rfl))
                          have ne_x15_b12 : x15 ≠ b12 := (own_neEE E_x15 E_b12 (by decide))
                          have ne_b15_b12 : b15 ≠ b12 := (own_neEV E_b12 V_b15 (ow hw 1 rfl))
                          have ne_x16_b12 : x16 ≠ b12 := (own_neEE E_x16 E_b12 (by decide))
                          have ne_b16_b12 : b16 ≠ b12 := (own_neEV E_b12 V_b16 (ow hw 1 rfl))
                          have E_b12 := E_b12.keep Kq18
                          have E_x13 := E_x13.keep Kq18
                          have F_coder_x13 := F_coder_x13.keep Kq18 (ninS ne_x13_b12 nin0)
                          have F_value_x13 := F_value_x13.keep Kq18 (ninS ne_x13_b12 nin0)
                          have V_b13 := V_b13.keep Kq18 (ninS ne_b13_b12 nin0)
                          have E_x14 := E_x14.keep Kq18
                          have F_coder_x14 := F_coder_x14.keep Kq18 (ninS ne_x14_b12 nin0)
                          have F_value_x14 := F_value_x14.keep Kq18 (ninS ne_x14_b12 nin0)
                          have V_b14 := V_b14.keep Kq18 (ninS ne_b14_b12 nin0)
                          have E_x15 := E_x15.keep Kq18
                          have F_coder_x15 := F_coder_x15.keep Kq18 (ninS ne_x15_b12 nin0)
                          have F_value_x15 := F_value_x15.keep Kq18 (ninS ne_x15_b12 nin0)
                          have V_b15 := V_b15.keep Kq18 (ninS ne_b15_b12 nin0)
                          have E_x16 := E_x16.keep Kq18
                          have F_coder_x16 := F_coder_x16.keep Kq18 (ninS ne_x16_b12 nin0)
                          have F_value_x16 := F_value_x16.keep Kq18 (ninS ne_x16_b12 nin0)
                          have V_b16 := V_b16.keep Kq18 (ninS ne_b16_b12 nin0)
                          have hk := Nat.le_trans hk Kq18.1
                          have hk : T18.heap.size ≤ h18.size := by rw [e18]; exact Nat.le_refl _
                          obtain ⟨E_b12, F_pointer_b12, F_partLength_b12, F_resource_b12, F_resourceLength_b12, F_identified_b12⟩ := hR18
                          have O := O.keep Kq18 (allS g_b12 all0)
                          refine gb (fun _ k => st18.trans k) ?_
                          show G T18 (mkF m 310 #[iv i0, iv i1, iv i2, iv i3, iv la, iv ca, iv cb, iv pa, iv ra, iv ia, iv ka, iv da, iv lb, iv cc, iv ce, iv pb, iv rb, iv ib, iv kb, iv db, .unset, .unset, .unset, .unset, .unset, .unset, .unset] [.ref b12])
                          refine gb (fun _ k => XS.astore X18.here hx rfl (hb hby at_310) rfl rfl (l' := #[iv i0, iv i1, iv i2, iv i3, iv la, iv ca, iv cb, iv pa, iv ra, iv ia, iv ka, iv da, iv lb, iv cc, iv ce, iv pb, iv rb, iv ib, iv kb, iv db, rv b12, .unset, .unset, .unset, .unset, .unset, .unset]) rfl k) ?_
                          show G T18 (mkF m 312 #[iv i0, iv i1, iv i2, iv i3, iv la, iv ca, iv cb, iv pa, iv ra, iv ia, iv ka, iv da, iv lb, iv cc, iv ce, iv pb, iv rb, iv ib, iv kb, iv db, rv b12, .unset, .unset, .unset, .unset, .unset, .unset] [])
                          obtain ⟨T19, h19, X19, e19, E19, A19, D19, U19, st19⟩ := newO X18 hx hZ hown (ow hw 0 rfl) (ow hw 1 rfl) (ow hw 2 rfl) e18 (g := (mkF m 312 #[iv i0, iv i1, iv i2, iv i3, iv la, iv ca, iv cb, iv pa, iv ra, iv ia, iv ka, iv da, iv lb, iv cc, iv ce, iv pb, iv rb, iv ib, iv kb, iv db, rv b12, .unset, .unset, .unset, .unset, .unset, .unset] [])) rfl (hb hby at_312) (by decide) (by decide)
                          obtain ⟨b19, g19⟩ : ∃ z, z = h18.size := ⟨_, rfl⟩
                          rw [← g19] at A19 D19 U19 st19
                          have g_b19 : n0 ≤ b19 := Nat.le_trans (by have := O.2.1; rw [O.1] at this; exact this) (Nat.le_of_eq g19.symm)
                          have ne_x13_b19 : x13 ≠ b19 := Nat.ne_of_lt (Nat.lt_of_lt_of_le E_x13.lt (Nat.le_of_eq g19.symm))
                          have ne_b13_b19 : b13 ≠ b19 := Nat.ne_of_lt (Nat.lt_of_lt_of_le V_b13.lt (Nat.le_of_eq g19.symm))
                          have ne_x14_b19 : x14 ≠ b19 := Nat.ne_of_lt (Nat.lt_of_lt_of_le E_x14.lt (Nat.le_of_eq g19.symm))
                          have ne_b14_b19 : b14 ≠ b19 := Nat.ne_of_lt (Nat.lt_of_lt_of_le V_b14.lt (Nat.le_of_eq g19.symm))
                          have ne_x15_b19 : x15 ≠ b19 := Nat.ne_of_lt (Nat.lt_of_lt_of_le E_x15.lt (Nat.le_of_eq g19.symm))
                          have ne_b15_b19 : b15 ≠ b19 := Nat.ne_of_lt (Nat.lt_of_lt_of_le V_b15.lt (Nat.le_of_eq g19.symm))
                          have ne_x16_b19 : x16 ≠ b19 := Nat.ne_of_lt (Nat.lt_of_lt_of_le E_x16.lt (Nat.le_of_eq g19.symm))
                          have ne_b16_b19 : b16 ≠ b19 := Nat.ne_of_lt (Nat.lt_of_lt_of_le V_b16.lt (Nat.le_of_eq g19.symm))
                          have ne_b12_b19 : b12 ≠ b19 := Nat.ne_of_lt (Nat.lt_of_lt_of_le E_b12.lt (Nat.le_of_eq g19.symm))
                          have HR := HR.trans (CHr.ext E19 HR.1)
                          have E_x13 := E_x13.ext E19
                          have F_coder_x13 := F_coder_x13.ext E19
                          have F_value_x13 := F_value_x13.ext E19
                          have V_b13 := V_b13.ext E19
                          have E_x14 := E_x14.ext E19
                          have F_coder_x14 := F_coder_x14.ext E19
                          have F_value_x14 := F_value_x14.ext E19
                          have V_b14 := V_b14.ext E19
                          have E_x15 := E_x15.ext E19
                          have F_coder_x15 := F_coder_x15.ext E19
                          have F_value_x15 := F_value_x15.ext E19
                          have V_b15 := V_b15.ext E19
                          have E_x16 := E_x16.ext E19
                          have F_coder_x16 := F_coder_x16.ext E19
                          have F_value_x16 := F_value_x16.ext E19
                          have V_b16 := V_b16.ext E19
                          have E_b12 := E_b12.ext E19
                          have F_pointer_b12 := F_pointer_b12.ext E19
                          have F_partLength_b12 := F_partLength_b12.ext E19
                          have F_resource_b12 := F_resource_b12.ext E19
                          have F_resourceLength_b12 := F_resourceLength_b12.ext E19
                          have F_identified_b12 := F_identified_b12.ext E19
                          have O := O.ext E19
                          have hk := Nat.le_trans hk E19.1
                          have E_b19 := A19
                          have F_pointer_b19 : Fld Z h19 b19 "com/example/wrought_gate/wroughtgate/engine/SchemaLocation" "pointer" "Ljava/lang/String;" .null := D19 (Or.inr (ow hw 49 rfl)) (ty := (.object "java/lang/String")) (by decide)
                          have F_partLength_b19 : Fld Z h19 b19 "com/example/wrought_gate/wroughtgate/engine/SchemaLocation" "partLength" "I" (.int (0 : Int32)) := D19 (Or.inr (ow hw 52 rfl)) (ty := .int) (by decide)
                          have F_resource_b19 : Fld Z h19 b19 "com/example/wrought_gate/wroughtgate/engine/SchemaLocation" "resource" "Ljava/lang/String;" .null := D19 (Or.inr (ow hw 61 rfl)) (ty := (.object "java/lang/String")) (by decide)
                          have F_resourceLength_b19 : Fld Z h19 b19 "com/example/wrought_gate/wroughtgate/engine/SchemaLocation" "resourceLength" "I" (.int (0 : Int32)) := D19 (Or.inr (ow hw 63 rfl)) (ty := .int) (by decide)
                          have F_identified_b19 : Fld Z h19 b19 "com/example/wrought_gate/wroughtgate/engine/SchemaLocation" "identified" "Z" (.int (0 : Int32)) := D19 (Or.inr (ow hw 65 rfl)) (ty := .boolean) (by decide)
                          refine gb st19 ?_
                          show G T19 (mkF m 315 #[iv i0, iv i1, iv i2, iv i3, iv la, iv ca, iv cb, iv pa, iv ra, iv ia, iv ka, iv da, iv lb, iv cc, iv ce, iv pb, iv rb, iv ib, iv kb, iv db, rv b12, .unset, .unset, .unset, .unset, .unset, .unset] [.ref b19])
                          refine gb (fun _ k => XS.dup X19.here hx rfl (hb hby at_315) rfl rfl (XS.iload X19.here hx rfl (hb hby at_316) rfl (XS.iload X19.here hx rfl (hb hby at_318) rfl (XS.iload X19.here hx rfl (hb hby at_320) rfl k)))) ?_
                          show G T19 (mkF m 322 #[iv i0, iv i1, iv i2, iv i3, iv la, iv ca, iv cb, iv pa, iv ra, iv ia, iv ka, iv da, iv lb, iv cc, iv ce, iv pb, iv rb, iv ib, iv kb, iv db, rv b12, .unset, .unset, .unset, .unset, .unset, .unset] [.int ce, .int cc, .int lb, .ref b19, .ref b19])
                          have lt_x13 := E_x13.lt
                          have lt_b13 := V_b13.lt
                          have lt_x14 := E_x14.lt
                          have lt_b14 := V_b14.lt
                          have lt_x15 := E_x15.lt
                          have lt_b15 := V_b15.lt
                          have lt_x16 := E_x16.lt
                          have lt_b16 := V_b16.lt
                          have lt_b12 := E_b12.lt
                          have lt_b19 := E_b19.lt
                          obtain ⟨_, _, ⟨T20, Lz20, kz20, nz20⟩, -, X20, hS20, hg20, ⟨Lc20, hQ20, lq20, yq20, zq20, hC20⟩, st20⟩ := callSS X19 hx (y := (⟨"com/example/wrought_gate/wroughtgate/engine/SchemaLocationEqualsPinLaw", "str", "(ICC)Ljava/lang/String;"⟩ : MethodName)) hown (mvT hZ (ow hw 3 rfl)) (mvT hZ (ow hw 4 rfl)) (mvT hZ (ow hw 5 rfl)) (mvT hZ (ow hw 6 rfl)) (by decide) (backOfSH (W := 2) (rmS l Z a0 hw [] lb cc ce h19 n0 O zc S_cs hzc hEL hlb hg_cc hb_cc hg_ce hb_ce) hZ (ow hw 6 rfl) (ow hw 5 rfl) (by decide) (by decide) hEL HR.1) (g := (mkF m 322 #[iv i0, iv i1, iv i2, iv i3, iv la, iv ca, iv cb, iv pa, iv ra, iv ia, iv ka, iv da, iv lb, iv cc, iv ce, iv pb, iv rb, iv ib, iv kb, iv db, rv b12, .unset, .unset, .unset, .unset, .unset, .unset] [.int ce, .int cc, .int lb, .ref b19, .ref b19])) rfl (by rw [hml]; rfl) (argsL := [(.int lb), (.int cc), (.int ce)]) (rest := [(.ref b19), (.ref b19)]) (lenOf pd_15 rfl) rfl (by show 2 * 0 + _ ≤ _; exact Nat.le_of_eq rfl) (hb hby at_322) (fun _ _ => ⟨rfl, e19, (by decide : 16 + 3 ≤ _), (by decide : 78 + 8 ≤ _)⟩)
                          dsimp only [Pt.U, Pt.locs, Pt.cells, Pt.slots] at X20 lq20 yq20 zq20 st20 hQ20 hS20 hg20 hC20
                          subst lq20 yq20 zq20
                          obtain ⟨X20, hS, hZ, hown⟩ := rebS hS (Nat.le_trans hk (Nat.le_of_eq (congrArg Array.size e19.symm))) X20 hS20 hg20 hZ hown
                          obtain ⟨h20, e20⟩ : ∃ z, z = T20.heap := ⟨_, rfl⟩
                          rw [← e20] at hQ20 hC20
                          replace e20 := e20.symm
                          obtain ⟨x20, b20, kb20, zz20, xs20, rfl, Nq20, Kq20, hR20⟩ := hQ20
                          have N := Fr.app N Nq20
                          have HR := HR.trans hC20
                          have E_x13 := E_x13.keep Kq20
                          have F_coder_x13 := F_coder_x13.keep Kq20 nin0
                          have F_value_x13 := F_value_x13.keep Kq20 nin0
                          have V_b13 := V_b13.keep Kq20 nin0
                          have E_x14 := E_x14.keep Kq20
                          have F_coder_x14 := F_coder_x14.keep Kq20 nin0
                          have F_value_x14 := F_value_x14.keep Kq20 nin0
                          have V_b14 := V_b14.keep Kq20 nin0
                          have E_x15 := E_x15.keep Kq20
                          have F_coder_x15 := F_coder_x15.keep Kq20 nin0
                          have F_value_x15 := F_value_x15.keep Kq20 nin0
                          have V_b15 := V_b15.keep Kq20 nin0
                          have E_x16 := E_x16.keep Kq20
                          have F_coder_x16 := F_coder_x16.keep Kq20 nin0
                          have F_value_x16 := F_value_x16.keep Kq20 nin0
                          have V_b16 := V_b16.keep Kq20 nin0
                          have E_b12 := E_b12.keep Kq20
                          have F_pointer_b12 := F_pointer_b12.keep Kq20 nin0
                          have F_partLength_b12 := F_partLength_b12.keep Kq20 nin0
                          have F_resource_b12 := F_resource_b12.keep Kq20 nin0
                          have F_resourceLength_b12 := F_resourceLength_b12.keep Kq20 nin0
                          have F_identified_b12 := F_identified_b12.keep Kq20 nin0
                          have E_b19 := E_b19.keep Kq20
                          have F_pointer_b19 := F_pointer_b19.keep Kq20 nin0
                          have F_partLength_b19 := F_partLength_b19.keep Kq20 nin0
                          have F_resource_b19 := F_resource_b19.keep Kq20 nin0
                          have F_resourceLength_b19 := F_resourceLength_b19.keep Kq20 nin0
                          have F_identified_b19 := F_identified_b19.keep Kq20 nin0
                          have hk := Nat.le_trans hk Kq20.1
                          have hk : T20.heap.size ≤ h20.size := by rw [e20]; exact Nat.le_refl _
                          obtain ⟨E_x20, F_coder_x20, F_value_x20, V_b20, hz20, hzp20, hxs20⟩ := hR20
                          have O := O.keep Kq20 all0
                          refine gb (fun _ k => st20.trans k) ?_
                          show G T20 (mkF m 325 #[iv i0, iv i1, iv i2, iv i3, iv la, iv ca, iv cb, iv pa, iv ra, iv ia, iv ka, iv da, iv lb, iv cc, iv ce, iv pb, iv rb, iv ib, iv kb, iv db, rv b12, .unset, .unset, .unset, .unset, .unset, .unset] [.ref x20, .ref b19, .ref b19])
                          refine gb (fun _ k => XS.iload X20.here hx rfl (hb hby at_325) rfl (XS.iload X20.here hx rfl (hb hby at_327) rfl (XS.iload X20.here hx rfl (hb hby at_329) rfl k))) ?_
                          show G T20 (mkF m 331 #[iv i0, iv i1, iv i2, iv i3, iv la, iv ca, iv cb, iv pa, iv ra, iv ia, iv ka, iv da, iv lb, iv cc, iv ce, iv pb, iv rb, iv ib, iv kb, iv db, rv b12, .unset, .unset, .unset, .unset, .unset, .unset] [.int ce, .int cc, .int pb, .ref x20, .ref b19, .ref b19])
                          have lt_x13 := E_x13.lt
                          have lt_b13 := V_b13.lt
                          have lt_x14 := E_x14.lt
                          have lt_b14 := V_b14.lt
                          have lt_x15 := E_x15.lt
                          have lt_b15 := V_b15.lt
                          have lt_x16 := E_x16.lt
                          have lt_b16 := V_b16.lt
                          have lt_b12 := E_b12.lt
                          have lt_b19 := E_b19.lt
                          have lt_x20 := E_x20.lt
                          have lt_b20 := V_b20.lt
                          obtain ⟨_, _, ⟨T21, Lz21, kz21, nz21⟩, -, X21, hS21, hg21, ⟨Lc21, hQ21, lq21, yq21, zq21, hC21⟩, st21⟩ := callSS X20 hx (y := (⟨"com/example/wrought_gate/wroughtgate/engine/SchemaLocationEqualsPinLaw", "str", "(ICC)Ljava/lang/String;"⟩ : MethodName)) hown (mvT hZ (ow hw 3 rfl)) (mvT hZ (ow hw 4 rfl)) (mvT hZ (ow hw 5 rfl)) (mvT hZ (ow hw 6 rfl)) (by decide) (backOfSH (W := 3) (rmS l Z a0 hw [] pb cc ce h20 n0 O zc S_cs hzc hEL (own_in hlb hpb) hg_cc hb_cc hg_ce hb_ce) hZ (ow hw 6 rfl) (ow hw 5 rfl) (by decide) (by decide) hEL HR.1) (g := (mkF m 331 #[iv i0, iv i1, iv i2, iv i3, iv la, iv ca, iv cb, iv pa, iv ra, iv ia, iv ka, iv da, iv lb, iv cc, iv ce, iv pb, iv rb, iv ib, iv kb, iv db, rv b12, .unset, .unset, .unset, .unset, .unset, .unset] [.int ce, .int cc, .int pb, .ref x20, .ref b19, .ref b19])) rfl (by rw [hml]; rfl) (argsL := [(.int pb), (.int cc), (.int ce)]) (rest := [(.ref x20), (.ref b19), (.ref b19)]) (lenOf pd_15 rfl) rfl (by show 2 * 0 + _ ≤ _; exact Nat.le_of_eq rfl) (hb hby at_331) (fun _ _ => ⟨rfl, e20, (by decide : 19 + 3 ≤ _), (by decide : 86 + 8 ≤ _)⟩)
                          dsimp only [Pt.U, Pt.locs, Pt.cells, Pt.slots] at X21 lq21 yq21 zq21 st21 hQ21 hS21 hg21 hC21
                          subst lq21 yq21 zq21
                          obtain ⟨X21, hS, hZ, hown⟩ := rebS hS (Nat.le_trans hk (Nat.le_of_eq (congrArg Array.size e20.symm))) X21 hS21 hg21 hZ hown
                          obtain ⟨h21, e21⟩ : ∃ z, z = T21.heap := ⟨_, rfl⟩
                          rw [← e21] at hQ21 hC21
                          replace e21 := e21.symm
                          obtain ⟨x21, b21, kb21, zz21, xs21, rfl, Nq21, Kq21, hR21⟩ := hQ21
                          have N := Fr.app N Nq21
                          have HR := HR.trans hC21
                          have E_x13 := E_x13.keep Kq21
                          have F_coder_x13 := F_coder_x13.keep Kq21 nin0
                          have F_value_x13 := F_value_x13.keep Kq21 nin0
                          have V_b13 := V_b13.keep Kq21 nin0
                          have E_x14 := E_x14.keep Kq21
                          have F_coder_x14 := F_coder_x14.keep Kq21 nin0
                          have F_value_x14 := F_value_x14.keep Kq21 nin0
                          have V_b14 := V_b14.keep Kq21 nin0
                          have E_x15 := E_x15.keep Kq21
                          have F_coder_x15 := F_coder_x15.keep Kq21 nin0
                          have F_value_x15 := F_value_x15.keep Kq21 nin0
                          have V_b15 := V_b15.keep Kq21 nin0
                          have E_x16 := E_x16.keep Kq21
                          have F_coder_x16 := F_coder_x16.keep Kq21 nin0
                          have F_value_x16 := F_value_x16.keep Kq21 nin0
                          have V_b16 := V_b16.keep Kq21 nin0
                          have E_b12 := E_b12.keep Kq21
                          have F_pointer_b12 := F_pointer_b12.keep Kq21 nin0
                          have F_partLength_b12 := F_partLength_b12.keep Kq21 nin0
                          have F_resource_b12 := F_resource_b12.keep Kq21 nin0
                          have F_resourceLength_b12 := F_resourceLength_b12.keep Kq21 nin0
                          have F_identified_b12 := F_identified_b12.keep Kq21 nin0
                          have E_b19 := E_b19.keep Kq21
                          have F_pointer_b19 := F_pointer_b19.keep Kq21 nin0
                          have F_partLength_b19 := F_partLength_b19.keep Kq21 nin0
                          have F_resource_b19 := F_resource_b19.keep Kq21 nin0
                          have F_resourceLength_b19 := F_resourceLength_b19.keep Kq21 nin0
                          have F_identified_b19 := F_identified_b19.keep Kq21 nin0
                          have E_x20 := E_x20.keep Kq21
                          have F_coder_x20 := F_coder_x20.keep Kq21 nin0
                          have F_value_x20 := F_value_x20.keep Kq21 nin0
                          have V_b20 := V_b20.keep Kq21 nin0
                          have hk := Nat.le_trans hk Kq21.1
                          have hk : T21.heap.size ≤ h21.size := by rw [e21]; exact Nat.le_refl _
                          obtain ⟨E_x21, F_coder_x21, F_value_x21, V_b21, hz21, hzp21, hxs21⟩ := hR21
                          have O := O.keep Kq21 all0
                          refine gb (fun _ k => st21.trans k) ?_
                          show G T21 (mkF m 334 #[iv i0, iv i1, iv i2, iv i3, iv la, iv ca, iv cb, iv pa, iv ra, iv ia, iv ka, iv da, iv lb, iv cc, iv ce, iv pb, iv rb, iv ib, iv kb, iv db, rv b12, .unset, .unset, .unset, .unset, .unset, .unset] [.ref x21, .ref x20, .ref b19, .ref b19])
                          refine gb (fun _ k => XS.iload X21.here hx rfl (hb hby at_334) rfl (XS.iload X21.here hx rfl (hb hby at_336) rfl (XS.iload X21.here hx rfl (hb hby at_338) rfl k))) ?_
                          show G T21 (mkF m 340 #[iv i0, iv i1, iv i2, iv i3, iv la, iv ca, iv cb, iv pa, iv ra, iv ia, iv ka, iv da, iv lb, iv cc, iv ce, iv pb, iv rb, iv ib, iv kb, iv db, rv b12, .unset, .unset, .unset, .unset, .unset, .unset] [.int db, .int db, .int kb, .ref x21, .ref x20, .ref b19, .ref b19])
                          have lt_x13 := E_x13.lt
                          have lt_b13 := V_b13.lt
                          have lt_x14 := E_x14.lt
                          have lt_b14 := V_b14.lt
                          have lt_x15 := E_x15.lt
                          have lt_b15 := V_b15.lt
                          have lt_x16 := E_x16.lt
                          have lt_b16 := V_b16.lt
                          have lt_b12 := E_b12.lt
                          have lt_b19 := E_b19.lt
                          have lt_x20 := E_x20.lt
                          have lt_b20 := V_b20.lt
                          have lt_x21 := E_x21.lt
                          have lt_b21 := V_b21.lt
                          obtain ⟨_, _, ⟨T22, Lz22, kz22, nz22⟩, -, X22, hS22, hg22, ⟨Lc22, hQ22, lq22, yq22, zq22, hC22⟩, st22⟩ := callSS X21 hx (y := (⟨"com/example/wrought_gate/wroughtgate/engine/SchemaLocationEqualsPinLaw", "str", "(ICC)Ljava/lang/String;"⟩ : MethodName)) hown (mvT hZ (ow hw 3 rfl)) (mvT hZ (ow hw 4 rfl)) (mvT hZ (ow hw 5 rfl)) (mvT hZ (ow hw 6 rfl)) (by decide) (backOfSH (W := 4) (rmS l Z a0 hw [] kb db db h21 n0 O zc S_cs hzc hEL (own_bit2 hkb) hg_db hb_db hg_db hb_db) hZ (ow hw 6 rfl) (ow hw 5 rfl) (by decide) (by decide) hEL HR.1) (g := (mkF m 340 #[iv i0, iv i1, iv i2, iv i3, iv la, iv ca, iv cb, iv pa, iv ra, iv ia, iv ka, iv da, iv lb, iv cc, iv ce, iv pb, iv rb, iv ib, iv kb, iv db, rv b12, .unset, .unset, .unset, .unset, .unset, .unset] [.int db, .int db, .int kb, .ref x21, .ref x20, .ref b19, .ref b19])) rfl (by rw [hml]; rfl) (argsL := [(.int kb), (.int db), (.int db)]) (rest := [(.ref x21), (.ref x20), (.ref b19), (.ref b19)]) (lenOf pd_15 rfl) rfl (by show 2 * 0 + _ ≤ _; exact Nat.le_of_eq rfl) (hb hby at_340) (fun _ _ => ⟨rfl, e21, (by decide : 22 + 3 ≤ _), (by decide : 94 + 8 ≤ _)⟩)
                          dsimp only [Pt.U, Pt.locs, Pt.cells, Pt.slots] at X22 lq22 yq22 zq22 st22 hQ22 hS22 hg22 hC22
                          subst lq22 yq22 zq22
                          obtain ⟨X22, hS, hZ, hown⟩ := rebS hS (Nat.le_trans hk (Nat.le_of_eq (congrArg Array.size e21.symm))) X22 hS22 hg22 hZ hown
                          obtain ⟨h22, e22⟩ : ∃ z, z = T22.heap := ⟨_, rfl⟩
                          rw [← e22] at hQ22 hC22
                          replace e22 := e22.symm
                          obtain ⟨x22, b22, kb22, zz22, xs22, rfl, Nq22, Kq22, hR22⟩ := hQ22
                          have N := Fr.app N Nq22
                          have HR := HR.trans hC22
                          have E_x13 := E_x13.keep Kq22
                          have F_coder_x13 := F_coder_x13.keep Kq22 nin0
                          have F_value_x13 := F_value_x13.keep Kq22 nin0
                          have V_b13 := V_b13.keep Kq22 nin0
                          have E_x14 := E_x14.keep Kq22
                          have F_coder_x14 := F_coder_x14.keep Kq22 nin0
                          have F_value_x14 := F_value_x14.keep Kq22 nin0
                          have V_b14 := V_b14.keep Kq22 nin0
                          have E_x15 := E_x15.keep Kq22
                          have F_coder_x15 := F_coder_x15.keep Kq22 nin0
                          have F_value_x15 := F_value_x15.keep Kq22 nin0
                          have V_b15 := V_b15.keep Kq22 nin0
                          have E_x16 := E_x16.keep Kq22
                          have F_coder_x16 := F_coder_x16.keep Kq22 nin0
                          have F_value_x16 := F_value_x16.keep Kq22 nin0
                          have V_b16 := V_b16.keep Kq22 nin0
                          have E_b12 := E_b12.keep Kq22
                          have F_pointer_b12 := F_pointer_b12.keep Kq22 nin0
                          have F_partLength_b12 := F_partLength_b12.keep Kq22 nin0
                          have F_resource_b12 := F_resource_b12.keep Kq22 nin0
                          have F_resourceLength_b12 := F_resourceLength_b12.keep Kq22 nin0
                          have F_identified_b12 := F_identified_b12.keep Kq22 nin0
                          have E_b19 := E_b19.keep Kq22
                          have F_pointer_b19 := F_pointer_b19.keep Kq22 nin0
                          have F_partLength_b19 := F_partLength_b19.keep Kq22 nin0
                          have F_resource_b19 := F_resource_b19.keep Kq22 nin0
                          have F_resourceLength_b19 := F_resourceLength_b19.keep Kq22 nin0
                          have F_identified_b19 := F_identified_b19.keep Kq22 nin0
                          have E_x20 := E_x20.keep Kq22
                          have F_coder_x20 := F_coder_x20.keep Kq22 nin0
                          have F_value_x20 := F_value_x20.keep Kq22 nin0
                          have V_b20 := V_b20.keep Kq22 nin0
                          have E_x21 := E_x21.keep Kq22
                          have F_coder_x21 := F_coder_x21.keep Kq22 nin0
                          have F_value_x21 := F_value_x21.keep Kq22 nin0
                          have V_b21 := V_b21.keep Kq22 nin0
                          have hk := Nat.le_trans hk Kq22.1
                          have hk : T22.heap.size ≤ h22.size := by rw [e22]; exact Nat.le_refl _
                          obtain ⟨E_x22, F_coder_x22, F_value_x22, V_b22, hz22, hzp22, hxs22⟩ := hR22
                          have O := O.keep Kq22 all0
                          refine gb (fun _ k => st22.trans k) ?_
                          show G T22 (mkF m 343 #[iv i0, iv i1, iv i2, iv i3, iv la, iv ca, iv cb, iv pa, iv ra, iv ia, iv ka, iv da, iv lb, iv cc, iv ce, iv pb, iv rb, iv ib, iv kb, iv db, rv b12, .unset, .unset, .unset, .unset, .unset, .unset] [.ref x22, .ref x21, .ref x20, .ref b19, .ref b19])
                          refine gb (fun _ k => XS.iload X22.here hx rfl (hb hby at_343) rfl (XS.iload X22.here hx rfl (hb hby at_345) rfl (XS.iload X22.here hx rfl (hb hby at_347) rfl k))) ?_
                          show G T22 (mkF m 349 #[iv i0, iv i1, iv i2, iv i3, iv la, iv ca, iv cb, iv pa, iv ra, iv ia, iv ka, iv da, iv lb, iv cc, iv ce, iv pb, iv rb, iv ib, iv kb, iv db, rv b12, .unset, .unset, .unset, .unset, .unset, .unset] [.int ce, .int cc, .int rb, .ref x22, .ref x21, .ref x20, .ref b19, .ref b19])
                          have lt_x13 := E_x13.lt
                          have lt_b13 := V_b13.lt
                          have lt_x14 := E_x14.lt
                          have lt_b14 := V_b14.lt
                          have lt_x15 := E_x15.lt
                          have lt_b15 := V_b15.lt
                          have lt_x16 := E_x16.lt
                          have lt_b16 := V_b16.lt
                          have lt_b12 := E_b12.lt
                          have lt_b19 := E_b19.lt
                          have lt_x20 := E_x20.lt
                          have lt_b20 := V_b20.lt
                          have lt_x21 := E_x21.lt
                          have lt_b21 := V_b21.lt
                          have lt_x22 := E_x22.lt
                          have lt_b22 := V_b22.lt
                          obtain ⟨_, _, ⟨T23, Lz23, kz23, nz23⟩, -, X23, hS23, hg23, ⟨Lc23, hQ23, lq23, yq23, zq23, hC23⟩, st23⟩ := callSS X22 hx (y := (⟨"com/example/wrought_gate/wroughtgate/engine/SchemaLocationEqualsPinLaw", "str", "(ICC)Ljava/lang/String;"⟩ : MethodName)) hown (mvT hZ (ow hw 3 rfl)) (mvT hZ (ow hw 4 rfl)) (mvT hZ (ow hw 5 rfl)) (mvT hZ (ow hw 6 rfl)) (by decide) (backOfSH (W := 5) (rmS l Z a0 hw [] rb cc ce h22 n0 O zc S_cs hzc hEL (own_in hlb hrb) hg_cc hb_cc hg_ce hb_ce) hZ (ow hw 6 rfl) (ow hw 5 rfl) (by decide) (by decide) hEL HR.1) (g := (mkF m 349 #[iv i0, iv i1, iv i2, iv i3, iv la, iv ca, iv cb, iv pa, iv ra, iv ia, iv ka, iv da, iv lb, iv cc, iv ce, iv pb, iv rb, iv ib, iv kb, iv db, rv b12, .unset, .unset, .unset, .unset, .unset, .unset] [.int ce, .int cc, .int rb, .ref x22, .ref x21, .ref x20, .ref b19, .ref b19])) rfl (by rw [hml]; rfl) (argsL := [(.int rb), (.int cc), (.int ce)]) (rest := [(.ref x22), (.ref x21), (.ref x20), (.ref b19), (.ref b19)]) (lenOf pd_15 rfl) rfl (by show 2 * 0 + _ ≤ _; exact Nat.le_of_eq rfl) (hb hby at_349) (fun _ _ => ⟨rfl, e22, (by decide : 25 + 3 ≤ _), (by decide : 102 + 8 ≤ _)⟩)
                          dsimp only [Pt.U, Pt.locs, Pt.cells, Pt.slots] at X23 lq23 yq23 zq23 st23 hQ23 hS23 hg23 hC23
                          subst lq23 yq23 zq23
                          obtain ⟨X23, hS, hZ, hown⟩ := rebS hS (Nat.le_trans hk (Nat.le_of_eq (congrArg Array.size e22.symm))) X23 hS23 hg23 hZ hown
                          obtain ⟨h23, e23⟩ : ∃ z, z = T23.heap := ⟨_, rfl⟩
                          rw [← e23] at hQ23 hC23
                          replace e23 := e23.symm
                          obtain ⟨x23, b23, kb23, zz23, xs23, rfl, Nq23, Kq23, hR23⟩ := hQ23
                          have N := Fr.app N Nq23
                          have HR := HR.trans hC23
                          have E_x13 := E_x13.keep Kq23
                          have F_coder_x13 := F_coder_x13.keep Kq23 nin0
                          have F_value_x13 := F_value_x13.keep Kq23 nin0
                          have V_b13 := V_b13.keep Kq23 nin0
                          have E_x14 := E_x14.keep Kq23
                          have F_coder_x14 := F_coder_x14.keep Kq23 nin0
                          have F_value_x14 := F_value_x14.keep Kq23 nin0
                          have V_b14 := V_b14.keep Kq23 nin0
                          have E_x15 := E_x15.keep Kq23
                          have F_coder_x15 := F_coder_x15.keep Kq23 nin0
                          have F_value_x15 := F_value_x15.keep Kq23 nin0
                          have V_b15 := V_b15.keep Kq23 nin0
                          have E_x16 := E_x16.keep Kq23
                          have F_coder_x16 := F_coder_x16.keep Kq23 nin0
                          have F_value_x16 := F_value_x16.keep Kq23 nin0
                          have V_b16 := V_b16.keep Kq23 nin0
                          have E_b12 := E_b12.keep Kq23
                          have F_pointer_b12 := F_pointer_b12.keep Kq23 nin0
                          have F_partLength_b12 := F_partLength_b12.keep Kq23 nin0
                          have F_resource_b12 := F_resource_b12.keep Kq23 nin0
                          have F_resourceLength_b12 := F_resourceLength_b12.keep Kq23 nin0
                          have F_identified_b12 := F_identified_b12.keep Kq23 nin0
                          have E_b19 := E_b19.keep Kq23
                          have F_pointer_b19 := F_pointer_b19.keep Kq23 nin0
                          have F_partLength_b19 := F_partLength_b19.keep Kq23 nin0
                          have F_resource_b19 := F_resource_b19.keep Kq23 nin0
                          have F_resourceLength_b19 := F_resourceLength_b19.keep Kq23 nin0
                          have F_identified_b19 := F_identified_b19.keep Kq23 nin0
                          have E_x20 := E_x20.keep Kq23
                          have F_coder_x20 := F_coder_x20.keep Kq23 nin0
                          have F_value_x20 := F_value_x20.keep Kq23 nin0
                          have V_b20 := V_b20.keep Kq23 nin0
                          have E_x21 := E_x21.keep Kq23
                          have F_coder_x21 := F_coder_x21.keep Kq23 nin0
                          have F_value_x21 := F_value_x21.keep Kq23 nin0
                          have V_b21 := V_b21.keep Kq23 nin0
                          have E_x22 := E_x22.keep Kq23
                          have F_coder_x22 := F_coder_x22.keep Kq23 nin0
                          have F_value_x22 := F_value_x22.keep Kq23 nin0
                          have V_b22 := V_b22.keep Kq23 nin0
                          have hk := Nat.le_trans hk Kq23.1
                          have hk : T23.heap.size ≤ h23.size := by rw [e23]; exact Nat.le_refl _
                          obtain ⟨E_x23, F_coder_x23, F_value_x23, V_b23, hz23, hzp23, hxs23⟩ := hR23
                          have O := O.keep Kq23 all0
                          refine gb (fun _ k => st23.trans k) ?_
                          show G T23 (mkF m 352 #[iv i0, iv i1, iv i2, iv i3, iv la, iv ca, iv cb, iv pa, iv ra, iv ia, iv ka, iv da, iv lb, iv cc, iv ce, iv pb, iv rb, iv ib, iv kb, iv db, rv b12, .unset, .unset, .unset, .unset, .unset, .unset] [.ref x23, .ref x22, .ref x21, .ref x20, .ref b19, .ref b19])
                          refine gb (fun _ k => XS.iload X23.here hx rfl (hb hby at_352) rfl k) ?_
                          show G T23 (mkF m 354 #[iv i0, iv i1, iv i2, iv i3, iv la, iv ca, iv cb, iv pa, iv ra, iv ia, iv ka, iv da, iv lb, iv cc, iv ce, iv pb, iv rb, iv ib, iv kb, iv db, rv b12, .unset, .unset, .unset, .unset, .unset, .unset] [.int ib, .ref x23, .ref x22, .ref x21, .ref x20, .ref b19, .ref b19])
                          have J24 : ∀ (T24 : State) (locs24 : List Loc) (vm24 : Vm) (kn24 : Nat) (hS : s.Since vm24 kn24) (hk : kn24 ≤ h23.size) (hZ : Z.Warmed39 (s.setVm vm24).vm) (hown : (s.setVm vm24).vm.findClass "com/example/wrought_gate/wroughtgate/engine/SchemaLocationEqualsPinLaw" = some m.cls) (X24 : Stand p l e room_1 (s.setVm vm24) m #[(.int i0), (.int i1), (.int i2), (.int i3)] below meth c T24 locs24 28 110) (N : Fr n0 locs24) (e24 : T24.heap = h23) (HR : CHr Z [("com/example/wrought_gate/wroughtgate/engine/SchemaLocationEqualsPinLaw", 7)] s.vm h0 vm24 h23)   (fb : Int32) (hfb : ib = fb), G T24 (mkF m 362 #[iv i0, iv i1, iv i2, iv i3, iv la, iv ca, iv cb, iv pa, iv ra, iv ia, iv ka, iv da, iv lb, iv cc, iv ce, iv pb, iv rb, iv ib, iv kb, iv db, rv b12, .unset, .unset, .unset, .unset, .unset, .unset] [.int fb, .ref x23, .ref x22, .ref x21, .ref x20, .ref b19, .ref b19]) := by
                            intro T24 locs24 vm24 kn24 hS hk hZ hown X24 N e24 HR fb hfb
                            show G T24 (mkF m 362 #[iv i0, iv i1, iv i2, iv i3, iv la, iv ca, iv cb, iv pa, iv ra, iv ia, iv ka, iv da, iv lb, iv cc, iv ce, iv pb, iv rb, iv ib, iv kb, iv db, rv b12, .unset, .unset, .unset, .unset, .unset, .unset] [.int fb, .ref x23, .ref x22, .ref x21, .ref x20, .ref b19, .ref b19])
                            obtain ⟨_, _, ⟨T25, Lz25, kz25, nz25⟩, -, X25, hS25, hg25, ⟨Lc25, hQ25, lq25, yq25, zq25, hC25⟩, st25⟩ := X24.specialBackS hx (y := (⟨"com/example/wrought_gate/wroughtgate/engine/SchemaLocation", "<init>", "(Ljava/lang/String;Ljava/lang/String;Ljava/lang/String;Ljava/lang/String;Z)V"⟩ : MethodName)) rfl hown (mvT hZ (ow hw 15 rfl)) (mvT hZ (ow hw 16 rfl)) (mvT hZ (ow hw 17 rfl)) (by decide) (backOfSH (W := 1) (rmI l Z a0 hw [] b19 x20 x21 x22 x23 b20 b21 b22 b23 kb20 kb21 kb22 kb23 zz20 zz21 zz22 zz23 fb xs20 xs21 xs22 xs23 h23 n0 O zc S_cs hzc hEL (hfb ▸ hib) E_x20 F_coder_x20 F_value_x20 V_b20 hz20 E_x21 F_coder_x21 F_value_x21 V_b21 hz21 E_x22 F_coder_x22 F_value_x22 V_b22 hz22 E_x23 F_coder_x23 F_value_x23 V_b23 hz23 (by rw [hzp21]; exact own_z7 (own_in hlb hpb)) (by rw [hxs21, hxs20]; exact (own_pre hlb hpb).1) (by rw [hxs21, hxs20]; exact (own_pre hlb hpb).2) (by rw [hzp23]; exact own_z7 (own_in hlb hrb)) (by rw [hxs23, hxs20]; exact (own_pre hlb hrb).1) (by rw [hxs23, hxs20]; exact (own_pre hlb hrb).2) E_b19 F_pointer_b19 F_partLength_b19 F_resource_b19 F_resourceLength_b19 F_identified_b19 g_b19) hZ (ow hw 17 rfl) (ow hw 2 rfl) (by decide) (by decide) hEL HR.1) (g := (mkF m 362 #[iv i0, iv i1, iv i2, iv i3, iv la, iv ca, iv cb, iv pa, iv ra, iv ia, iv ka, iv da, iv lb, iv cc, iv ce, iv pb, iv rb, iv ib, iv kb, iv db, rv b12, .unset, .unset, .unset, .unset, .unset, .unset] [.int fb, .ref x23, .ref x22, .ref x21, .ref x20, .ref b19, .ref b19])) rfl (by rw [hml]; rfl) (Steps.refl _) (a := b19) (argsL := [(.ref x20), (.ref x21), (.ref x22), (.ref x23), (.int fb)]) (rest := [(.ref b19)]) (lenOf pd_16 rfl) rfl (by show 2 * 0 + _ ≤ _; exact Nat.le_of_eq rfl) (hb hby at_362) (fun _ _ => ⟨rfl, e24, (by decide : 28 + 2 ≤ _), (by decide : 110 + 36 ≤ _)⟩)
                            dsimp only [Pt.U, Pt.locs, Pt.cells, Pt.slots] at X25 lq25 yq25 zq25 st25 hQ25 hS25 hg25 hC25
                            subst lq25 yq25 zq25
                            obtain ⟨X25, hS, hZ, hown⟩ := rebS hS (Nat.le_trans hk (Nat.le_of_eq (congrArg Array.size e24.symm))) X25 hS25 hg25 hZ hown
                            obtain ⟨h25, e25⟩ : ∃ z, z = T25.heap := ⟨_, rfl⟩
                            rw [← e25] at hQ25 hC25
                            replace e25 := e25.symm
                            obtain ⟨rfl, Nq25, Kq25, hR25⟩ := hQ25
                            have N := Fr.app N Nq25
                            have HR := HR.trans hC25
                            have ne_x20_b19 : x20 ≠ b19 := (own_neEE E_x20 E_b19 (by decide))
                            have ne_b20_b19 : b20 ≠ b19 := (own_neEV E_b19 V_b20 (ow hw 1 rfl))
                            have ne_x21_b19 : x21 ≠ b19 := (own_neEE E_x21 E_b19 (by decide))
                            have ne_b21_b19 : b21 ≠ b19 := (own_neEV E_b19 V_b21 (ow hw 1 rfl))
                            have ne_x22_b19 : x22 ≠ b19 := (own_neEE E_x22 E_b19 (by decide))
                            have ne_b22_b19 : b22 ≠ b19 := (own_neEV E_b19 V_b22 (ow hw 1 rfl))
                            have ne_x23_b19 : x23 ≠ b19 := (own_neEE E_x23 E_b19 (by decide))
                            have ne_b23_b19 : b23 ≠ b19 := (own_neEV E_b19 V_b23 (ow hw 1 rfl))
                            have E_x13 := E_x13.keep Kq25
                            have F_coder_x13 := F_coder_x13.keep Kq25 (ninS ne_x13_b19 nin0)
                            have F_value_x13 := F_value_x13.keep Kq25 (ninS ne_x13_b19 nin0)
                            have V_b13 := V_b13.keep Kq25 (ninS ne_b13_b19 nin0)
                            have E_x14 := E_x14.keep Kq25
                            have F_coder_x14 := F_coder_x14.keep Kq25 (ninS ne_x14_b19 nin0)
                            have F_value_x14 := F_value_x14.keep Kq25 (ninS ne_x14_b19 nin0)
                            have V_b14 := V_b14.keep Kq25 (ninS ne_b14_b19 nin0)
                            have E_x15 := E_x15.keep Kq25
                            have F_coder_x15 := F_coder_x15.keep Kq25 (ninS ne_x15_b19 nin0)
                            have F_value_x15 := F_value_x15.keep Kq25 (ninS ne_x15_b19 nin0)
                            have V_b15 := V_b15.keep Kq25 (ninS ne_b15_b19 nin0)
                            have E_x16 := E_x16.keep Kq25
                            have F_coder_x16 := F_coder_x16.keep Kq25 (ninS ne_x16_b19 nin0)
                            have F_value_x16 := F_value_x16.keep Kq25 (ninS ne_x16_b19 nin0)
                            have V_b16 := V_b16.keep Kq25 (ninS ne_b16_b19 nin0)
                            have E_b12 := E_b12.keep Kq25
                            have F_pointer_b12 := F_pointer_b12.keep Kq25 (ninS ne_b12_b19 nin0)
                            have F_partLength_b12 := F_partLength_b12.keep Kq25 (ninS ne_b12_b19 nin0)
                            have F_resource_b12 := F_resource_b12.keep Kq25 (ninS ne_b12_b19 nin0)
                            have F_resourceLength_b12 := F_resourceLength_b12.keep Kq25 (ninS ne_b12_b19 nin0)
                            have F_identified_b12 := F_identified_b12.keep Kq25 (ninS ne_b12_b19 nin0)
                            have E_b19 := E_b19.keep Kq25
                            have E_x20 := E_x20.keep Kq25
                            have F_coder_x20 := F_coder_x20.keep Kq25 (ninS ne_x20_b19 nin0)
                            have F_value_x20 := F_value_x20.keep Kq25 (ninS ne_x20_b19 nin0)
                            have V_b20 := V_b20.keep Kq25 (ninS ne_b20_b19 nin0)
                            have E_x21 := E_x21.keep Kq25
                            have F_coder_x21 := F_coder_x21.keep Kq25 (ninS ne_x21_b19 nin0)
                            have F_value_x21 := F_value_x21.keep Kq25 (ninS ne_x21_b19 nin0)
                            have V_b21 := V_b21.keep Kq25 (ninS ne_b21_b19 nin0)
                            have E_x22 := E_x22.keep Kq25
                            have F_coder_x22 := F_coder_x22.keep Kq25 (ninS ne_x22_b19 nin0)
                            have F_value_x22 := F_value_x22.keep Kq25 (ninS ne_x22_b19 nin0)
                            have V_b22 := V_b22.keep Kq25 (ninS ne_b22_b19 nin0)
                            have E_x23 := E_x23.keep Kq25
                            have F_coder_x23 := F_coder_x23.keep Kq25 (ninS ne_x23_b19 nin0)
                            have F_value_x23 := F_value_x23.keep Kq25 (ninS ne_x23_b19 nin0)
                            have V_b23 := V_b23.keep Kq25 (ninS ne_b23_b19 nin0)
                            have hk := Nat.le_trans hk Kq25.1
                            have hk : T25.heap.size ≤ h25.size := by rw [e25]; exact Nat.le_refl _
                            obtain ⟨E_b19, F_pointer_b19, F_partLength_b19, F_resource_b19, F_resourceLength_b19, F_identified_b19⟩ := hR25
                            have O := O.keep Kq25 (allS g_b19 all0)
                            refine gb (fun _ k => st25.trans k) ?_
                            show G T25 (mkF m 365 #[iv i0, iv i1, iv i2, iv i3, iv la, iv ca, iv cb, iv pa, iv ra, iv ia, iv ka, iv da, iv lb, iv cc, iv ce, iv pb, iv rb, iv ib, iv kb, iv db, rv b12, .unset, .unset, .unset, .unset, .unset, .unset] [.ref b19])
                            refine gb (fun _ k => XS.astore X25.here hx rfl (hb hby at_365) rfl rfl (l' := #[iv i0, iv i1, iv i2, iv i3, iv la, iv ca, iv cb, iv pa, iv ra, iv ia, iv ka, iv da, iv lb, iv cc, iv ce, iv pb, iv rb, iv ib, iv kb, iv db, rv b12, rv b19, .unset, .unset, .unset, .unset, .unset]) rfl k) ?_
                            show G T25 (mkF m 367 #[iv i0, iv i1, iv i2, iv i3, iv la, iv ca, iv cb, iv pa, iv ra, iv ia, iv ka, iv da, iv lb, iv cc, iv ce, iv pb, iv rb, iv ib, iv kb, iv db, rv b12, rv b19, .unset, .unset, .unset, .unset, .unset] [])
                            have J26 : ∀ (T26 : State) (locs26 : List Loc) (vm26 : Vm) (kn26 : Nat) (hS : s.Since vm26 kn26) (hk : kn26 ≤ h25.size) (hZ : Z.Warmed39 (s.setVm vm26).vm) (hown : (s.setVm vm26).vm.findClass "com/example/wrought_gate/wroughtgate/engine/SchemaLocationEqualsPinLaw" = some m.cls) (X26 : Stand p l e room_1 (s.setVm vm26) m #[(.int i0), (.int i1), (.int i2), (.int i3)] below meth c T26 locs26 30 146) (N : Fr n0 locs26) (e26 : T26.heap = h25) (HR : CHr Z [("com/example/wrought_gate/wroughtgate/engine/SchemaLocationEqualsPinLaw", 7)] s.vm h0 vm26 h25)   (sp : Int32) (hsp : (if own_sl la ca cb = own_sl lb cc ce then (1 : Int32) else (0 : Int32)) = sp), G T26 (mkF m 405 #[iv i0, iv i1, iv i2, iv i3, iv la, iv ca, iv cb, iv pa, iv ra, iv ia, iv ka, iv da, iv lb, iv cc, iv ce, iv pb, iv rb, iv ib, iv kb, iv db, rv b12, rv b19, .unset, .unset, .unset, .unset, .unset] [.int sp]) := by
                              intro T26 locs26 vm26 kn26 hS hk hZ hown X26 N e26 HR sp hsp
                              show G T26 (mkF m 405 #[iv i0, iv i1, iv i2, iv i3, iv la, iv ca, iv cb, iv pa, iv ra, iv ia, iv ka, iv da, iv lb, iv cc, iv ce, iv pb, iv rb, iv ib, iv kb, iv db, rv b12, rv b19, .unset, .unset, .unset, .unset, .unset] [.int sp])
                              refine gb (fun _ k => XS.istore X26.here hx rfl (hb hby at_405) rfl (l' := #[iv i0, iv i1, iv i2, iv i3, iv la, iv ca, iv cb, iv pa, iv ra, iv ia, iv ka, iv da, iv lb, iv cc, iv ce, iv pb, iv rb, iv ib, iv kb, iv db, rv b12, rv b19, iv sp, .unset, .unset, .unset, .unset]) rfl k) ?_
                              show G T26 (mkF m 407 #[iv i0, iv i1, iv i2, iv i3, iv la, iv ca, iv cb, iv pa, iv ra, iv ia, iv ka, iv da, iv lb, iv cc, iv ce, iv pb, iv rb, iv ib, iv kb, iv db, rv b12, rv b19, iv sp, .unset, .unset, .unset, .unset] [])
                              have J27 : ∀ (T27 : State) (locs27 : List Loc) (vm27 : Vm) (kn27 : Nat) (hS : s.Since vm27 kn27) (hk : kn27 ≤ h25.size) (hZ : Z.Warmed39 (s.setVm vm27).vm) (hown : (s.setVm vm27).vm.findClass "com/example/wrought_gate/wroughtgate/engine/SchemaLocationEqualsPinLaw" = some m.cls) (X27 : Stand p l e room_1 (s.setVm vm27) m #[(.int i0), (.int i1), (.int i2), (.int i3)] below meth c T27 locs27 30 146) (N : Fr n0 locs27) (e27 : T27.heap = h25) (HR : CHr Z [("com/example/wrought_gate/wroughtgate/engine/SchemaLocationEqualsPinLaw", 7)] s.vm h0 vm27 h25)   (sr : Int32) (hsr : (if own_sl ka da da = own_sl kb db db then (1 : Int32) else (0 : Int32)) = sr), G T27 (mkF m 431 #[iv i0, iv i1, iv i2, iv i3, iv la, iv ca, iv cb, iv pa, iv ra, iv ia, iv ka, iv da, iv lb, iv cc, iv ce, iv pb, iv rb, iv ib, iv kb, iv db, rv b12, rv b19, iv sp, .unset, .unset, .unset, .unset] [.int sr]) := by
                                intro T27 locs27 vm27 kn27 hS hk hZ hown X27 N e27 HR sr hsr
                                show G T27 (mkF m 431 #[iv i0, iv i1, iv i2, iv i3, iv la, iv ca, iv cb, iv pa, iv ra, iv ia, iv ka, iv da, iv lb, iv cc, iv ce, iv pb, iv rb, iv ib, iv kb, iv db, rv b12, rv b19, iv sp, .unset, .unset, .unset, .unset] [.int sr])
                                refine gb (fun _ k => XS.istore X27.here hx rfl (hb hby at_431) rfl (l' := #[iv i0, iv i1, iv i2, iv i3, iv la, iv ca, iv cb, iv pa, iv ra, iv ia, iv ka, iv da, iv lb, iv cc, iv ce, iv pb, iv rb, iv ib, iv kb, iv db, rv b12, rv b19, iv sp, iv sr, .unset, .unset, .unset]) rfl k) ?_
                                show G T27 (mkF m 433 #[iv i0, iv i1, iv i2, iv i3, iv la, iv ca, iv cb, iv pa, iv ra, iv ia, iv ka, iv da, iv lb, iv cc, iv ce, iv pb, iv rb, iv ib, iv kb, iv db, rv b12, rv b19, iv sp, iv sr, .unset, .unset, .unset] [])
                                have J28 : ∀ (T28 : State) (locs28 : List Loc) (vm28 : Vm) (kn28 : Nat) (hS : s.Since vm28 kn28) (hk : kn28 ≤ h25.size) (hZ : Z.Warmed39 (s.setVm vm28).vm) (hown : (s.setVm vm28).vm.findClass "com/example/wrought_gate/wroughtgate/engine/SchemaLocationEqualsPinLaw" = some m.cls) (X28 : Stand p l e room_1 (s.setVm vm28) m #[(.int i0), (.int i1), (.int i2), (.int i3)] below meth c T28 locs28 30 146) (N : Fr n0 locs28) (e28 : T28.heap = h25) (HR : CHr Z [("com/example/wrought_gate/wroughtgate/engine/SchemaLocationEqualsPinLaw", 7)] s.vm h0 vm28 h25)   (ex : Int32) (hex : own_E (own_sl la ca cb) (own_sl lb cc ce) pa pb (own_sl ka da da) (own_sl kb db db) ra rb ia ib = ex), G T28 (mkF m 469 #[iv i0, iv i1, iv i2, iv i3, iv la, iv ca, iv cb, iv pa, iv ra, iv ia, iv ka, iv da, iv lb, iv cc, iv ce, iv pb, iv rb, iv ib, iv kb, iv db, rv b12, rv b19, iv sp, iv sr, .unset, .unset, .unset] [.int ex]) := by
                                  intro T28 locs28 vm28 kn28 hS hk hZ hown X28 N e28 HR ex hex
                                  show G T28 (mkF m 469 #[iv i0, iv i1, iv i2, iv i3, iv la, iv ca, iv cb, iv pa, iv ra, iv ia, iv ka, iv da, iv lb, iv cc, iv ce, iv pb, iv rb, iv ib, iv kb, iv db, rv b12, rv b19, iv sp, iv sr, .unset, .unset, .unset] [.int ex])
                                  refine gb (fun _ k => XS.istore X28.here hx rfl (hb hby at_469) rfl (l' := #[iv i0, iv i1, iv i2, iv i3, iv la, iv ca, iv cb, iv pa, iv ra, iv ia, iv ka, iv da, iv lb, iv cc, iv ce, iv pb, iv rb, iv ib, iv kb, iv db, rv b12, rv b19, iv sp, iv sr, iv ex, .unset, .unset]) rfl (XS.aload X28.here hx rfl (hb hby at_471) rfl rfl (XS.aload X28.here hx rfl (hb hby at_473) rfl rfl k))) ?_
                                  show G T28 (mkF m 475 #[iv i0, iv i1, iv i2, iv i3, iv la, iv ca, iv cb, iv pa, iv ra, iv ia, iv ka, iv da, iv lb, iv cc, iv ce, iv pb, iv rb, iv ib, iv kb, iv db, rv b12, rv b19, iv sp, iv sr, iv ex, .unset, .unset] [.ref b19, .ref b12])
                                  obtain ⟨cq29, kq29, q29a, q29b, q29c⟩ := isOf hZ e28 E_b12
                                  obtain ⟨_, _, ⟨T29, Lz29, kz29, nz29⟩, -, X29, ⟨Lc29, hQ29, lq29, yq29, zq29⟩, st29⟩ := X28.virtualBack hx (y := (⟨"com/example/wrought_gate/wroughtgate/engine/SchemaLocation", "equals", "(Ljava/lang/Object;)Z"⟩ : MethodName)) (z := (⟨"com/example/wrought_gate/wroughtgate/engine/SchemaLocation", "equals", "(Ljava/lang/Object;)Z"⟩ : MethodName)) hown (mvT hZ (ow hw 66 rfl)) (mvT hZ (ow hw 67 rfl)) (notFace_of_selects (args := #[]) (mvT hZ (ow hw 69 rfl))) (mvT hZ (ow hw 69 rfl)) (mvT hZ (ow hw 68 rfl)) (by decide) (backOf (W := 0) (rmQ l Z a0 hw [] b12 b19 x13 x20 x15 x22 b13 b20 b15 b22 kb13 kb20 kb15 kb22 zz13 zz20 zz15 zz22 zz14 zz21 zz16 zz23 fa fb ex xs13 xs20 xs15 xs22 h25 n0 O zc S_cs hzc E_x13 F_coder_x13 F_value_x13 V_b13 hz13 E_x20 F_coder_x20 F_value_x20 V_b20 hz20 E_x15 F_coder_x15 F_value_x15 V_b15 hz15 E_x22 F_coder_x22 F_value_x22 V_b22 hz22 E_b12 F_pointer_b12 F_partLength_b12 F_resource_b12 F_resourceLength_b12 F_identified_b12 E_b19 F_pointer_b19 F_partLength_b19 F_resource_b19 F_resourceLength_b19 F_identified_b19 (by rw [hxs13, hxs20, hxs15, hxs22, hzp14, hzp21, hzp16, hzp23, ← hfa, ← hfb]; exact hex)) hZ (ow hw 70 rfl) (ow hw 2 rfl) (by decide) (by decide)) q29a q29c (g := (mkF m 475 #[iv i0, iv i1, iv i2, iv i3, iv la, iv ca, iv cb, iv pa, iv ra, iv ia, iv ka, iv da, iv lb, iv cc, iv ce, iv pb, iv rb, iv ib, iv kb, iv db, rv b12, rv b19, iv sp, iv sr, iv ex, .unset, .unset] [.ref b19, .ref b12])) rfl (by rw [hml]; rfl) (Steps.refl _) (argsL := [(.ref b19)]) (rest := []) (lenOf pd_12 rfl) rfl (by show 2 * 0 + _ ≤ _; exact Nat.le_of_eq rfl) (hb hby at_475) (fun _ _ => ⟨rfl, e28, (by decide : 30 + 0 ≤ _), (by decide : 146 + 0 ≤ _)⟩)
                                  dsimp only [Pt.U, Pt.locs, Pt.cells, Pt.slots] at X29 lq29 yq29 zq29 st29 hQ29
                                  subst lq29 yq29 zq29
                                  obtain ⟨rfl, rfl, e29⟩ := hQ29
                                  try rw [List.append_nil] at X29
                                  refine gb (fun _ k => st29.trans k) ?_
                                  show G T29 (mkF m 478 #[iv i0, iv i1, iv i2, iv i3, iv la, iv ca, iv cb, iv pa, iv ra, iv ia, iv ka, iv da, iv lb, iv cc, iv ce, iv pb, iv rb, iv ib, iv kb, iv db, rv b12, rv b19, iv sp, iv sr, iv ex, .unset, .unset] [.int ex])
                                  refine gb (fun _ k => XS.istore X29.here hx rfl (hb hby at_478) rfl (l' := #[iv i0, iv i1, iv i2, iv i3, iv la, iv ca, iv cb, iv pa, iv ra, iv ia, iv ka, iv da, iv lb, iv cc, iv ce, iv pb, iv rb, iv ib, iv kb, iv db, rv b12, rv b19, iv sp, iv sr, iv ex, iv ex, .unset]) rfl (XS.aload X29.here hx rfl (hb hby at_480) rfl rfl (XS.aload X29.here hx rfl (hb hby at_482) rfl rfl k))) ?_
                                  show G T29 (mkF m 484 #[iv i0, iv i1, iv i2, iv i3, iv la, iv ca, iv cb, iv pa, iv ra, iv ia, iv ka, iv da, iv lb, iv cc, iv ce, iv pb, iv rb, iv ib, iv kb, iv db, rv b12, rv b19, iv sp, iv sr, iv ex, iv ex, .unset] [.ref b12, .ref b19])
                                  obtain ⟨cq30, kq30, q30a, q30b, q30c⟩ := isOf hZ e29 E_b19
                                  obtain ⟨_, _, ⟨T30, Lz30, kz30, nz30⟩, -, X30, ⟨Lc30, hQ30, lq30, yq30, zq30⟩, st30⟩ := X29.virtualBack hx (y := (⟨"com/example/wrought_gate/wroughtgate/engine/SchemaLocation", "equals", "(Ljava/lang/Object;)Z"⟩ : MethodName)) (z := (⟨"com/example/wrought_gate/wroughtgate/engine/SchemaLocation", "equals", "(Ljava/lang/Object;)Z"⟩ : MethodName)) hown (mvT hZ (ow hw 66 rfl)) (mvT hZ (ow hw 67 rfl)) (notFace_of_selects (args := #[]) (mvT hZ (ow hw 69 rfl))) (mvT hZ (ow hw 69 rfl)) (mvT hZ (ow hw 68 rfl)) (by decide) (backOf (W := 0) (rmQ l Z a0 hw [] b19 b12 x20 x13 x22 x15 b20 b13 b22 b15 kb20 kb13 kb22 kb15 zz20 zz13 zz22 zz15 zz21 zz14 zz23 zz16 fb fa ex xs20 xs13 xs22 xs15 h25 n0 O zc S_cs hzc E_x20 F_coder_x20 F_value_x20 V_b20 hz20 E_x13 F_coder_x13 F_value_x13 V_b13 hz13 E_x22 F_coder_x22 F_value_x22 V_b22 hz22 E_x15 F_coder_x15 F_value_x15 V_b15 hz15 E_b19 F_pointer_b19 F_partLength_b19 F_resource_b19 F_resourceLength_b19 F_identified_b19 E_b12 F_pointer_b12 F_partLength_b12 F_resource_b12 F_resourceLength_b12 F_identified_b12 (by rw [hxs20, hxs13, hxs22, hxs15, hzp21, hzp14, hzp23, hzp16, ← hfa, ← hfb]; exact (own_Esym _ _ _ _ _ _ _ _ _ _).trans hex)) hZ (ow hw 70 rfl) (ow hw 2 rfl) (by decide) (by decide)) q30a q30c (g := (mkF m 484 #[iv i0, iv i1, iv i2, iv i3, iv la, iv ca, iv cb, iv pa, iv ra, iv ia, iv ka, iv da, iv lb, iv cc, iv ce, iv pb, iv rb, iv ib, iv kb, iv db, rv b12, rv b19, iv sp, iv sr, iv ex, iv ex, .unset] [.ref b12, .ref b19])) rfl (by rw [hml]; rfl) (Steps.refl _) (argsL := [(.ref b12)]) (rest := []) (lenOf pd_12 rfl) rfl (by show 2 * 0 + _ ≤ _; exact Nat.le_of_eq rfl) (hb hby at_484) (fun _ _ => ⟨rfl, e29, (by decide : 30 + 0 ≤ _), (by decide : 146 + 0 ≤ _)⟩)
                                  dsimp only [Pt.U, Pt.locs, Pt.cells, Pt.slots] at X30 lq30 yq30 zq30 st30 hQ30
                                  subst lq30 yq30 zq30
                                  obtain ⟨rfl, rfl, e30⟩ := hQ30
                                  try rw [List.append_nil] at X30
                                  refine gb (fun _ k => st30.trans k) ?_
                                  show G T30 (mkF m 487 #[iv i0, iv i1, iv i2, iv i3, iv la, iv ca, iv cb, iv pa, iv ra, iv ia, iv ka, iv da, iv lb, iv cc, iv ce, iv pb, iv rb, iv ib, iv kb, iv db, rv b12, rv b19, iv sp, iv sr, iv ex, iv ex, .unset] [.int ex])
                                  refine gb (fun _ k => XS.istore X30.here hx rfl (hb hby at_487) rfl (l' := #[iv i0, iv i1, iv i2, iv i3, iv la, iv ca, iv cb, iv pa, iv ra, iv ia, iv ka, iv da, iv lb, iv cc, iv ce, iv pb, iv rb, iv ib, iv kb, iv db, rv b12, rv b19, iv sp, iv sr, iv ex, iv ex, iv ex]) rfl (XS.iload X30.here hx rfl (hb hby at_489) rfl (XS.iload X30.here hx rfl (hb hby at_491) rfl (XS.icmpNo X30.here hx rfl (hb hby at_493) rfl (teq (rfl : ex = ex)).2 (XS.iload X30.here hx rfl (hb hby at_496) rfl (XS.iload X30.here hx rfl (hb hby at_498) rfl k)))))) ?_
                                  show G T30 (mkF m 500 #[iv i0, iv i1, iv i2, iv i3, iv la, iv ca, iv cb, iv pa, iv ra, iv ia, iv ka, iv da, iv lb, iv cc, iv ce, iv pb, iv rb, iv ib, iv kb, iv db, rv b12, rv b19, iv sp, iv sr, iv ex, iv ex, iv ex] [.int ex, .int ex])
                                  refine gb (fun _ k => XS.icmpNo X30.here hx rfl (hb hby at_500) rfl (teq (rfl : ex = ex)).2 (XS.aload X30.here hx rfl (hb hby at_503) rfl rfl (XS.aload X30.here hx rfl (hb hby at_505) rfl rfl k))) ?_
                                  show G T30 (mkF m 507 #[iv i0, iv i1, iv i2, iv i3, iv la, iv ca, iv cb, iv pa, iv ra, iv ia, iv ka, iv da, iv lb, iv cc, iv ce, iv pb, iv rb, iv ib, iv kb, iv db, rv b12, rv b19, iv sp, iv sr, iv ex, iv ex, iv ex] [.ref b12, .ref b12])
                                  obtain ⟨cq31, kq31, q31a, q31b, q31c⟩ := isOf hZ e30 E_b12
                                  obtain ⟨_, _, ⟨T31, Lz31, kz31, nz31⟩, -, X31, ⟨Lc31, hQ31, lq31, yq31, zq31⟩, st31⟩ := X30.virtualBack hx (y := (⟨"com/example/wrought_gate/wroughtgate/engine/SchemaLocation", "equals", "(Ljava/lang/Object;)Z"⟩ : MethodName)) (z := (⟨"com/example/wrought_gate/wroughtgate/engine/SchemaLocation", "equals", "(Ljava/lang/Object;)Z"⟩ : MethodName)) hown (mvT hZ (ow hw 66 rfl)) (mvT hZ (ow hw 67 rfl)) (notFace_of_selects (args := #[]) (mvT hZ (ow hw 69 rfl))) (mvT hZ (ow hw 69 rfl)) (mvT hZ (ow hw 68 rfl)) (by decide) (backOf (W := 0) (rmQ l Z a0 hw [] b12 b12 x13 x13 x15 x15 b13 b13 b15 b15 kb13 kb13 kb15 kb15 zz13 zz13 zz15 zz15 zz14 zz14 zz16 zz16 fa fa (1 : Int32) xs13 xs13 xs15 xs15 h25 n0 O zc S_cs hzc E_x13 F_coder_x13 F_value_x13 V_b13 hz13 E_x13 F_coder_x13 F_value_x13 V_b13 hz13 E_x15 F_coder_x15 F_value_x15 V_b15 hz15 E_x15 F_coder_x15 F_value_x15 V_b15 hz15 E_b12 F_pointer_b12 F_partLength_b12 F_resource_b12 F_resourceLength_b12 F_identified_b12 E_b12 F_pointer_b12 F_partLength_b12 F_resource_b12 F_resourceLength_b12 F_identified_b12 (own_Eself _ _ _ _ _)) hZ (ow hw 70 rfl) (ow hw 2 rfl) (by decide) (by decide)) q31a q31c (g := (mkF m 507 #[iv i0, iv i1, iv i2, iv i3, iv la, iv ca, iv cb, iv pa, iv ra, iv ia, iv ka, iv da, iv lb, iv cc, iv ce, iv pb, iv rb, iv ib, iv kb, iv db, rv b12, rv b19, iv sp, iv sr, iv ex, iv ex, iv ex] [.ref b12, .ref b12])) rfl (by rw [hml]; rfl) (Steps.refl _) (argsL := [(.ref b12)]) (rest := []) (lenOf pd_12 rfl) rfl (by show 2 * 0 + _ ≤ _; exact Nat.le_of_eq rfl) (hb hby at_507) (fun _ _ => ⟨rfl, e30, (by decide : 30 + 0 ≤ _), (by decide : 146 + 0 ≤ _)⟩)
                                  dsimp only [Pt.U, Pt.locs, Pt.cells, Pt.slots] at X31 lq31 yq31 zq31 st31 hQ31
                                  subst lq31 yq31 zq31
                                  obtain ⟨rfl, rfl, e31⟩ := hQ31
                                  try rw [List.append_nil] at X31
                                  refine gb (fun _ k => st31.trans k) ?_
                                  show G T31 (mkF m 510 #[iv i0, iv i1, iv i2, iv i3, iv la, iv ca, iv cb, iv pa, iv ra, iv ia, iv ka, iv da, iv lb, iv cc, iv ce, iv pb, iv rb, iv ib, iv kb, iv db, rv b12, rv b19, iv sp, iv sr, iv ex, iv ex, iv ex] [.int 1])
                                  refine gb (fun _ k => XS.ifNo X31.here hx rfl (hb hby at_510) rfl ((if0 _ _).trans (feq (by decide : ¬ ((1 : Int32) = (0 : Int32)))).1) (XS.aload X31.here hx rfl (hb hby at_513) rfl rfl (XS.aconstNull X31.here hx rfl (hb hby at_515) k))) ?_
                                  show G T31 (mkF m 516 #[iv i0, iv i1, iv i2, iv i3, iv la, iv ca, iv cb, iv pa, iv ra, iv ia, iv ka, iv da, iv lb, iv cc, iv ce, iv pb, iv rb, iv ib, iv kb, iv db, rv b12, rv b19, iv sp, iv sr, iv ex, iv ex, iv ex] [.null, .ref b12])
                                  obtain ⟨cq32, kq32, q32a, q32b, q32c⟩ := isOf hZ e31 E_b12
                                  obtain ⟨_, _, ⟨T32, Lz32, kz32, nz32⟩, -, X32, ⟨Lc32, hQ32, lq32, yq32, zq32⟩, st32⟩ := X31.virtualBack hx (y := (⟨"com/example/wrought_gate/wroughtgate/engine/SchemaLocation", "equals", "(Ljava/lang/Object;)Z"⟩ : MethodName)) (z := (⟨"com/example/wrought_gate/wroughtgate/engine/SchemaLocation", "equals", "(Ljava/lang/Object;)Z"⟩ : MethodName)) hown (mvT hZ (ow hw 66 rfl)) (mvT hZ (ow hw 67 rfl)) (notFace_of_selects (args := #[]) (mvT hZ (ow hw 69 rfl))) (mvT hZ (ow hw 69 rfl)) (mvT hZ (ow hw 68 rfl)) (by decide) (backOf (W := 0) (rmQN l Z a0 hw [] b12 h25 n0 O) hZ (ow hw 70 rfl) (ow hw 2 rfl) (by decide) (by decide)) q32a q32c (g := (mkF m 516 #[iv i0, iv i1, iv i2, iv i3, iv la, iv ca, iv cb, iv pa, iv ra, iv ia, iv ka, iv da, iv lb, iv cc, iv ce, iv pb, iv rb, iv ib, iv kb, iv db, rv b12, rv b19, iv sp, iv sr, iv ex, iv ex, iv ex] [.null, .ref b12])) rfl (by rw [hml]; rfl) (Steps.refl _) (argsL := [.null]) (rest := []) (lenOf pd_12 rfl) rfl (by show 2 * 0 + _ ≤ _; exact Nat.le_of_eq rfl) (hb hby at_516) (fun _ _ => ⟨rfl, e31, (by decide : 30 + 0 ≤ _), (by decide : 146 + 0 ≤ _)⟩)
                                  dsimp only [Pt.U, Pt.locs, Pt.cells, Pt.slots] at X32 lq32 yq32 zq32 st32 hQ32
                                  subst lq32 yq32 zq32
                                  obtain ⟨rfl, rfl, e32⟩ := hQ32
                                  try rw [List.append_nil] at X32
                                  refine gb (fun _ k => st32.trans k) ?_
                                  show G T32 (mkF m 519 #[iv i0, iv i1, iv i2, iv i3, iv la, iv ca, iv cb, iv pa, iv ra, iv ia, iv ka, iv da, iv lb, iv cc, iv ce, iv pb, iv rb, iv ib, iv kb, iv db, rv b12, rv b19, iv sp, iv sr, iv ex, iv ex, iv ex] [.int 0])
                                  refine gb (fun _ k => XS.ifNo X32.here hx rfl (hb hby at_519) rfl ((if0 _ _).trans (teq (by decide : (0 : Int32) = (0 : Int32))).2) (XS.aload X32.here hx rfl (hb hby at_522) rfl rfl (XS.iloadN X32.here hx rfl (hb hby at_524) rfl k))) ?_
                                  show G T32 (mkF m 525 #[iv i0, iv i1, iv i2, iv i3, iv la, iv ca, iv cb, iv pa, iv ra, iv ia, iv ka, iv da, iv lb, iv cc, iv ce, iv pb, iv rb, iv ib, iv kb, iv db, rv b12, rv b19, iv sp, iv sr, iv ex, iv ex, iv ex] [.int i0, .ref b12])
                                  have Sk33 := sf0 (Z := Z) (EL := [("com/example/wrought_gate/wroughtgate/engine/SchemaLocationEqualsPinLaw", 7)]) (vm := vm28) (h := h25)
                                  obtain ⟨_, _, ⟨T33, Lz33, kz33, nz33⟩, -, X33, ⟨Lc33, hQ33, lq33, yq33, zq33⟩, st33⟩ := Jvm.LawKit.callS X32 hx (y := (⟨"java/lang/Integer", "valueOf", "(I)Ljava/lang/Integer;"⟩ : MethodName)) hown (mvT hZ (ow hw 78 rfl)) (mvT hZ (ow hw 79 rfl)) (mvT hZ (ow hw 80 rfl)) (mvT hZ (ow hw 81 rfl)) (by decide) (backOf (W := 1) (rmIV l Z a0 hw [] i0 h25 n0 O wC cC val S_high S_cache Bx) hZ (ow hw 81 rfl) (ow hw 80 rfl) (by decide) (by decide)) (g := (mkF m 525 #[iv i0, iv i1, iv i2, iv i3, iv la, iv ca, iv cb, iv pa, iv ra, iv ia, iv ka, iv da, iv lb, iv cc, iv ce, iv pb, iv rb, iv ib, iv kb, iv db, rv b12, rv b19, iv sp, iv sr, iv ex, iv ex, iv ex] [.int i0, .ref b12])) rfl (by rw [hml]; rfl) (argsL := [(.int i0)]) (rest := [(.ref b12)]) (lenOf pd_17 rfl) rfl (by show 2 * 0 + _ ≤ _; exact Nat.le_of_eq rfl) (hb hby at_525) (fun _ _ => ⟨rfl, e32, (by decide : 30 + 1 ≤ _), (by decide : 146 + 1 ≤ _)⟩)
                                  dsimp only [Pt.U, Pt.locs, Pt.cells, Pt.slots] at X33 lq33 yq33 zq33 st33 hQ33
                                  subst lq33 yq33 zq33
                                  obtain ⟨h33, e33⟩ : ∃ z, z = T33.heap := ⟨_, rfl⟩
                                  rw [← e33] at hQ33
                                  replace e33 := e33.symm
                                  obtain ⟨t33, rfl, Nq33, Kq33, hR33⟩ := hQ33
                                  have N := Fr.app N Nq33
                                  have HR := HR.trans (CHr.keep Kq33 Sk33 HR.1)
                                  have E_x13 := E_x13.keep Kq33
                                  have F_coder_x13 := F_coder_x13.keep Kq33 nin0
                                  have F_value_x13 := F_value_x13.keep Kq33 nin0
                                  have V_b13 := V_b13.keep Kq33 nin0
                                  have E_x14 := E_x14.keep Kq33
                                  have F_coder_x14 := F_coder_x14.keep Kq33 nin0
                                  have F_value_x14 := F_value_x14.keep Kq33 nin0
                                  have V_b14 := V_b14.keep Kq33 nin0
                                  have E_x15 := E_x15.keep Kq33
                                  have F_coder_x15 := F_coder_x15.keep Kq33 nin0
                                  have F_value_x15 := F_value_x15.keep Kq33 nin0
                                  have V_b15 := V_b15.keep Kq33 nin0
                                  have E_x16 := E_x16.keep Kq33
                                  have F_coder_x16 := F_coder_x16.keep Kq33 nin0
                                  have F_value_x16 := F_value_x16.keep Kq33 nin0
                                  have V_b16 := V_b16.keep Kq33 nin0
                                  have E_b12 := E_b12.keep Kq33
                                  have F_pointer_b12 := F_pointer_b12.keep Kq33 nin0
                                  have F_partLength_b12 := F_partLength_b12.keep Kq33 nin0
                                  have F_resource_b12 := F_resource_b12.keep Kq33 nin0
                                  have F_resourceLength_b12 := F_resourceLength_b12.keep Kq33 nin0
                                  have F_identified_b12 := F_identified_b12.keep Kq33 nin0
                                  have E_x20 := E_x20.keep Kq33
                                  have F_coder_x20 := F_coder_x20.keep Kq33 nin0
                                  have F_value_x20 := F_value_x20.keep Kq33 nin0
                                  have V_b20 := V_b20.keep Kq33 nin0
                                  have E_x21 := E_x21.keep Kq33
                                  have F_coder_x21 := F_coder_x21.keep Kq33 nin0
                                  have F_value_x21 := F_value_x21.keep Kq33 nin0
                                  have V_b21 := V_b21.keep Kq33 nin0
                                  have E_x22 := E_x22.keep Kq33
                                  have F_coder_x22 := F_coder_x22.keep Kq33 nin0
                                  have F_value_x22 := F_value_x22.keep Kq33 nin0
                                  have V_b22 := V_b22.keep Kq33 nin0
                                  have E_x23 := E_x23.keep Kq33
                                  have F_coder_x23 := F_coder_x23.keep Kq33 nin0
                                  have F_value_x23 := F_value_x23.keep Kq33 nin0
                                  have V_b23 := V_b23.keep Kq33 nin0
                                  have E_b19 := E_b19.keep Kq33
                                  have F_pointer_b19 := F_pointer_b19.keep Kq33 nin0
                                  have F_partLength_b19 := F_partLength_b19.keep Kq33 nin0
                                  have F_resource_b19 := F_resource_b19.keep Kq33 nin0
                                  have F_resourceLength_b19 := F_resourceLength_b19.keep Kq33 nin0
                                  have F_identified_b19 := F_identified_b19.keep Kq33 nin0
                                  have hk := Nat.le_trans hk Kq33.1
                                  have Et33 := hR33
                                  have O := O.keep Kq33 all0
                                  refine gb st33 ?_
                                  show G T33 (mkF m 528 #[iv i0, iv i1, iv i2, iv i3, iv la, iv ca, iv cb, iv pa, iv ra, iv ia, iv ka, iv da, iv lb, iv cc, iv ce, iv pb, iv rb, iv ib, iv kb, iv db, rv b12, rv b19, iv sp, iv sr, iv ex, iv ex, iv ex] [.ref t33, .ref b12])
                                  obtain ⟨cq34, kq34, q34a, q34b, q34c⟩ := isOf hZ e33 E_b12
                                  obtain ⟨_, _, ⟨T34, Lz34, kz34, nz34⟩, -, X34, ⟨Lc34, hQ34, lq34, yq34, zq34⟩, st34⟩ := X33.virtualBack hx (y := (⟨"com/example/wrought_gate/wroughtgate/engine/SchemaLocation", "equals", "(Ljava/lang/Object;)Z"⟩ : MethodName)) (z := (⟨"com/example/wrought_gate/wroughtgate/engine/SchemaLocation", "equals", "(Ljava/lang/Object;)Z"⟩ : MethodName)) hown (mvT hZ (ow hw 66 rfl)) (mvT hZ (ow hw 67 rfl)) (notFace_of_selects (args := #[]) (mvT hZ (ow hw 69 rfl))) (mvT hZ (ow hw 69 rfl)) (mvT hZ (ow hw 68 rfl)) (by decide) (backOf (W := 0) (rmQI l Z a0 hw [] b12 t33 h33 n0 O Et33) hZ (ow hw 70 rfl) (ow hw 2 rfl) (by decide) (by decide)) q34a q34c (g := (mkF m 528 #[iv i0, iv i1, iv i2, iv i3, iv la, iv ca, iv cb, iv pa, iv ra, iv ia, iv ka, iv da, iv lb, iv cc, iv ce, iv pb, iv rb, iv ib, iv kb, iv db, rv b12, rv b19, iv sp, iv sr, iv ex, iv ex, iv ex] [.ref t33, .ref b12])) rfl (by rw [hml]; rfl) (Steps.refl _) (argsL := [(.ref t33)]) (rest := []) (lenOf pd_12 rfl) rfl (by show 2 * 0 + _ ≤ _; exact Nat.le_of_eq rfl) (hb hby at_528) (fun _ _ => ⟨rfl, e33, (by decide : 31 + 0 ≤ _), (by decide : 147 + 0 ≤ _)⟩)
                                  dsimp only [Pt.U, Pt.locs, Pt.cells, Pt.slots] at X34 lq34 yq34 zq34 st34 hQ34
                                  subst lq34 yq34 zq34
                                  obtain ⟨rfl, rfl, e34⟩ := hQ34
                                  try rw [List.append_nil] at X34
                                  refine gb (fun _ k => st34.trans k) ?_
                                  show G T34 (mkF m 531 #[iv i0, iv i1, iv i2, iv i3, iv la, iv ca, iv cb, iv pa, iv ra, iv ia, iv ka, iv da, iv lb, iv cc, iv ce, iv pb, iv rb, iv ib, iv kb, iv db, rv b12, rv b19, iv sp, iv sr, iv ex, iv ex, iv ex] [.int 0])
                                  refine gb (fun _ k => XS.ifNo X34.here hx rfl (hb hby at_531) rfl ((if0 _ _).trans (teq (by decide : (0 : Int32) = (0 : Int32))).2) (XS.iconst X34.here hx rfl (hb hby at_534) (XS.goto X34.here hx rfl (pc0 := 535) (pc' := 539) rfl (hb hby at_535) (by decide) (by decide) k))) ?_
                                  show G T34 (mkF m 539 #[iv i0, iv i1, iv i2, iv i3, iv la, iv ca, iv cb, iv pa, iv ra, iv ia, iv ka, iv da, iv lb, iv cc, iv ce, iv pb, iv rb, iv ib, iv kb, iv db, rv b12, rv b19, iv sp, iv sr, iv ex, iv ex, iv ex] [.int 1])
                                  exact go X34 hS (Nat.le_trans hk (Nat.le_of_eq (congrArg Array.size e34.symm))) (v := (some (.int (1 : Int32)))) (fun h => by rw [Bd.returns] at h; cases h) (fun fs hr => retOut X34 hx Bd.returns rfl (Or.inl ⟨rfl, by simp, _, rfl⟩) (hb hby at_539) hr) (⟨rfl, N⟩) (by decide) (by decide)
                                refine gb (fun _ k => XS.iload X27.here hx rfl (hb hby at_433) rfl k) ?_
                                show G T27 (mkF m 435 #[iv i0, iv i1, iv i2, iv i3, iv la, iv ca, iv cb, iv pa, iv ra, iv ia, iv ka, iv da, iv lb, iv cc, iv ce, iv pb, iv rb, iv ib, iv kb, iv db, rv b12, rv b19, iv sp, iv sr, .unset, .unset, .unset] [.int sp])
                                by_cases hc435 : sp = (0 : Int32)
                                · skip
                                  refine gb (fun _ k => XS.ifYes X27.here hx rfl (pc0 := 435) (pc' := 468) rfl (hb hby at_435) rfl ((if0 _ _).trans (teq hc435).1) (by decide) (by decide) (XS.iconst X27.here hx rfl (hb hby at_468) k)) ?_
                                  show G T27 (mkF m 469 #[iv i0, iv i1, iv i2, iv i3, iv la, iv ca, iv cb, iv pa, iv ra, iv ia, iv ka, iv da, iv lb, iv cc, iv ce, iv pb, iv rb, iv ib, iv kb, iv db, rv b12, rv b19, iv sp, iv sr, .unset, .unset, .unset] [.int 0])
                                  exact J28 _ _ _ _ hS hk hZ hown X27 N e27 HR ((0 : Int32)) (by unfold own_E; rw [if_neg (own_e0 (by rw [hsp]; exact hc435))])
                                · skip
                                  refine gb (fun _ k => XS.ifNo X27.here hx rfl (hb hby at_435) rfl ((if0 _ _).trans (feq hc435).1) (XS.iload X27.here hx rfl (hb hby at_438) rfl (XS.iload X27.here hx rfl (hb hby at_440) rfl k))) ?_
                                  show G T27 (mkF m 442 #[iv i0, iv i1, iv i2, iv i3, iv la, iv ca, iv cb, iv pa, iv ra, iv ia, iv ka, iv da, iv lb, iv cc, iv ce, iv pb, iv rb, iv ib, iv kb, iv db, rv b12, rv b19, iv sp, iv sr, .unset, .unset, .unset] [.int pb, .int pa])
                                  by_cases hc442 : pa = pb
                                  · skip
                                    refine gb (fun _ k => XS.icmpNo X27.here hx rfl (hb hby at_442) rfl (teq hc442).2 (XS.iload X27.here hx rfl (hb hby at_445) rfl k)) ?_
                                    show G T27 (mkF m 447 #[iv i0, iv i1, iv i2, iv i3, iv la, iv ca, iv cb, iv pa, iv ra, iv ia, iv ka, iv da, iv lb, iv cc, iv ce, iv pb, iv rb, iv ib, iv kb, iv db, rv b12, rv b19, iv sp, iv sr, .unset, .unset, .unset] [.int sr])
                                    by_cases hc447 : sr = (0 : Int32)
                                    · skip
                                      refine gb (fun _ k => XS.ifYes X27.here hx rfl (pc0 := 447) (pc' := 468) rfl (hb hby at_447) rfl ((if0 _ _).trans (teq hc447).1) (by decide) (by decide) (XS.iconst X27.here hx rfl (hb hby at_468) k)) ?_
                                      show G T27 (mkF m 469 #[iv i0, iv i1, iv i2, iv i3, iv la, iv ca, iv cb, iv pa, iv ra, iv ia, iv ka, iv da, iv lb, iv cc, iv ce, iv pb, iv rb, iv ib, iv kb, iv db, rv b12, rv b19, iv sp, iv sr, .unset, .unset, .unset] [.int 0])
                                      exact J28 _ _ _ _ hS hk hZ hown X27 N e27 HR ((0 : Int32)) (by unfold own_E; rw [if_pos (own_e1 (by rw [hsp]; exact hc435)), if_pos hc442, if_neg (own_e0 (by rw [hsr]; exact hc447))])
                                    · skip
                                      refine gb (fun _ k => XS.ifNo X27.here hx rfl (hb hby at_447) rfl ((if0 _ _).trans (feq hc447).1) (XS.iload X27.here hx rfl (hb hby at_450) rfl (XS.iload X27.here hx rfl (hb hby at_452) rfl k))) ?_
                                      show G T27 (mkF m 454 #[iv i0, iv i1, iv i2, iv i3, iv la, iv ca, iv cb, iv pa, iv ra, iv ia, iv ka, iv da, iv lb, iv cc, iv ce, iv pb, iv rb, iv ib, iv kb, iv db, rv b12, rv b19, iv sp, iv sr, .unset, .unset, .unset] [.int rb, .int ra])
                                      by_cases hc454 : ra = rb
                                      · skip
                                        refine gb (fun _ k => XS.icmpNo X27.here hx rfl (hb hby at_454) rfl (teq hc454).2 (XS.iload X27.here hx rfl (hb hby at_457) rfl (XS.iload X27.here hx rfl (hb hby at_459) rfl k))) ?_
                                        show G T27 (mkF m 461 #[iv i0, iv i1, iv i2, iv i3, iv la, iv ca, iv cb, iv pa, iv ra, iv ia, iv ka, iv da, iv lb, iv cc, iv ce, iv pb, iv rb, iv ib, iv kb, iv db, rv b12, rv b19, iv sp, iv sr, .unset, .unset, .unset] [.int ib, .int ia])
                                        by_cases hc461 : ia = ib
                                        · skip
                                          refine gb (fun _ k => XS.icmpNo X27.here hx rfl (hb hby at_461) rfl (teq hc461).2 (XS.iconst X27.here hx rfl (hb hby at_464) (XS.goto X27.here hx rfl (pc0 := 465) (pc' := 469) rfl (hb hby at_465) (by decide) (by decide) k))) ?_
                                          show G T27 (mkF m 469 #[iv i0, iv i1, iv i2, iv i3, iv la, iv ca, iv cb, iv pa, iv ra, iv ia, iv ka, iv da, iv lb, iv cc, iv ce, iv pb, iv rb, iv ib, iv kb, iv db, rv b12, rv b19, iv sp, iv sr, .unset, .unset, .unset] [.int 1])
                                          exact J28 _ _ _ _ hS hk hZ hown X27 N e27 HR ((1 : Int32)) (by unfold own_E; rw [if_pos (own_e1 (by rw [hsp]; exact hc435)), if_pos hc442, if_pos (own_e1 (by rw [hsr]; exact hc447)), if_pos hc454, if_pos hc461])
                                        · skip
                                          refine gb (fun _ k => XS.icmpYes X27.here hx rfl (pc0 := 461) (pc' := 468) rfl (hb hby at_461) rfl (feq hc461).2 (by decide) (by decide) (XS.iconst X27.here hx rfl (hb hby at_468) k)) ?_
                                          show G T27 (mkF m 469 #[iv i0, iv i1, iv i2, iv i3, iv la, iv ca, iv cb, iv pa, iv ra, iv ia, iv ka, iv da, iv lb, iv cc, iv ce, iv pb, iv rb, iv ib, iv kb, iv db, rv b12, rv b19, iv sp, iv sr, .unset, .unset, .unset] [.int 0])
                                          exact J28 _ _ _ _ hS hk hZ hown X27 N e27 HR ((0 : Int32)) (by unfold own_E; rw [if_pos (own_e1 (by rw [hsp]; exact hc435)), if_pos hc442, if_pos (own_e1 (by rw [hsr]; exact hc447)), if_pos hc454, if_neg hc461])
                                      · skip
                                        refine gb (fun _ k => XS.icmpYes X27.here hx rfl (pc0 := 454) (pc' := 468) rfl (hb hby at_454) rfl (feq hc454).2 (by decide) (by decide) (XS.iconst X27.here hx rfl (hb hby at_468) k)) ?_
                                        show G T27 (mkF m 469 #[iv i0, iv i1, iv i2, iv i3, iv la, iv ca, iv cb, iv pa, iv ra, iv ia, iv ka, iv da, iv lb, iv cc, iv ce, iv pb, iv rb, iv ib, iv kb, iv db, rv b12, rv b19, iv sp, iv sr, .unset, .unset, .unset] [.int 0])
                                        exact J28 _ _ _ _ hS hk hZ hown X27 N e27 HR ((0 : Int32)) (by unfold own_E; rw [if_pos (own_e1 (by rw [hsp]; exact hc435)), if_pos hc442, if_pos (own_e1 (by rw [hsr]; exact hc447)), if_neg hc454])
                                  · skip
                                    refine gb (fun _ k => XS.icmpYes X27.here hx rfl (pc0 := 442) (pc' := 468) rfl (hb hby at_442) rfl (feq hc442).2 (by decide) (by decide) (XS.iconst X27.here hx rfl (hb hby at_468) k)) ?_
                                    show G T27 (mkF m 469 #[iv i0, iv i1, iv i2, iv i3, iv la, iv ca, iv cb, iv pa, iv ra, iv ia, iv ka, iv da, iv lb, iv cc, iv ce, iv pb, iv rb, iv ib, iv kb, iv db, rv b12, rv b19, iv sp, iv sr, .unset, .unset, .unset] [.int 0])
                                    exact J28 _ _ _ _ hS hk hZ hown X27 N e27 HR ((0 : Int32)) (by unfold own_E; rw [if_pos (own_e1 (by rw [hsp]; exact hc435)), if_neg hc442])
                              refine gb (fun _ k => XS.iload X26.here hx rfl (hb hby at_407) rfl (XS.iload X26.here hx rfl (hb hby at_409) rfl k)) ?_
                              show G T26 (mkF m 411 #[iv i0, iv i1, iv i2, iv i3, iv la, iv ca, iv cb, iv pa, iv ra, iv ia, iv ka, iv da, iv lb, iv cc, iv ce, iv pb, iv rb, iv ib, iv kb, iv db, rv b12, rv b19, iv sp, .unset, .unset, .unset, .unset] [.int kb, .int ka])
                              by_cases hc411 : ka = kb
                              · skip
                                refine gb (fun _ k => XS.icmpNo X26.here hx rfl (hb hby at_411) rfl (teq hc411).2 (XS.iload X26.here hx rfl (hb hby at_414) rfl k)) ?_
                                show G T26 (mkF m 416 #[iv i0, iv i1, iv i2, iv i3, iv la, iv ca, iv cb, iv pa, iv ra, iv ia, iv ka, iv da, iv lb, iv cc, iv ce, iv pb, iv rb, iv ib, iv kb, iv db, rv b12, rv b19, iv sp, .unset, .unset, .unset, .unset] [.int ka])
                                by_cases hc416 : ka = (0 : Int32)
                                · skip
                                  refine gb (fun _ k => XS.ifYes X26.here hx rfl (pc0 := 416) (pc' := 426) rfl (hb hby at_416) rfl ((if0 _ _).trans (teq hc416).1) (by decide) (by decide) (XS.iconst X26.here hx rfl (hb hby at_426) (XS.goto X26.here hx rfl (pc0 := 427) (pc' := 431) rfl (hb hby at_427) (by decide) (by decide) k))) ?_
                                  show G T26 (mkF m 431 #[iv i0, iv i1, iv i2, iv i3, iv la, iv ca, iv cb, iv pa, iv ra, iv ia, iv ka, iv da, iv lb, iv cc, iv ce, iv pb, iv rb, iv ib, iv kb, iv db, rv b12, rv b19, iv sp, .unset, .unset, .unset, .unset] [.int 1])
                                  exact J27 _ _ _ _ hS hk hZ hown X26 N e26 HR ((1 : Int32)) (by rw [if_pos ((own_sr hka hkb hg_da hb_da hg_db hb_db).mpr ⟨hc411, Or.inl hc416⟩)])
                                · skip
                                  refine gb (fun _ k => XS.ifNo X26.here hx rfl (hb hby at_416) rfl ((if0 _ _).trans (feq hc416).1) (XS.iload X26.here hx rfl (hb hby at_419) rfl (XS.iload X26.here hx rfl (hb hby at_421) rfl k))) ?_
                                  show G T26 (mkF m 423 #[iv i0, iv i1, iv i2, iv i3, iv la, iv ca, iv cb, iv pa, iv ra, iv ia, iv ka, iv da, iv lb, iv cc, iv ce, iv pb, iv rb, iv ib, iv kb, iv db, rv b12, rv b19, iv sp, .unset, .unset, .unset, .unset] [.int db, .int da])
                                  by_cases hc423 : da = db
                                  · skip
                                    refine gb (fun _ k => XS.icmpNo X26.here hx rfl (hb hby at_423) rfl (teq hc423).2 (XS.iconst X26.here hx rfl (hb hby at_426) (XS.goto X26.here hx rfl (pc0 := 427) (pc' := 431) rfl (hb hby at_427) (by decide) (by decide) k))) ?_
                                    show G T26 (mkF m 431 #[iv i0, iv i1, iv i2, iv i3, iv la, iv ca, iv cb, iv pa, iv ra, iv ia, iv ka, iv da, iv lb, iv cc, iv ce, iv pb, iv rb, iv ib, iv kb, iv db, rv b12, rv b19, iv sp, .unset, .unset, .unset, .unset] [.int 1])
                                    exact J27 _ _ _ _ hS hk hZ hown X26 N e26 HR ((1 : Int32)) (by rw [if_pos ((own_sr hka hkb hg_da hb_da hg_db hb_db).mpr ⟨hc411, Or.inr hc423⟩)])
                                  · skip
                                    refine gb (fun _ k => XS.icmpYes X26.here hx rfl (pc0 := 423) (pc' := 430) rfl (hb hby at_423) rfl (feq hc423).2 (by decide) (by decide) (XS.iconst X26.here hx rfl (hb hby at_430) k)) ?_
                                    show G T26 (mkF m 431 #[iv i0, iv i1, iv i2, iv i3, iv la, iv ca, iv cb, iv pa, iv ra, iv ia, iv ka, iv da, iv lb, iv cc, iv ce, iv pb, iv rb, iv ib, iv kb, iv db, rv b12, rv b19, iv sp, .unset, .unset, .unset, .unset] [.int 0])
                                    exact J27 _ _ _ _ hS hk hZ hown X26 N e26 HR ((0 : Int32)) (by rw [if_neg (fun q => ((own_sr hka hkb hg_da hb_da hg_db hb_db).mp q).2.elim hc416 hc423)])
                              · skip
                                refine gb (fun _ k => XS.icmpYes X26.here hx rfl (pc0 := 411) (pc' := 430) rfl (hb hby at_411) rfl (feq hc411).2 (by decide) (by decide) (XS.iconst X26.here hx rfl (hb hby at_430) k)) ?_
                                show G T26 (mkF m 431 #[iv i0, iv i1, iv i2, iv i3, iv la, iv ca, iv cb, iv pa, iv ra, iv ia, iv ka, iv da, iv lb, iv cc, iv ce, iv pb, iv rb, iv ib, iv kb, iv db, rv b12, rv b19, iv sp, .unset, .unset, .unset, .unset] [.int 0])
                                exact J27 _ _ _ _ hS hk hZ hown X26 N e26 HR ((0 : Int32)) (by rw [if_neg (fun q => hc411 ((own_sr hka hkb hg_da hb_da hg_db hb_db).mp q).1)])
                            refine gb (fun _ k => XS.iload X25.here hx rfl (hb hby at_367) rfl (XS.iload X25.here hx rfl (hb hby at_369) rfl k)) ?_
                            show G T25 (mkF m 371 #[iv i0, iv i1, iv i2, iv i3, iv la, iv ca, iv cb, iv pa, iv ra, iv ia, iv ka, iv da, iv lb, iv cc, iv ce, iv pb, iv rb, iv ib, iv kb, iv db, rv b12, rv b19, .unset, .unset, .unset, .unset, .unset] [.int lb, .int la])
                            by_cases hc371 : la = lb
                            · skip
                              refine gb (fun _ k => XS.icmpNo X25.here hx rfl (hb hby at_371) rfl (teq hc371).2 (XS.iload X25.here hx rfl (hb hby at_374) rfl (XS.iconst X25.here hx rfl (hb hby at_376) k))) ?_
                              show G T25 (mkF m 377 #[iv i0, iv i1, iv i2, iv i3, iv la, iv ca, iv cb, iv pa, iv ra, iv ia, iv ka, iv da, iv lb, iv cc, iv ce, iv pb, iv rb, iv ib, iv kb, iv db, rv b12, rv b19, .unset, .unset, .unset, .unset, .unset] [.int 1, .int la])
                              by_cases hc377 : la < (1 : Int32)
                              · skip
                                refine gb (fun _ k => XS.icmpYes X25.here hx rfl (pc0 := 377) (pc' := 387) rfl (hb hby at_377) rfl (tlt hc377).1 (by decide) (by decide) (XS.iload X25.here hx rfl (hb hby at_387) rfl (XS.iconst X25.here hx rfl (hb hby at_389) k))) ?_
                                show G T25 (mkF m 390 #[iv i0, iv i1, iv i2, iv i3, iv la, iv ca, iv cb, iv pa, iv ra, iv ia, iv ka, iv da, iv lb, iv cc, iv ce, iv pb, iv rb, iv ib, iv kb, iv db, rv b12, rv b19, .unset, .unset, .unset, .unset, .unset] [.int 2, .int la])
                                by_cases hc390 : la < (2 : Int32)
                                · skip
                                  refine gb (fun _ k => XS.icmpYes X25.here hx rfl (pc0 := 390) (pc' := 400) rfl (hb hby at_390) rfl (tlt hc390).1 (by decide) (by decide) (XS.iconst X25.here hx rfl (hb hby at_400) (XS.goto X25.here hx rfl (pc0 := 401) (pc' := 405) rfl (hb hby at_401) (by decide) (by decide) k))) ?_
                                  show G T25 (mkF m 405 #[iv i0, iv i1, iv i2, iv i3, iv la, iv ca, iv cb, iv pa, iv ra, iv ia, iv ka, iv da, iv lb, iv cc, iv ce, iv pb, iv rb, iv ib, iv kb, iv db, rv b12, rv b19, .unset, .unset, .unset, .unset, .unset] [.int 1])
                                  exact J26 _ _ _ _ hS hk hZ hown X25 N e25 HR ((1 : Int32)) (by rw [if_pos ((own_sp hla hlb hg_ca hb_ca hg_cb hb_cb hg_cc hb_cc hg_ce hb_ce).mpr ⟨hc371, Or.inl hc377, Or.inl hc390⟩)])
                                · skip
                                  refine gb (fun _ k => XS.icmpNo X25.here hx rfl (hb hby at_390) rfl (flt hc390).1 (XS.iload X25.here hx rfl (hb hby at_393) rfl (XS.iload X25.here hx rfl (hb hby at_395) rfl k))) ?_
                                  show G T25 (mkF m 397 #[iv i0, iv i1, iv i2, iv i3, iv la, iv ca, iv cb, iv pa, iv ra, iv ia, iv ka, iv da, iv lb, iv cc, iv ce, iv pb, iv rb, iv ib, iv kb, iv db, rv b12, rv b19, .unset, .unset, .unset, .unset, .unset] [.int ce, .int cb])
                                  by_cases hc397 : cb = ce
                                  · skip
                                    refine gb (fun _ k => XS.icmpNo X25.here hx rfl (hb hby at_397) rfl (teq hc397).2 (XS.iconst X25.here hx rfl (hb hby at_400) (XS.goto X25.here hx rfl (pc0 := 401) (pc' := 405) rfl (hb hby at_401) (by decide) (by decide) k))) ?_
                                    show G T25 (mkF m 405 #[iv i0, iv i1, iv i2, iv i3, iv la, iv ca, iv cb, iv pa, iv ra, iv ia, iv ka, iv da, iv lb, iv cc, iv ce, iv pb, iv rb, iv ib, iv kb, iv db, rv b12, rv b19, .unset, .unset, .unset, .unset, .unset] [.int 1])
                                    exact J26 _ _ _ _ hS hk hZ hown X25 N e25 HR ((1 : Int32)) (by rw [if_pos ((own_sp hla hlb hg_ca hb_ca hg_cb hb_cb hg_cc hb_cc hg_ce hb_ce).mpr ⟨hc371, Or.inl hc377, Or.inr hc397⟩)])
                                  · skip
                                    refine gb (fun _ k => XS.icmpYes X25.here hx rfl (pc0 := 397) (pc' := 404) rfl (hb hby at_397) rfl (feq hc397).2 (by decide) (by decide) (XS.iconst X25.here hx rfl (hb hby at_404) k)) ?_
                                    show G T25 (mkF m 405 #[iv i0, iv i1, iv i2, iv i3, iv la, iv ca, iv cb, iv pa, iv ra, iv ia, iv ka, iv da, iv lb, iv cc, iv ce, iv pb, iv rb, iv ib, iv kb, iv db, rv b12, rv b19, .unset, .unset, .unset, .unset, .unset] [.int 0])
                                    exact J26 _ _ _ _ hS hk hZ hown X25 N e25 HR ((0 : Int32)) (by rw [if_neg (fun q => ((own_sp hla hlb hg_ca hb_ca hg_cb hb_cb hg_cc hb_cc hg_ce hb_ce).mp q).2.2.elim hc390 hc397)])
                              · skip
                                refine gb (fun _ k => XS.icmpNo X25.here hx rfl (hb hby at_377) rfl (flt hc377).1 (XS.iload X25.here hx rfl (hb hby at_380) rfl (XS.iload X25.here hx rfl (hb hby at_382) rfl k))) ?_
                                show G T25 (mkF m 384 #[iv i0, iv i1, iv i2, iv i3, iv la, iv ca, iv cb, iv pa, iv ra, iv ia, iv ka, iv da, iv lb, iv cc, iv ce, iv pb, iv rb, iv ib, iv kb, iv db, rv b12, rv b19, .unset, .unset, .unset, .unset, .unset] [.int cc, .int ca])
                                by_cases hc384 : ca = cc
                                · skip
                                  refine gb (fun _ k => XS.icmpNo X25.here hx rfl (hb hby at_384) rfl (teq hc384).2 (XS.iload X25.here hx rfl (hb hby at_387) rfl (XS.iconst X25.here hx rfl (hb hby at_389) k))) ?_
                                  show G T25 (mkF m 390 #[iv i0, iv i1, iv i2, iv i3, iv la, iv ca, iv cb, iv pa, iv ra, iv ia, iv ka, iv da, iv lb, iv cc, iv ce, iv pb, iv rb, iv ib, iv kb, iv db, rv b12, rv b19, .unset, .unset, .unset, .unset, .unset] [.int 2, .int la])
                                  by_cases hc390 : la < (2 : Int32)
                                  · skip
                                    refine gb (fun _ k => XS.icmpYes X25.here hx rfl (pc0 := 390) (pc' := 400) rfl (hb hby at_390) rfl (tlt hc390).1 (by decide) (by decide) (XS.iconst X25.here hx rfl (hb hby at_400) (XS.goto X25.here hx rfl (pc0 := 401) (pc' := 405) rfl (hb hby at_401) (by decide) (by decide) k))) ?_
                                    show G T25 (mkF m 405 #[iv i0, iv i1, iv i2, iv i3, iv la, iv ca, iv cb, iv pa, iv ra, iv ia, iv ka, iv da, iv lb, iv cc, iv ce, iv pb, iv rb, iv ib, iv kb, iv db, rv b12, rv b19, .unset, .unset, .unset, .unset, .unset] [.int 1])
                                    exact J26 _ _ _ _ hS hk hZ hown X25 N e25 HR ((1 : Int32)) (by rw [if_pos ((own_sp hla hlb hg_ca hb_ca hg_cb hb_cb hg_cc hb_cc hg_ce hb_ce).mpr ⟨hc371, Or.inr hc384, Or.inl hc390⟩)])
                                  · skip
                                    refine gb (fun _ k => XS.icmpNo X25.here hx rfl (hb hby at_390) rfl (flt hc390).1 (XS.iload X25.here hx rfl (hb hby at_393) rfl (XS.iload X25.here hx rfl (hb hby at_395) rfl k))) ?_
                                    show G T25 (mkF m 397 #[iv i0, iv i1, iv i2, iv i3, iv la, iv ca, iv cb, iv pa, iv ra, iv ia, iv ka, iv da, iv lb, iv cc, iv ce, iv pb, iv rb, iv ib, iv kb, iv db, rv b12, rv b19, .unset, .unset, .unset, .unset, .unset] [.int ce, .int cb])
                                    by_cases hc397 : cb = ce
                                    · skip
                                      refine gb (fun _ k => XS.icmpNo X25.here hx rfl (hb hby at_397) rfl (teq hc397).2 (XS.iconst X25.here hx rfl (hb hby at_400) (XS.goto X25.here hx rfl (pc0 := 401) (pc' := 405) rfl (hb hby at_401) (by decide) (by decide) k))) ?_
                                      show G T25 (mkF m 405 #[iv i0, iv i1, iv i2, iv i3, iv la, iv ca, iv cb, iv pa, iv ra, iv ia, iv ka, iv da, iv lb, iv cc, iv ce, iv pb, iv rb, iv ib, iv kb, iv db, rv b12, rv b19, .unset, .unset, .unset, .unset, .unset] [.int 1])
                                      exact J26 _ _ _ _ hS hk hZ hown X25 N e25 HR ((1 : Int32)) (by rw [if_pos ((own_sp hla hlb hg_ca hb_ca hg_cb hb_cb hg_cc hb_cc hg_ce hb_ce).mpr ⟨hc371, Or.inr hc384, Or.inr hc397⟩)])
                                    · skip
                                      refine gb (fun _ k => XS.icmpYes X25.here hx rfl (pc0 := 397) (pc' := 404) rfl (hb hby at_397) rfl (feq hc397).2 (by decide) (by decide) (XS.iconst X25.here hx rfl (hb hby at_404) k)) ?_
                                      show G T25 (mkF m 405 #[iv i0, iv i1, iv i2, iv i3, iv la, iv ca, iv cb, iv pa, iv ra, iv ia, iv ka, iv da, iv lb, iv cc, iv ce, iv pb, iv rb, iv ib, iv kb, iv db, rv b12, rv b19, .unset, .unset, .unset, .unset, .unset] [.int 0])
                                      exact J26 _ _ _ _ hS hk hZ hown X25 N e25 HR ((0 : Int32)) (by rw [if_neg (fun q => ((own_sp hla hlb hg_ca hb_ca hg_cb hb_cb hg_cc hb_cc hg_ce hb_ce).mp q).2.2.elim hc390 hc397)])
                                · skip
                                  refine gb (fun _ k => XS.icmpYes X25.here hx rfl (pc0 := 384) (pc' := 404) rfl (hb hby at_384) rfl (feq hc384).2 (by decide) (by decide) (XS.iconst X25.here hx rfl (hb hby at_404) k)) ?_
                                  show G T25 (mkF m 405 #[iv i0, iv i1, iv i2, iv i3, iv la, iv ca, iv cb, iv pa, iv ra, iv ia, iv ka, iv da, iv lb, iv cc, iv ce, iv pb, iv rb, iv ib, iv kb, iv db, rv b12, rv b19, .unset, .unset, .unset, .unset, .unset] [.int 0])
                                  exact J26 _ _ _ _ hS hk hZ hown X25 N e25 HR ((0 : Int32)) (by rw [if_neg (fun q => ((own_sp hla hlb hg_ca hb_ca hg_cb hb_cb hg_cc hb_cc hg_ce hb_ce).mp q).2.1.elim hc377 hc384)])
                            · skip
                              refine gb (fun _ k => XS.icmpYes X25.here hx rfl (pc0 := 371) (pc' := 404) rfl (hb hby at_371) rfl (feq hc371).2 (by decide) (by decide) (XS.iconst X25.here hx rfl (hb hby at_404) k)) ?_
                              show G T25 (mkF m 405 #[iv i0, iv i1, iv i2, iv i3, iv la, iv ca, iv cb, iv pa, iv ra, iv ia, iv ka, iv da, iv lb, iv cc, iv ce, iv pb, iv rb, iv ib, iv kb, iv db, rv b12, rv b19, .unset, .unset, .unset, .unset, .unset] [.int 0])
                              exact J26 _ _ _ _ hS hk hZ hown X25 N e25 HR ((0 : Int32)) (by rw [if_neg (fun q => hc371 ((own_sp hla hlb hg_ca hb_ca hg_cb hb_cb hg_cc hb_cc hg_ce hb_ce).mp q).1)])
                          by_cases hc354 : ib = (0 : Int32)
                          · skip
                            refine gb (fun _ k => XS.ifYes X23.here hx rfl (pc0 := 354) (pc' := 361) rfl (hb hby at_354) rfl ((if0 _ _).trans (teq hc354).1) (by decide) (by decide) (XS.iconst X23.here hx rfl (hb hby at_361) k)) ?_
                            show G T23 (mkF m 362 #[iv i0, iv i1, iv i2, iv i3, iv la, iv ca, iv cb, iv pa, iv ra, iv ia, iv ka, iv da, iv lb, iv cc, iv ce, iv pb, iv rb, iv ib, iv kb, iv db, rv b12, .unset, .unset, .unset, .unset, .unset, .unset] [.int 0, .ref x23, .ref x22, .ref x21, .ref x20, .ref b19, .ref b19])
                            exact J24 _ _ _ _ hS hk hZ hown X23 N e23 HR ((0 : Int32)) (hc354)
                          · skip
                            refine gb (fun _ k => XS.ifNo X23.here hx rfl (hb hby at_354) rfl ((if0 _ _).trans (feq hc354).1) (XS.iconst X23.here hx rfl (hb hby at_357) (XS.goto X23.here hx rfl (pc0 := 358) (pc' := 362) rfl (hb hby at_358) (by decide) (by decide) k))) ?_
                            show G T23 (mkF m 362 #[iv i0, iv i1, iv i2, iv i3, iv la, iv ca, iv cb, iv pa, iv ra, iv ia, iv ka, iv da, iv lb, iv cc, iv ce, iv pb, iv rb, iv ib, iv kb, iv db, rv b12, .unset, .unset, .unset, .unset, .unset, .unset] [.int 1, .ref x23, .ref x22, .ref x21, .ref x20, .ref b19, .ref b19])
                            exact J24 _ _ _ _ hS hk hZ hown X23 N e23 HR ((1 : Int32)) ((hib.resolve_left hc354))
                        by_cases hc299 : ia = (0 : Int32)
                        · skip
                          refine gb (fun _ k => XS.ifYes X16.here hx rfl (pc0 := 299) (pc' := 306) rfl (hb hby at_299) rfl ((if0 _ _).trans (teq hc299).1) (by decide) (by decide) (XS.iconst X16.here hx rfl (hb hby at_306) k)) ?_
                          show G T16 (mkF m 307 #[iv i0, iv i1, iv i2, iv i3, iv la, iv ca, iv cb, iv pa, iv ra, iv ia, iv ka, iv da, iv lb, iv cc, iv ce, iv pb, iv rb, iv ib, iv kb, iv db, .unset, .unset, .unset, .unset, .unset, .unset, .unset] [.int 0, .ref x16, .ref x15, .ref x14, .ref x13, .ref b12, .ref b12])
                          exact J17 _ _ _ _ hS hk hZ hown X16 N e16 HR ((0 : Int32)) (hc299)
                        · skip
                          refine gb (fun _ k => XS.ifNo X16.here hx rfl (hb hby at_299) rfl ((if0 _ _).trans (feq hc299).1) (XS.iconst X16.here hx rfl (hb hby at_302) (XS.goto X16.here hx rfl (pc0 := 303) (pc' := 307) rfl (hb hby at_303) (by decide) (by decide) k))) ?_
                          show G T16 (mkF m 307 #[iv i0, iv i1, iv i2, iv i3, iv la, iv ca, iv cb, iv pa, iv ra, iv ia, iv ka, iv da, iv lb, iv cc, iv ce, iv pb, iv rb, iv ib, iv kb, iv db, .unset, .unset, .unset, .unset, .unset, .unset, .unset] [.int 1, .ref x16, .ref x15, .ref x14, .ref x13, .ref b12, .ref b12])
                          exact J17 _ _ _ _ hS hk hZ hown X16 N e16 HR ((1 : Int32)) ((hia.resolve_left hc299))
                      exact J11 _ _ _ _ hS hk hZ hown X10 N e10 HR ((qp % (lb + (1 : Int32)))) ((qr % (lb + (1 : Int32)))) (own_rem hqp hlb) (own_rem hqr hlb)
                    refine gb (fun _ k => XS.iand X9.here hx rfl (hb hby at_237) rfl k) ?_
                    show G T9 (mkF m 238 #[iv i0, iv i1, iv i2, iv i3, iv la, iv ca, iv cb, iv pa, iv ra, iv ia, iv ka, iv da, iv lb, iv cc, iv ce, iv (qp % (lb + (1 : Int32))), iv (qr % (lb + (1 : Int32))), iv ib, iv kb, .unset, .unset, .unset, .unset, .unset, .unset, .unset, .unset] [.int (i3 &&& (128 : Int32))])
                    by_cases hc238 : (i3 &&& (128 : Int32)) = (0 : Int32)
                    · skip
                      refine gb (fun _ k => XS.ifYes X9.here hx rfl (pc0 := 238) (pc' := 246) rfl (hb hby at_238) rfl ((if0 _ _).trans (teq hc238).1) (by decide) (by decide) (XS.iloadN X9.here hx rfl (hb hby at_246) rfl (XS.bipush X9.here hx rfl (hb hby at_247) (XS.iushr X9.here hx rfl (hb hby at_249) rfl (XS.sipush X9.here hx rfl (hb hby at_250) (XS.iand X9.here hx rfl (hb hby at_253) rfl k)))))) ?_
                      show G T9 (mkF m 254 #[iv i0, iv i1, iv i2, iv i3, iv la, iv ca, iv cb, iv pa, iv ra, iv ia, iv ka, iv da, iv lb, iv cc, iv ce, iv (qp % (lb + (1 : Int32))), iv (qr % (lb + (1 : Int32))), iv ib, iv kb, .unset, .unset, .unset, .unset, .unset, .unset, .unset, .unset] [.int (((i2.toUInt32 >>> ((8 : Int32) &&& 31).toUInt32).toInt32) &&& (255 : Int32))])
                      refine gb (fun _ k => XS.i2c X9.here hx rfl (hb hby at_254) rfl k) ?_
                      show G T9 (mkF m 255 #[iv i0, iv i1, iv i2, iv i3, iv la, iv ca, iv cb, iv pa, iv ra, iv ia, iv ka, iv da, iv lb, iv cc, iv ce, iv (qp % (lb + (1 : Int32))), iv (qr % (lb + (1 : Int32))), iv ib, iv kb, .unset, .unset, .unset, .unset, .unset, .unset, .unset, .unset] [.int ((((i2.toUInt32 >>> ((8 : Int32) &&& 31).toUInt32).toInt32) &&& (255 : Int32)).toUInt32.toUInt16.toUInt32.toInt32)])
                      rw [own_c8]
                      show G T9 (mkF m 255 #[iv i0, iv i1, iv i2, iv i3, iv la, iv ca, iv cb, iv pa, iv ra, iv ia, iv ka, iv da, iv lb, iv cc, iv ce, iv (qp % (lb + (1 : Int32))), iv (qr % (lb + (1 : Int32))), iv ib, iv kb, .unset, .unset, .unset, .unset, .unset, .unset, .unset, .unset] [.int (((i2.toUInt32 >>> ((8 : Int32) &&& 31).toUInt32).toInt32) &&& (255 : Int32))])
                      exact J10 _ _ _ _ hS hk hZ hown X9 N e9 HR ((((i2.toUInt32 >>> ((8 : Int32) &&& 31).toUInt32).toInt32) &&& (255 : Int32))) (own_ge0 _) (own_le255 _)
                    · skip
                      refine gb (fun _ k => XS.ifNo X9.here hx rfl (hb hby at_238) rfl ((if0 _ _).trans (feq hc238).1) (XS.iload X9.here hx rfl (hb hby at_241) rfl (XS.goto X9.here hx rfl (pc0 := 243) (pc' := 255) rfl (hb hby at_243) (by decide) (by decide) k))) ?_
                      show G T9 (mkF m 255 #[iv i0, iv i1, iv i2, iv i3, iv la, iv ca, iv cb, iv pa, iv ra, iv ia, iv ka, iv da, iv lb, iv cc, iv ce, iv (qp % (lb + (1 : Int32))), iv (qr % (lb + (1 : Int32))), iv ib, iv kb, .unset, .unset, .unset, .unset, .unset, .unset, .unset, .unset] [.int da])
                      exact J10 _ _ _ _ hS hk hZ hown X9 N e9 HR (da) (hg_da) (hb_da)
                  refine gb (fun _ k => XS.iand X8.here hx rfl (hb hby at_216) rfl k) ?_
                  show G T8 (mkF m 217 #[iv i0, iv i1, iv i2, iv i3, iv la, iv ca, iv cb, iv pa, iv ra, iv ia, iv ka, iv da, iv lb, iv cc, iv ce, iv (qp % (lb + (1 : Int32))), iv (qr % (lb + (1 : Int32))), iv ib, .unset, .unset, .unset, .unset, .unset, .unset, .unset, .unset, .unset] [.int (i3 &&& (64 : Int32))])
                  by_cases hc217 : (i3 &&& (64 : Int32)) = (0 : Int32)
                  · skip
                    refine gb (fun _ k => XS.ifYes X8.here hx rfl (pc0 := 217) (pc' := 225) rfl (hb hby at_217) rfl ((if0 _ _).trans (teq hc217).1) (by decide) (by decide) (XS.iloadN X8.here hx rfl (hb hby at_225) rfl (XS.bipush X8.here hx rfl (hb hby at_226) (XS.iushr X8.here hx rfl (hb hby at_228) rfl (XS.iconst X8.here hx rfl (hb hby at_229) (XS.iand X8.here hx rfl (hb hby at_230) rfl k)))))) ?_
                    show G T8 (mkF m 231 #[iv i0, iv i1, iv i2, iv i3, iv la, iv ca, iv cb, iv pa, iv ra, iv ia, iv ka, iv da, iv lb, iv cc, iv ce, iv (qp % (lb + (1 : Int32))), iv (qr % (lb + (1 : Int32))), iv ib, .unset, .unset, .unset, .unset, .unset, .unset, .unset, .unset, .unset] [.int (((i1.toUInt32 >>> ((29 : Int32) &&& 31).toUInt32).toInt32) &&& (1 : Int32))])
                    exact J9 _ _ _ _ hS hk hZ hown X8 N e8 HR ((((i1.toUInt32 >>> ((29 : Int32) &&& 31).toUInt32).toInt32) &&& (1 : Int32))) (own_bit _)
                  · skip
                    refine gb (fun _ k => XS.ifNo X8.here hx rfl (hb hby at_217) rfl ((if0 _ _).trans (feq hc217).1) (XS.iload X8.here hx rfl (hb hby at_220) rfl (XS.goto X8.here hx rfl (pc0 := 222) (pc' := 231) rfl (hb hby at_222) (by decide) (by decide) k))) ?_
                    show G T8 (mkF m 231 #[iv i0, iv i1, iv i2, iv i3, iv la, iv ca, iv cb, iv pa, iv ra, iv ia, iv ka, iv da, iv lb, iv cc, iv ce, iv (qp % (lb + (1 : Int32))), iv (qr % (lb + (1 : Int32))), iv ib, .unset, .unset, .unset, .unset, .unset, .unset, .unset, .unset, .unset] [.int ka])
                    exact J9 _ _ _ _ hS hk hZ hown X8 N e8 HR (ka) (hka)
                refine gb (fun _ k => XS.iand X7.here hx rfl (hb hby at_196) rfl k) ?_
                show G T7 (mkF m 197 #[iv i0, iv i1, iv i2, iv i3, iv la, iv ca, iv cb, iv pa, iv ra, iv ia, iv ka, iv da, iv lb, iv cc, iv ce, iv (qp % (lb + (1 : Int32))), iv (qr % (lb + (1 : Int32))), .unset, .unset, .unset, .unset, .unset, .unset, .unset, .unset, .unset, .unset] [.int (i3 &&& (32 : Int32))])
                by_cases hc197 : (i3 &&& (32 : Int32)) = (0 : Int32)
                · skip
                  refine gb (fun _ k => XS.ifYes X7.here hx rfl (pc0 := 197) (pc' := 205) rfl (hb hby at_197) rfl ((if0 _ _).trans (teq hc197).1) (by decide) (by decide) (XS.iloadN X7.here hx rfl (hb hby at_205) rfl (XS.bipush X7.here hx rfl (hb hby at_206) (XS.iushr X7.here hx rfl (hb hby at_208) rfl (XS.iconst X7.here hx rfl (hb hby at_209) (XS.iand X7.here hx rfl (hb hby at_210) rfl k)))))) ?_
                  show G T7 (mkF m 211 #[iv i0, iv i1, iv i2, iv i3, iv la, iv ca, iv cb, iv pa, iv ra, iv ia, iv ka, iv da, iv lb, iv cc, iv ce, iv (qp % (lb + (1 : Int32))), iv (qr % (lb + (1 : Int32))), .unset, .unset, .unset, .unset, .unset, .unset, .unset, .unset, .unset, .unset] [.int (((i1.toUInt32 >>> ((28 : Int32) &&& 31).toUInt32).toInt32) &&& (1 : Int32))])
                  exact J8 _ _ _ _ hS hk hZ hown X7 N e7 HR ((((i1.toUInt32 >>> ((28 : Int32) &&& 31).toUInt32).toInt32) &&& (1 : Int32))) (own_bit _)
                · skip
                  refine gb (fun _ k => XS.ifNo X7.here hx rfl (hb hby at_197) rfl ((if0 _ _).trans (feq hc197).1) (XS.iload X7.here hx rfl (hb hby at_200) rfl (XS.goto X7.here hx rfl (pc0 := 202) (pc' := 211) rfl (hb hby at_202) (by decide) (by decide) k))) ?_
                  show G T7 (mkF m 211 #[iv i0, iv i1, iv i2, iv i3, iv la, iv ca, iv cb, iv pa, iv ra, iv ia, iv ka, iv da, iv lb, iv cc, iv ce, iv (qp % (lb + (1 : Int32))), iv (qr % (lb + (1 : Int32))), .unset, .unset, .unset, .unset, .unset, .unset, .unset, .unset, .unset, .unset] [.int ia])
                  exact J8 _ _ _ _ hS hk hZ hown X7 N e7 HR (ia) (hia)
              refine gb (fun _ k => XS.iand X6.here hx rfl (hb hby at_170) rfl k) ?_
              show G T6 (mkF m 171 #[iv i0, iv i1, iv i2, iv i3, iv la, iv ca, iv cb, iv pa, iv ra, iv ia, iv ka, iv da, iv lb, iv cc, iv ce, iv (qp % (lb + (1 : Int32))), .unset, .unset, .unset, .unset, .unset, .unset, .unset, .unset, .unset, .unset, .unset] [.int (i3 &&& (16 : Int32))])
              by_cases hc171 : (i3 &&& (16 : Int32)) = (0 : Int32)
              · skip
                refine gb (fun _ k => XS.ifYes X6.here hx rfl (pc0 := 171) (pc' := 179) rfl (hb hby at_171) rfl ((if0 _ _).trans (teq hc171).1) (by decide) (by decide) (XS.iloadN X6.here hx rfl (hb hby at_179) rfl (XS.bipush X6.here hx rfl (hb hby at_180) (XS.iushr X6.here hx rfl (hb hby at_182) rfl (XS.bipush X6.here hx rfl (hb hby at_183) (XS.iand X6.here hx rfl (hb hby at_185) rfl k)))))) ?_
                show G T6 (mkF m 186 #[iv i0, iv i1, iv i2, iv i3, iv la, iv ca, iv cb, iv pa, iv ra, iv ia, iv ka, iv da, iv lb, iv cc, iv ce, iv (qp % (lb + (1 : Int32))), .unset, .unset, .unset, .unset, .unset, .unset, .unset, .unset, .unset, .unset, .unset] [.int (((i1.toUInt32 >>> ((23 : Int32) &&& 31).toUInt32).toInt32) &&& (31 : Int32))])
                exact J7 _ _ _ _ hS hk hZ hown X6 N e6 HR ((((i1.toUInt32 >>> ((23 : Int32) &&& 31).toUInt32).toInt32) &&& (31 : Int32))) (own_31 _)
              · skip
                refine gb (fun _ k => XS.ifNo X6.here hx rfl (hb hby at_171) rfl ((if0 _ _).trans (feq hc171).1) (XS.iload X6.here hx rfl (hb hby at_174) rfl (XS.goto X6.here hx rfl (pc0 := 176) (pc' := 186) rfl (hb hby at_176) (by decide) (by decide) k))) ?_
                show G T6 (mkF m 186 #[iv i0, iv i1, iv i2, iv i3, iv la, iv ca, iv cb, iv pa, iv ra, iv ia, iv ka, iv da, iv lb, iv cc, iv ce, iv (qp % (lb + (1 : Int32))), .unset, .unset, .unset, .unset, .unset, .unset, .unset, .unset, .unset, .unset, .unset] [.int ra])
                exact J7 _ _ _ _ hS hk hZ hown X6 N e6 HR (ra) (hra.1)
            refine gb (fun _ k => XS.iand X5.here hx rfl (hb hby at_144) rfl k) ?_
            show G T5 (mkF m 145 #[iv i0, iv i1, iv i2, iv i3, iv la, iv ca, iv cb, iv pa, iv ra, iv ia, iv ka, iv da, iv lb, iv cc, iv ce, .unset, .unset, .unset, .unset, .unset, .unset, .unset, .unset, .unset, .unset, .unset, .unset] [.int (i3 &&& (8 : Int32))])
            by_cases hc145 : (i3 &&& (8 : Int32)) = (0 : Int32)
            · skip
              refine gb (fun _ k => XS.ifYes X5.here hx rfl (pc0 := 145) (pc' := 153) rfl (hb hby at_145) rfl ((if0 _ _).trans (teq hc145).1) (by decide) (by decide) (XS.iloadN X5.here hx rfl (hb hby at_153) rfl (XS.bipush X5.here hx rfl (hb hby at_154) (XS.iushr X5.here hx rfl (hb hby at_156) rfl (XS.bipush X5.here hx rfl (hb hby at_157) (XS.iand X5.here hx rfl (hb hby at_159) rfl k)))))) ?_
              show G T5 (mkF m 160 #[iv i0, iv i1, iv i2, iv i3, iv la, iv ca, iv cb, iv pa, iv ra, iv ia, iv ka, iv da, iv lb, iv cc, iv ce, .unset, .unset, .unset, .unset, .unset, .unset, .unset, .unset, .unset, .unset, .unset, .unset] [.int (((i1.toUInt32 >>> ((18 : Int32) &&& 31).toUInt32).toInt32) &&& (31 : Int32))])
              exact J6 _ _ _ _ hS hk hZ hown X5 N e5 HR ((((i1.toUInt32 >>> ((18 : Int32) &&& 31).toUInt32).toInt32) &&& (31 : Int32))) (own_31 _)
            · skip
              refine gb (fun _ k => XS.ifNo X5.here hx rfl (hb hby at_145) rfl ((if0 _ _).trans (feq hc145).1) (XS.iload X5.here hx rfl (hb hby at_148) rfl (XS.goto X5.here hx rfl (pc0 := 150) (pc' := 160) rfl (hb hby at_150) (by decide) (by decide) k))) ?_
              show G T5 (mkF m 160 #[iv i0, iv i1, iv i2, iv i3, iv la, iv ca, iv cb, iv pa, iv ra, iv ia, iv ka, iv da, iv lb, iv cc, iv ce, .unset, .unset, .unset, .unset, .unset, .unset, .unset, .unset, .unset, .unset, .unset, .unset] [.int pa])
              exact J6 _ _ _ _ hS hk hZ hown X5 N e5 HR (pa) (hpa.1)
          refine gb (fun _ k => XS.iand X4.here hx rfl (hb hby at_121) rfl k) ?_
          show G T4 (mkF m 122 #[iv i0, iv i1, iv i2, iv i3, iv la, iv ca, iv cb, iv pa, iv ra, iv ia, iv ka, iv da, iv lb, iv cc, .unset, .unset, .unset, .unset, .unset, .unset, .unset, .unset, .unset, .unset, .unset, .unset, .unset] [.int (i3 &&& (4 : Int32))])
          by_cases hc122 : (i3 &&& (4 : Int32)) = (0 : Int32)
          · skip
            refine gb (fun _ k => XS.ifYes X4.here hx rfl (pc0 := 122) (pc' := 130) rfl (hb hby at_122) rfl ((if0 _ _).trans (teq hc122).1) (by decide) (by decide) (XS.iloadN X4.here hx rfl (hb hby at_130) rfl (XS.bipush X4.here hx rfl (hb hby at_131) (XS.iushr X4.here hx rfl (hb hby at_133) rfl (XS.sipush X4.here hx rfl (hb hby at_134) (XS.iand X4.here hx rfl (hb hby at_137) rfl k)))))) ?_
            show G T4 (mkF m 138 #[iv i0, iv i1, iv i2, iv i3, iv la, iv ca, iv cb, iv pa, iv ra, iv ia, iv ka, iv da, iv lb, iv cc, .unset, .unset, .unset, .unset, .unset, .unset, .unset, .unset, .unset, .unset, .unset, .unset, .unset] [.int (((i1.toUInt32 >>> ((10 : Int32) &&& 31).toUInt32).toInt32) &&& (255 : Int32))])
            refine gb (fun _ k => XS.i2c X4.here hx rfl (hb hby at_138) rfl k) ?_
            show G T4 (mkF m 139 #[iv i0, iv i1, iv i2, iv i3, iv la, iv ca, iv cb, iv pa, iv ra, iv ia, iv ka, iv da, iv lb, iv cc, .unset, .unset, .unset, .unset, .unset, .unset, .unset, .unset, .unset, .unset, .unset, .unset, .unset] [.int ((((i1.toUInt32 >>> ((10 : Int32) &&& 31).toUInt32).toInt32) &&& (255 : Int32)).toUInt32.toUInt16.toUInt32.toInt32)])
            rw [own_c8]
            show G T4 (mkF m 139 #[iv i0, iv i1, iv i2, iv i3, iv la, iv ca, iv cb, iv pa, iv ra, iv ia, iv ka, iv da, iv lb, iv cc, .unset, .unset, .unset, .unset, .unset, .unset, .unset, .unset, .unset, .unset, .unset, .unset, .unset] [.int (((i1.toUInt32 >>> ((10 : Int32) &&& 31).toUInt32).toInt32) &&& (255 : Int32))])
            exact J5 _ _ _ _ hS hk hZ hown X4 N e4 HR ((((i1.toUInt32 >>> ((10 : Int32) &&& 31).toUInt32).toInt32) &&& (255 : Int32))) (own_ge0 _) (own_le255 _)
          · skip
            refine gb (fun _ k => XS.ifNo X4.here hx rfl (hb hby at_122) rfl ((if0 _ _).trans (feq hc122).1) (XS.iload X4.here hx rfl (hb hby at_125) rfl (XS.goto X4.here hx rfl (pc0 := 127) (pc' := 139) rfl (hb hby at_127) (by decide) (by decide) k))) ?_
            show G T4 (mkF m 139 #[iv i0, iv i1, iv i2, iv i3, iv la, iv ca, iv cb, iv pa, iv ra, iv ia, iv ka, iv da, iv lb, iv cc, .unset, .unset, .unset, .unset, .unset, .unset, .unset, .unset, .unset, .unset, .unset, .unset, .unset] [.int cb])
            exact J5 _ _ _ _ hS hk hZ hown X4 N e4 HR (cb) (hg_cb) (hb_cb)
        refine gb (fun _ k => XS.iand X3.here hx rfl (hb hby at_100) rfl k) ?_
        show G T3 (mkF m 101 #[iv i0, iv i1, iv i2, iv i3, iv la, iv ca, iv cb, iv pa, iv ra, iv ia, iv ka, iv da, iv lb, .unset, .unset, .unset, .unset, .unset, .unset, .unset, .unset, .unset, .unset, .unset, .unset, .unset, .unset] [.int (i3 &&& (2 : Int32))])
        by_cases hc101 : (i3 &&& (2 : Int32)) = (0 : Int32)
        · skip
          refine gb (fun _ k => XS.ifYes X3.here hx rfl (pc0 := 101) (pc' := 109) rfl (hb hby at_101) rfl ((if0 _ _).trans (teq hc101).1) (by decide) (by decide) (XS.iloadN X3.here hx rfl (hb hby at_109) rfl (XS.iconst X3.here hx rfl (hb hby at_110) (XS.iushr X3.here hx rfl (hb hby at_111) rfl (XS.sipush X3.here hx rfl (hb hby at_112) (XS.iand X3.here hx rfl (hb hby at_115) rfl k)))))) ?_
          show G T3 (mkF m 116 #[iv i0, iv i1, iv i2, iv i3, iv la, iv ca, iv cb, iv pa, iv ra, iv ia, iv ka, iv da, iv lb, .unset, .unset, .unset, .unset, .unset, .unset, .unset, .unset, .unset, .unset, .unset, .unset, .unset, .unset] [.int (((i1.toUInt32 >>> ((2 : Int32) &&& 31).toUInt32).toInt32) &&& (255 : Int32))])
          refine gb (fun _ k => XS.i2c X3.here hx rfl (hb hby at_116) rfl k) ?_
          show G T3 (mkF m 117 #[iv i0, iv i1, iv i2, iv i3, iv la, iv ca, iv cb, iv pa, iv ra, iv ia, iv ka, iv da, iv lb, .unset, .unset, .unset, .unset, .unset, .unset, .unset, .unset, .unset, .unset, .unset, .unset, .unset, .unset] [.int ((((i1.toUInt32 >>> ((2 : Int32) &&& 31).toUInt32).toInt32) &&& (255 : Int32)).toUInt32.toUInt16.toUInt32.toInt32)])
          rw [own_c8]
          show G T3 (mkF m 117 #[iv i0, iv i1, iv i2, iv i3, iv la, iv ca, iv cb, iv pa, iv ra, iv ia, iv ka, iv da, iv lb, .unset, .unset, .unset, .unset, .unset, .unset, .unset, .unset, .unset, .unset, .unset, .unset, .unset, .unset] [.int (((i1.toUInt32 >>> ((2 : Int32) &&& 31).toUInt32).toInt32) &&& (255 : Int32))])
          exact J4 _ _ _ _ hS hk hZ hown X3 N e3 HR ((((i1.toUInt32 >>> ((2 : Int32) &&& 31).toUInt32).toInt32) &&& (255 : Int32))) (own_ge0 _) (own_le255 _)
        · skip
          refine gb (fun _ k => XS.ifNo X3.here hx rfl (hb hby at_101) rfl ((if0 _ _).trans (feq hc101).1) (XS.iload X3.here hx rfl (hb hby at_104) rfl (XS.goto X3.here hx rfl (pc0 := 106) (pc' := 117) rfl (hb hby at_106) (by decide) (by decide) k))) ?_
          show G T3 (mkF m 117 #[iv i0, iv i1, iv i2, iv i3, iv la, iv ca, iv cb, iv pa, iv ra, iv ia, iv ka, iv da, iv lb, .unset, .unset, .unset, .unset, .unset, .unset, .unset, .unset, .unset, .unset, .unset, .unset, .unset, .unset] [.int ca])
          exact J4 _ _ _ _ hS hk hZ hown X3 N e3 HR (ca) (hg_ca) (hb_ca)
      refine gb (fun _ k => XS.iand X2.here hx rfl (hb hby at_82) rfl k) ?_
      show G T2 (mkF m 83 #[iv i0, iv i1, iv i2, iv i3, iv la, iv ca, iv cb, iv pa, iv ra, iv ia, iv ka, iv da, .unset, .unset, .unset, .unset, .unset, .unset, .unset, .unset, .unset, .unset, .unset, .unset, .unset, .unset, .unset] [.int (i3 &&& (1 : Int32))])
      by_cases hc83 : (i3 &&& (1 : Int32)) = (0 : Int32)
      · skip
        refine gb (fun _ k => XS.ifYes X2.here hx rfl (pc0 := 83) (pc' := 91) rfl (hb hby at_83) rfl ((if0 _ _).trans (teq hc83).1) (by decide) (by decide) (XS.iloadN X2.here hx rfl (hb hby at_91) rfl (XS.iconst X2.here hx rfl (hb hby at_92) (XS.iand X2.here hx rfl (hb hby at_93) rfl (XS.iconst X2.here hx rfl (hb hby at_94) (iremM X2 hx rfl (hb hby at_95) rfl (by decide) k)))))) ?_
        show G T2 (mkF m 96 #[iv i0, iv i1, iv i2, iv i3, iv la, iv ca, iv cb, iv pa, iv ra, iv ia, iv ka, iv da, .unset, .unset, .unset, .unset, .unset, .unset, .unset, .unset, .unset, .unset, .unset, .unset, .unset, .unset, .unset] [.int ((i1 &&& (3 : Int32)) % (3 : Int32))])
        exact J3 _ _ _ _ hS hk hZ hown X2 N e2 HR (((i1 &&& (3 : Int32)) % (3 : Int32))) (own_l3 _)
      · skip
        refine gb (fun _ k => XS.ifNo X2.here hx rfl (hb hby at_83) rfl ((if0 _ _).trans (feq hc83).1) (XS.iload X2.here hx rfl (hb hby at_86) rfl (XS.goto X2.here hx rfl (pc0 := 88) (pc' := 96) rfl (hb hby at_88) (by decide) (by decide) k))) ?_
        show G T2 (mkF m 96 #[iv i0, iv i1, iv i2, iv i3, iv la, iv ca, iv cb, iv pa, iv ra, iv ia, iv ka, iv da, .unset, .unset, .unset, .unset, .unset, .unset, .unset, .unset, .unset, .unset, .unset, .unset, .unset, .unset, .unset] [.int la])
        exact J3 _ _ _ _ hS hk hZ hown X2 N e2 HR (la) (hla)
    exact J2 _ _ _ _ hS hk hZ hown X1 N e1 HR ((((i0.toUInt32 >>> ((2 : Int32) &&& 31).toUInt32).toInt32) &&& (255 : Int32))) ((((i0.toUInt32 >>> ((10 : Int32) &&& 31).toUInt32).toInt32) &&& (255 : Int32))) (((((i0.toUInt32 >>> ((18 : Int32) &&& 31).toUInt32).toInt32) &&& (31 : Int32)) % (la + (1 : Int32)))) (((((i0.toUInt32 >>> ((23 : Int32) &&& 31).toUInt32).toInt32) &&& (31 : Int32)) % (la + (1 : Int32)))) ((((i0.toUInt32 >>> ((28 : Int32) &&& 31).toUInt32).toInt32) &&& (1 : Int32))) ((((i0.toUInt32 >>> ((29 : Int32) &&& 31).toUInt32).toInt32) &&& (1 : Int32))) ((i2 &&& (255 : Int32))) (own_ge0 _) (own_le255 _) (own_ge0 _) (own_le255 _) (own_rem (own_31 _) hla) (own_rem (own_31 _) hla) (own_bit _) (own_bit _) (own_ge0 _) (own_le255 _)
  exact J1 _ _ _ _ hS hk hZ hown X0 N e0 HR (((i0 &&& (3 : Int32)) % (3 : Int32))) (own_l3 _)
theorem own_sub128 {Z : State} {args : Array Value} {j : Int32} (nn : ¬ j < 0) : (Jvm.Term.sub (Jvm.Term.index (0 : Nat)) (Jvm.Term.int (128 : Int32))).eval args Z none [j.toNatClampNeg] Z = some (.int (j - (128 : Int32))) := by
  first
    | (simp [Jvm.Term.eval, idx_at nn, Term.int_eval, own_idx nn]; done)
    | (simp [Jvm.Term.eval, Term.int_eval]; rw [own_idx nn])
set_option maxRecDepth 65536 in
set_option maxHeartbeats 40000000 in
theorem comes_1 {Post : Tables → Env → Array Value → State → Outcome → State → Prop} (hpost : ∀ tb e args s v u, (limb_1_1.after args s (.returned v) u = true ∧ limb_1_2.after args s (.returned v) u = true ∧ True) → ReturnedEndW s (.returned v) u (Jvm.fieldLocs frame_1_writes args s ++ Jvm.arrayLocs frame_1_arrays args s ++ Jvm.staticLocs frame_1_statics s) 72 2304 → Post tb e args s (.returned v) u) :
    ArmFor flags0 classFile x code maxLocals ret World_1 tables_1 room_1 Calls_1 rest_1 Pre_1 Post := by
  intro l hfl _ _ p e ha hc hk s m args below hf hA hF happ hP
  obtain ⟨hcalls, hrest, hpre⟩ := hP
  obtain ⟨-, -, -, hnamed, -, -, -, hat⟩ := (Spec.applies_iff hf).mp happ
  obtain ⟨hg, hn⟩ := and_e (Cond.before_iff.mp (show (Jvm.Cond.and given_1 narrow_1).before args s = true from hpre))
  obtain ⟨g1, g2⟩ := and_e hg
  obtain ⟨g3, g4⟩ := and_e g2
  obtain ⟨g5, g6⟩ := and_e g4
  obtain ⟨g7, g8⟩ := and_e g6
  obtain ⟨w0, w1, w2, w3, rfl⟩ : ∃ w0 w1 w2 w3 : Value, args = #[w0, w1, w2, w3] := by
    have hs : args.size = 4 := by simpa [Cond.value, given_1] using g1
    obtain ⟨L⟩ := args
    match L, hs with
    | [w0, w1, w2, w3], _ => exact ⟨w0, w1, w2, w3, rfl⟩
  have hw := fun d (hd : d ∈ tables_1) => atoms_spec (ws := Jvm.Cond.code x code maxLocals ret :: tables_1) hat d (List.mem_cons_of_mem _ hd)
  have hfit : Fit s := fun {y c} hc i hi => by
    obtain ⟨ha, rfl⟩ := Array.getElem?_eq_some_iff.mp hc
    have q := List.all_eq_true.mp ((Array.all_eq_true_iff_forall_mem.mp hF) _ (Array.getElem_mem ha)) i (List.mem_range.mpr hi)
    simpa [Array.getElem?_eq_getElem hi] using q
  obtain ⟨hsets, hown0⟩ := atoms_of _ (rest_1_c_eq ▸ (show rest_1_c.before _ s = true from hrest))
  have hr0 := Cond.before_iff.mp hown0
  obtain ⟨i0, ei0⟩ := is_v g3
  obtain rfl : w0 = (.int i0) := Option.some.inj ei0
  obtain ⟨i1, ei1⟩ := is_v g5
  obtain rfl : w1 = (.int i1) := Option.some.inj ei1
  obtain ⟨i2, ei2⟩ := is_v g7
  obtain rfl : w2 = (.int i2) := Option.some.inj ei2
  obtain ⟨i3, ei3⟩ := is_v g8
  obtain rfl : w3 = (.int i3) := Option.some.inj ei3
  obtain ⟨zc, ezc⟩ := is_v (Cond.before_iff.mp (hsets _ (List.mem_of_getElem? (i := 1) rfl)))
  have S_cs : Sta s s.heap "java/lang/String" "COMPACT_STRINGS" "Z" (.int zc) := Sta.start ezc (Or.inl (hsets _ (List.mem_of_getElem? (i := 0) rfl)))
  have hzc : ¬ zc = (0 : Int32) := gotF (Cond.eq_ints ezc (Term.int_eval 0)) (not_v (Cond.before_iff.mp (hsets _ (List.mem_of_getElem? (i := 2) rfl))))
  have hEL : EW s _ [("com/example/wrought_gate/wroughtgate/engine/SchemaLocationEqualsPinLaw", 7)] := EW.cons (ow hw 7 rfl) (by decide) EW.nil
  have hHC : CHv s [("com/example/wrought_gate/wroughtgate/engine/SchemaLocationEqualsPinLaw", 7)] s.vm s.heap := CHv.start hEL (fun p hp => hcalls.1 p (by rcases List.mem_singleton.mp hp with rfl; exact List.mem_of_getElem? (i := 1) rfl)) (hsets _ (List.mem_of_getElem? (i := 2) rfl)) (ow hw 10 rfl) (ow hw 9 rfl)
  have hA := Cond.before_iff.mp (hsets _ (List.mem_of_getElem? (i := 13) rfl))
  obtain ⟨wC, evC⟩ := arr_v hA
  obtain ⟨cC, ArC⟩ := Arr.start evC hA
  have S_cache : Sta s s.heap "java/lang/Integer$IntegerCache" "cache" "[Ljava/lang/Integer;" (.ref wC) := Sta.start evC (Or.inr ⟨(ow hw 83 rfl), (hsets _ (List.mem_of_getElem? (i := 11) rfl))⟩)
  have hH := eqv_i (Term.int_eval (127 : Int32)) (Cond.before_iff.mp (hsets _ (List.mem_of_getElem? (i := 12) rfl)))
  have S_high : Sta s s.heap "java/lang/Integer$IntegerCache" "high" "I" (.int (127 : Int32)) := Sta.start hH (Or.inl (hsets _ (List.mem_of_getElem? (i := 10) rfl)))
  have hLn := eqv_i (Term.int_eval (256 : Int32)) (Cond.before_iff.mp (hsets _ (List.mem_of_getElem? (i := 15) rfl)))
  obtain ⟨hl1, hl2⟩ := own_len evC ArC hLn
  have Bx : Bxs s wC cC "java/lang/Integer" "I" (256 : Int32) (fun j => .int (j - (128 : Int32))) := Bxs.start (fun _ => evC) ArC hl1 hl2 (by decide) (Cond.before_iff.mp (hsets _ (List.mem_of_getElem? (i := 16) rfl))) (fun X j nn h => eqv_i (own_sub128 nn) h)
  obtain ⟨n, o, h1, h2, h3, _, L, rfl, ⟨rfl, N⟩, hq⟩ := rm0 l s _ hw tables_1 i0 i1 i2 i3 s.heap s.heap.size (Old.start s) zc S_cs hzc wC cC (fun j => .int (j - (128 : Int32))) S_high S_cache Bx hEL hHC p e ha hc hk s m _ below hf ((Spec.applies_iff_loose hf).mp happ).1 ⟨rfl, State.Warmed39.refl s, rfl, rfl⟩ trivial
  refine ⟨n, _, h1, h2, h3, hpost _ _ _ _ _ _ ⟨Cond.after_iff.mpr rfl, Cond.after_iff.mpr (eq_i res_at (Term.int_eval (1)) rfl), trivial⟩ ⟨hq.1, hq.2.1, hq.2.2.1, (hq.2.2.2.sift fun y hy => Or.inr (N y hy)).mono (by decide) (by decide)⟩⟩
theorem main_1_1 : Claimed_1_1 := comes_1 fun _ _ _ _ _ _ h hF => ⟨h.1, hF⟩
theorem main_1_2 : Claimed_1_2 := comes_1 fun _ _ _ _ _ _ h hF => ⟨h.2.1, hF⟩
end Jvm.Pilot.@@N@@
namespace Jvm.Pilot.@@N@@
open Jvm Jvm.ClassFile Sem Op Lib Jvm.Free Jvm.Stand Jvm.Pilot.@@N@@.Jvm.D
/-! MADE BY PROGRAM (witnessworld.py) out of the Statement's table words and the real class files: 25 classes; the members and pool entries that the words name. The judged class is class 1, her method 2. -/
namespace start1
open Jvm.ClassFile
def u (s : String) : CpInfo := .utf8 (stringToUtf16 s)
/-- a pool by its gaps: so many unusable entries, then the entry; so many at the end -/
def gap : Nat → List CpInfo → List CpInfo
  | 0, r => r
  | n + 1, r => .unusable :: gap n r
def poolList (es : List (Nat × CpInfo)) (last : Nat) : List CpInfo := es.foldr (fun e r => gap e.1 (e.2 :: r)) (gap last [])
def pool (es : List (Nat × CpInfo)) (last : Nat) : Array CpInfo := ⟨poolList es last⟩
def fileOf (pool : Array CpInfo) (this : Nat) (attrs : Array Attribute := #[]) (ms : Array MethodInfo := #[]) (fl : Nat := 33) (sup : Nat := 0) (ifs : Array Nat := #[]) (fds : Array FieldInfo := #[]) : ClassFile where
  minorVersion := 0
  majorVersion := 65
  constantPool := pool
  accessFlags := fl
  thisClass := this
  superClass := sup
  interfaces := ifs
  fields := fds
  methods := ms
  attributes := attrs
def plain (name : String) (sup : Option ClassId) : Class where
  name := name
  kind := .ordinary
  loader := none
  accessFlags := 33
  super := sup
  interfaces := #[]
  cf := none
  fields := #[]
  methods := #[]
  instanceTypes := #[]
  staticTypes := #[]
  resolved := #[]
  callSites := []
  init := .initialized
  statics := none
  mirror := none

def pool0 : Array CpInfo := pool [(5, u "<init>"), (0, u "()V"), (1, .class_ 10), (1, u "java/lang/Object")] 113

def k0c0 : Code := { maxStack := 0, maxLocals := 1, code := object_method_1_code, exceptionTable := #[], attributes := #[] }
def k0m0 : Method := { name := "<init>", desc := "()V", sig := { parameters := [], returnType := none }, accessFlags := 1, code := some k0c0 }
/-- java/lang/Object -/
def k0 : Class := { plain "java/lang/Object" none with
  accessFlags := 33
  interfaces := #[]
  cf := some (fileOf pool0 8 #[] #[{ accessFlags := 1, nameIndex := 5, descriptorIndex := 6, attributes := #[] }] 33 0 #[] #[])
  fields := #[]
  methods := #[k0m0]
  instanceTypes := #[]
  staticTypes := #[]
  resolved := Array.replicate 124 none
  statics := none }

def pool1 : Array CpInfo := pool [(2, .class_ 4), (1, u "java/lang/Object"), (0, u "<init>"), (0, u "()V"), (0, .string 8), (0, u ""), (0, .class_ 10), (0, u "java/lang/String"), (0, .methodref 9 12), (0, .nameAndType 5 13), (0, u "([C)V"), (0, .class_ 15), (0, u "com/example/wrought_gate/wroughtgate/engine/SchemaLocation"), (0, .methodref 17 18), (0, .class_ 19), (0, .nameAndType 20 21), (0, u "com/example/wrought_gate/wroughtgate/engine/SchemaLocationEqualsPinLaw"), (0, u "str"), (0, u "(ICC)Ljava/lang/String;"), (0, .methodref 14 23), (0, .nameAndType 5 24), (0, u "(Ljava/lang/String;Ljava/lang/String;Ljava/lang/String;Ljava/lang/String;Z)V"), (0, .methodref 14 26), (0, .nameAndType 27 28), (0, u "equals"), (0, u "(Ljava/lang/Object;)Z"), (0, .methodref 30 31), (0, .class_ 32), (0, .nameAndType 33 34), (0, u "java/lang/Integer"), (0, u "valueOf"), (0, u "(I)Ljava/lang/Integer;"), (3, u "law"), (0, u "(IIII)Z")] 2

def k1m0 : Method := { name := "<init>", desc := "()V", sig := { parameters := [], returnType := none }, accessFlags := 2, code := none }
def k1c1 : Code := { maxStack := 6, maxLocals := 3, code := method_2_code, exceptionTable := #[], attributes := #[] }
def k1m1 : Method := { name := "str", desc := "(ICC)Ljava/lang/String;", sig := { parameters := [.int, .char, .char], returnType := some (.object "java/lang/String") }, accessFlags := 10, code := some k1c1 }
def k1c2 : Code := { maxStack := 8, maxLocals := 27, code := code, exceptionTable := #[], attributes := #[] }
def k1m2 : Method := { name := "law", desc := "(IIII)Z", sig := { parameters := [.int, .int, .int, .int], returnType := some .boolean }, accessFlags := 9, code := some k1c2 }
/-- com/example/wrought_gate/wroughtgate/engine/SchemaLocationEqualsPinLaw -/
def k1 : Class := { plain "com/example/wrought_gate/wroughtgate/engine/SchemaLocationEqualsPinLaw" (some 0) with
  accessFlags := 49
  interfaces := #[]
  cf := some (fileOf pool1 17 #[] #[{ accessFlags := 2, nameIndex := 5, descriptorIndex := 6, attributes := #[] }, { accessFlags := 10, nameIndex := 20, descriptorIndex := 21, attributes := #[] }, { accessFlags := 9, nameIndex := 38, descriptorIndex := 39, attributes := #[] }] 49 2 #[] #[])
  fields := #[]
  methods := #[k1m0, k1m1, k1m2]
  instanceTypes := #[]
  staticTypes := #[]
  resolved := Array.replicate 42 none
  statics := none }

def pool2 : Array CpInfo := pool [(1, .methodref 2 3), (0, .class_ 4), (0, .nameAndType 5 6), (0, u "java/lang/Object"), (0, u "<init>"), (0, u "()V"), (0, .methodref 8 9), (0, .class_ 10), (0, .nameAndType 11 12), (0, u "java/lang/String"), (0, u "startsWith"), (0, u "(Ljava/lang/String;)Z"), (9, .fieldref 23 24), (0, .class_ 25), (0, .nameAndType 26 27), (0, u "com/example/wrought_gate/wroughtgate/engine/SchemaLocation"), (0, u "pointer"), (0, u "Ljava/lang/String;"), (0, .methodref 8 29), (0, .nameAndType 30 31), (0, u "length"), (0, u "()I"), (0, .fieldref 23 33), (0, .nameAndType 34 35), (0, u "partLength"), (0, u "I"), (0, .string 37), (0, u "resource"), (0, .methodref 39 40), (0, .class_ 41), (0, .nameAndType 42 43), (0, u "java/util/Objects"), (0, u "requireNonNull"), (0, u "(Ljava/lang/Object;Ljava/lang/String;)Ljava/lang/Object;"), (0, .fieldref 23 45), (0, .nameAndType 37 27), (0, .fieldref 23 47), (0, .nameAndType 48 35), (0, u "resourceLength"), (0, .fieldref 23 50), (0, .nameAndType 51 52), (0, u "identified"), (0, u "Z"), (67, .methodref 8 121), (0, .nameAndType 122 123), (0, u "equals"), (0, u "(Ljava/lang/Object;)Z"), (15, u "(Ljava/lang/String;Ljava/lang/String;Ljava/lang/String;Ljava/lang/String;Z)V")] 28

def k2c0 : Code := { maxStack := 5, maxLocals := 6, code := prog_19_method_1_code, exceptionTable := #[], attributes := #[] }
def k2m0 : Method := { name := "<init>", desc := "(Ljava/lang/String;Ljava/lang/String;Ljava/lang/String;Ljava/lang/String;Z)V", sig := { parameters := [(.object "java/lang/String"), (.object "java/lang/String"), (.object "java/lang/String"), (.object "java/lang/String"), .boolean], returnType := none }, accessFlags := 1, code := some k2c0 }
def k2c1 : Code := { maxStack := 2, maxLocals := 3, code := prog_19_method_7_code, exceptionTable := #[], attributes := #[] }
def k2m1 : Method := { name := "equals", desc := "(Ljava/lang/Object;)Z", sig := { parameters := [(.object "java/lang/Object")], returnType := some .boolean }, accessFlags := 1, code := some k2c1 }
/-- com/example/wrought_gate/wroughtgate/engine/SchemaLocation -/
def k2 : Class := { plain "com/example/wrought_gate/wroughtgate/engine/SchemaLocation" (some 0) with
  accessFlags := 49
  interfaces := #[]
  cf := some (fileOf pool2 23 #[] #[{ accessFlags := 1, nameIndex := 5, descriptorIndex := 139, attributes := #[] }, { accessFlags := 1, nameIndex := 122, descriptorIndex := 123, attributes := #[] }] 49 2 #[] #[{ accessFlags := 18, nameIndex := 26, descriptorIndex := 27, attributes := #[] }, { accessFlags := 18, nameIndex := 34, descriptorIndex := 35, attributes := #[] }, { accessFlags := 18, nameIndex := 37, descriptorIndex := 27, attributes := #[] }, { accessFlags := 18, nameIndex := 48, descriptorIndex := 35, attributes := #[] }, { accessFlags := 18, nameIndex := 51, descriptorIndex := 52, attributes := #[] }])
  fields := #[{ name := "pointer", type := (.object "java/lang/String"), accessFlags := 18, slot := 0, constantValue := 0 }, { name := "partLength", type := .int, accessFlags := 18, slot := 1, constantValue := 0 }, { name := "resource", type := (.object "java/lang/String"), accessFlags := 18, slot := 2, constantValue := 0 }, { name := "resourceLength", type := .int, accessFlags := 18, slot := 3, constantValue := 0 }, { name := "identified", type := .boolean, accessFlags := 18, slot := 4, constantValue := 0 }]
  methods := #[k2m0, k2m1]
  instanceTypes := #[(.object "java/lang/String"), .int, (.object "java/lang/String"), .int, .boolean]
  staticTypes := #[]
  resolved := Array.replicate 168 none
  statics := none }

def pool3 : Array CpInfo := pool [(1, .class_ 2), (0, u "java/io/Serializable"), (0, .class_ 4), (0, u "java/lang/Object")] 2

/-- java/io/Serializable -/
def k3 : Class := { plain "java/io/Serializable" (some 0) with
  accessFlags := 1537
  interfaces := #[]
  cf := some (fileOf pool3 1 #[] #[] 1537 3 #[] #[])
  fields := #[]
  methods := #[]
  instanceTypes := #[]
  staticTypes := #[]
  resolved := Array.replicate 7 none
  statics := none }

def pool4 : Array CpInfo := pool [(1, .class_ 2), (0, u "java/lang/Comparable"), (0, .class_ 4), (0, u "java/lang/Object")] 7

/-- java/lang/Comparable -/
def k4 : Class := { plain "java/lang/Comparable" (some 0) with
  accessFlags := 1537
  interfaces := #[]
  cf := some (fileOf pool4 1 #[] #[] 1537 3 #[] #[])
  fields := #[]
  methods := #[]
  instanceTypes := #[]
  staticTypes := #[]
  resolved := Array.replicate 12 none
  statics := none }

def pool5 : Array CpInfo := pool [(2, .class_ 4), (1, u "java/lang/CharSequence"), (42, .class_ 48), (0, u "java/lang/CharSequence$1CodePointIterator"), (10, .class_ 60), (0, u "java/lang/CharSequence$1CharIterator"), (5, .class_ 67), (0, u "java/lang/Object")] 63

/-- java/lang/CharSequence -/
def k5 : Class := { plain "java/lang/CharSequence" (some 0) with
  accessFlags := 1537
  interfaces := #[]
  cf := some (fileOf pool5 2 #[.nestMembers #[47, 59]] #[] 1537 66 #[] #[])
  fields := #[]
  methods := #[]
  instanceTypes := #[]
  staticTypes := #[]
  resolved := Array.replicate 131 none
  statics := none }

def pool6 : Array CpInfo := pool [(1, .class_ 2), (0, u "java/lang/constant/Constable"), (0, .class_ 4), (0, u "java/lang/Object")] 6

/-- java/lang/constant/Constable -/
def k6 : Class := { plain "java/lang/constant/Constable" (some 0) with
  accessFlags := 1537
  interfaces := #[]
  cf := some (fileOf pool6 1 #[] #[] 1537 3 #[] #[])
  fields := #[]
  methods := #[]
  instanceTypes := #[]
  staticTypes := #[]
  resolved := Array.replicate 11 none
  statics := none }

def pool7 : Array CpInfo := pool [(1, .class_ 2), (0, u "java/lang/constant/ConstantDesc"), (0, .class_ 4), (0, u "java/lang/Object")] 32

/-- java/lang/constant/ConstantDesc -/
def k7 : Class := { plain "java/lang/constant/ConstantDesc" (some 0) with
  accessFlags := 1537
  interfaces := #[]
  cf := some (fileOf pool7 1 #[] #[] 1537 3 #[] #[])
  fields := #[]
  methods := #[]
  instanceTypes := #[]
  staticTypes := #[]
  resolved := Array.replicate 37 none
  statics := none }

def pool8 : Array CpInfo := pool [(1, .methodref 2 3), (0, .class_ 4), (0, .nameAndType 5 6), (0, u "java/lang/Object"), (0, u "<init>"), (0, u "()V"), (2, .fieldref 10 11), (0, .class_ 12), (0, .nameAndType 13 14), (0, u "java/lang/String"), (0, u "value"), (0, u "[B"), (0, .fieldref 10 16), (0, .nameAndType 17 18), (0, u "coder"), (0, u "B"), (2, u "hash"), (0, u "I"), (2, u "hashIsZero"), (0, u "Z"), (0, .methodref 10 28), (0, .nameAndType 5 29), (0, u "([CIILjava/lang/Void;)V"), (8, .fieldref 10 39), (0, .nameAndType 40 26), (0, u "COMPACT_STRINGS"), (1, .class_ 44), (1, u "java/lang/StringUTF16"), (0, u "compress"), (1, .methodref 42 48), (0, .nameAndType 49 50), (0, u "coderFromArrayLen"), (0, u "([BI)B"), (56, .class_ 109), (1, u "java/lang/StringLatin1"), (67, .methodref 42 178), (0, .nameAndType 45 179), (0, u "([CII)[B"), (154, u "()I"), (0, .methodref 10 336), (0, .nameAndType 17 337), (0, u "()B"), (38, u "([BI[BII)I"), (128, .methodref 10 506), (0, .nameAndType 507 334), (0, u "length"), (33, .methodref 107 542), (0, .nameAndType 543 544), (0, u "equals"), (0, u "([B[B)Z"), (14, .class_ 561), (1, u "jdk/internal/util/ArraysSupport"), (0, u "mismatch"), (10, u "(Ljava/lang/Object;)Z"), (1, .class_ 576), (0, u "java/lang/CharSequence"), (22, u "CASE_INSENSITIVE_ORDER"), (0, u "Ljava/util/Comparator;"), (6, .methodref 559 608), (0, .nameAndType 562 376), (15, .methodref 10 625), (0, .nameAndType 626 627), (0, u "startsWith"), (0, u "(Ljava/lang/String;I)Z"), (382, u "([C)V"), (90, u "serialPersistentFields"), (0, u "[Ljava/io/ObjectStreamField;"), (0, .class_ 1104), (0, u "java/lang/String$CaseInsensitiveComparator"), (1, .class_ 1107), (0, u "java/io/Serializable"), (0, .class_ 1109), (0, u "java/lang/Comparable"), (0, .class_ 1111), (0, u "java/lang/constant/Constable"), (0, .class_ 1113), (0, u "java/lang/constant/ConstantDesc"), (2, u "serialVersionUID"), (0, u "J"), (3, u "REPL"), (0, u "C"), (2, u "LATIN1"), (1, u "UTF16"), (129, u "(Ljava/lang/String;)Z")] 193

def k8m0 : Method := { name := "<init>", desc := "()V", sig := { parameters := [], returnType := none }, accessFlags := 1, code := none }
def k8c1 : Code := { maxStack := 5, maxLocals := 2, code := jdk_42_method_3_code, exceptionTable := #[], attributes := #[] }
def k8m1 : Method := { name := "<init>", desc := "([C)V", sig := { parameters := [(.array .char)], returnType := none }, accessFlags := 1, code := some k8c1 }
def k8c2 : Code := { maxStack := 2, maxLocals := 1, code := jdk_42_method_54_code, exceptionTable := #[], attributes := #[] }
def k8m2 : Method := { name := "length", desc := "()I", sig := { parameters := [], returnType := some .int }, accessFlags := 1, code := some k8c2 }
def k8c3 : Code := { maxStack := 2, maxLocals := 3, code := jdk_42_method_66_code, exceptionTable := #[], attributes := #[] }
def k8m3 : Method := { name := "equals", desc := "(Ljava/lang/Object;)Z", sig := { parameters := [(.object "java/lang/Object")], returnType := some .boolean }, accessFlags := 1, code := some k8c3 }
def k8c4 : Code := { maxStack := 5, maxLocals := 8, code := jdk_42_method_75_code, exceptionTable := #[], attributes := #[] }
def k8m4 : Method := { name := "startsWith", desc := "(Ljava/lang/String;I)Z", sig := { parameters := [(.object "java/lang/String"), .int], returnType := some .boolean }, accessFlags := 1, code := some k8c4 }
def k8c5 : Code := { maxStack := 3, maxLocals := 2, code := jdk_42_method_76_code, exceptionTable := #[], attributes := #[] }
def k8m5 : Method := { name := "startsWith", desc := "(Ljava/lang/String;)Z", sig := { parameters := [(.object "java/lang/String")], returnType := some .boolean }, accessFlags := 1, code := some k8c5 }
def k8c6 : Code := { maxStack := 4, maxLocals := 6, code := jdk_42_method_149_code, exceptionTable := #[], attributes := #[] }
def k8m6 : Method := { name := "<init>", desc := "([CIILjava/lang/Void;)V", sig := { parameters := [(.array .char), .int, .int, (.object "java/lang/Void")], returnType := none }, accessFlags := 2, code := some k8c6 }
def k8c7 : Code := { maxStack := 1, maxLocals := 1, code := jdk_42_method_152_code, exceptionTable := #[], attributes := #[] }
def k8m7 : Method := { name := "coder", desc := "()B", sig := { parameters := [], returnType := some .byte }, accessFlags := 0, code := some k8c7 }
/-- java/lang/String -/
def k8 : Class := { plain "java/lang/String" (some 0) with
  accessFlags := 49
  interfaces := #[3, 4, 5, 6, 7]
  cf := some (fileOf pool8 10 #[.nestMembers #[1103]] #[{ accessFlags := 1, nameIndex := 5, descriptorIndex := 6, attributes := #[] }, { accessFlags := 1, nameIndex := 5, descriptorIndex := 1010, attributes := #[] }, { accessFlags := 1, nameIndex := 507, descriptorIndex := 334, attributes := #[] }, { accessFlags := 1, nameIndex := 543, descriptorIndex := 573, attributes := #[] }, { accessFlags := 1, nameIndex := 626, descriptorIndex := 627, attributes := #[] }, { accessFlags := 1, nameIndex := 626, descriptorIndex := 1257, attributes := #[] }, { accessFlags := 2, nameIndex := 5, descriptorIndex := 29, attributes := #[] }, { accessFlags := 0, nameIndex := 17, descriptorIndex := 337, attributes := #[] }] 49 2 #[1106, 1108, 575, 1110, 1112] #[{ accessFlags := 18, nameIndex := 13, descriptorIndex := 14, attributes := #[] }, { accessFlags := 18, nameIndex := 17, descriptorIndex := 18, attributes := #[] }, { accessFlags := 2, nameIndex := 21, descriptorIndex := 22, attributes := #[] }, { accessFlags := 2, nameIndex := 25, descriptorIndex := 26, attributes := #[] }, { accessFlags := 26, nameIndex := 1116, descriptorIndex := 1117, attributes := #[] }, { accessFlags := 24, nameIndex := 40, descriptorIndex := 26, attributes := #[] }, { accessFlags := 26, nameIndex := 1101, descriptorIndex := 1102, attributes := #[] }, { accessFlags := 26, nameIndex := 1121, descriptorIndex := 1122, attributes := #[] }, { accessFlags := 25, nameIndex := 599, descriptorIndex := 600, attributes := #[] }, { accessFlags := 24, nameIndex := 1125, descriptorIndex := 18, attributes := #[] }, { accessFlags := 24, nameIndex := 1127, descriptorIndex := 18, attributes := #[] }])
  fields := #[{ name := "value", type := (.array .byte), accessFlags := 18, slot := 0, constantValue := 0 }, { name := "coder", type := .byte, accessFlags := 18, slot := 1, constantValue := 0 }, { name := "hash", type := .int, accessFlags := 2, slot := 2, constantValue := 0 }, { name := "hashIsZero", type := .boolean, accessFlags := 2, slot := 3, constantValue := 0 }, { name := "serialVersionUID", type := .long, accessFlags := 26, slot := 0, constantValue := 0 }, { name := "COMPACT_STRINGS", type := .boolean, accessFlags := 24, slot := 1, constantValue := 0 }, { name := "serialPersistentFields", type := (.array (.object "java/io/ObjectStreamField")), accessFlags := 26, slot := 2, constantValue := 0 }, { name := "REPL", type := .char, accessFlags := 26, slot := 3, constantValue := 0 }, { name := "CASE_INSENSITIVE_ORDER", type := (.object "java/util/Comparator"), accessFlags := 25, slot := 4, constantValue := 0 }, { name := "LATIN1", type := .byte, accessFlags := 24, slot := 5, constantValue := 0 }, { name := "UTF16", type := .byte, accessFlags := 24, slot := 6, constantValue := 0 }]
  methods := #[k8m0, k8m1, k8m2, k8m3, k8m4, k8m5, k8m6, k8m7]
  instanceTypes := #[(.array .byte), .byte, .int, .boolean]
  staticTypes := #[.long, .boolean, (.array (.object "java/io/ObjectStreamField")), .char, (.object "java/util/Comparator"), .byte, .byte]
  resolved := Array.replicate 1451 none
  statics := some 0 }

def pool9 : Array CpInfo := pool [(9, u "<init>"), (6, .class_ 18), (1, u "java/lang/Object"), (0, u "()V"), (1, .class_ 23), (1, u "jdk/internal/util/ArraysSupport"), (0, u "LOG2_ARRAY_LONG_INDEX_SCALE"), (0, u "I"), (2, u "U"), (0, u "Ljdk/internal/misc/Unsafe;"), (8, u "BIG_ENDIAN"), (0, u "Z"), (8, u "LOG2_BYTE_BIT_SIZE"), (4, u "LOG2_ARRAY_INT_INDEX_SCALE"), (54, u "JLA"), (0, u "Ljdk/internal/access/JavaLangAccess;"), (11, u "LOG2_ARRAY_BOOLEAN_INDEX_SCALE"), (9, u "LOG2_ARRAY_BYTE_INDEX_SCALE"), (5, u "LOG2_ARRAY_CHAR_INDEX_SCALE"), (5, u "LOG2_ARRAY_SHORT_INDEX_SCALE"), (5, u "mismatch"), (12, u "LOG2_ARRAY_FLOAT_INDEX_SCALE"), (24, u "LOG2_ARRAY_DOUBLE_INDEX_SCALE"), (89, u "T_BOOLEAN"), (2, u "T_CHAR"), (1, u "T_FLOAT"), (1, u "T_DOUBLE"), (1, u "T_BYTE"), (1, u "T_SHORT"), (1, u "T_INT"), (1, u "T_LONG"), (1, u "SOFT_MAX_ARRAY_LENGTH"), (42, u "([BI[BII)I")] 40

def k9m0 : Method := { name := "<init>", desc := "()V", sig := { parameters := [], returnType := none }, accessFlags := 2, code := none }
def k9c1 : Code := { maxStack := 8, maxLocals := 8, code := jdk_48_method_14_code, exceptionTable := #[], attributes := #[] }
def k9m1 : Method := { name := "mismatch", desc := "([BI[BII)I", sig := { parameters := [(.array .byte), .int, (.array .byte), .int, .int], returnType := some .int }, accessFlags := 9, code := some k9c1 }
/-- jdk/internal/util/ArraysSupport -/
def k9 : Class := { plain "jdk/internal/util/ArraysSupport" (some 0) with
  accessFlags := 33
  interfaces := #[]
  cf := some (fileOf pool9 21 #[] #[{ accessFlags := 2, nameIndex := 9, descriptorIndex := 19, attributes := #[] }, { accessFlags := 9, nameIndex := 149, descriptorIndex := 337, attributes := #[] }] 33 16 #[] #[{ accessFlags := 24, nameIndex := 28, descriptorIndex := 29, attributes := #[] }, { accessFlags := 26, nameIndex := 38, descriptorIndex := 39, attributes := #[] }, { accessFlags := 25, nameIndex := 121, descriptorIndex := 25, attributes := #[] }, { accessFlags := 25, nameIndex := 131, descriptorIndex := 25, attributes := #[] }, { accessFlags := 25, nameIndex := 137, descriptorIndex := 25, attributes := #[] }, { accessFlags := 25, nameIndex := 143, descriptorIndex := 25, attributes := #[] }, { accessFlags := 25, nameIndex := 53, descriptorIndex := 25, attributes := #[] }, { accessFlags := 25, nameIndex := 24, descriptorIndex := 25, attributes := #[] }, { accessFlags := 25, nameIndex := 162, descriptorIndex := 25, attributes := #[] }, { accessFlags := 25, nameIndex := 187, descriptorIndex := 25, attributes := #[] }, { accessFlags := 26, nameIndex := 48, descriptorIndex := 25, attributes := #[] }, { accessFlags := 25, nameIndex := 277, descriptorIndex := 25, attributes := #[] }, { accessFlags := 25, nameIndex := 280, descriptorIndex := 25, attributes := #[] }, { accessFlags := 25, nameIndex := 282, descriptorIndex := 25, attributes := #[] }, { accessFlags := 25, nameIndex := 284, descriptorIndex := 25, attributes := #[] }, { accessFlags := 25, nameIndex := 286, descriptorIndex := 25, attributes := #[] }, { accessFlags := 25, nameIndex := 288, descriptorIndex := 25, attributes := #[] }, { accessFlags := 25, nameIndex := 290, descriptorIndex := 25, attributes := #[] }, { accessFlags := 25, nameIndex := 292, descriptorIndex := 25, attributes := #[] }, { accessFlags := 26, nameIndex := 108, descriptorIndex := 109, attributes := #[] }, { accessFlags := 25, nameIndex := 294, descriptorIndex := 25, attributes := #[] }])
  fields := #[{ name := "U", type := (.object "jdk/internal/misc/Unsafe"), accessFlags := 24, slot := 0, constantValue := 0 }, { name := "BIG_ENDIAN", type := .boolean, accessFlags := 26, slot := 1, constantValue := 0 }, { name := "LOG2_ARRAY_BOOLEAN_INDEX_SCALE", type := .int, accessFlags := 25, slot := 2, constantValue := 0 }, { name := "LOG2_ARRAY_BYTE_INDEX_SCALE", type := .int, accessFlags := 25, slot := 3, constantValue := 0 }, { name := "LOG2_ARRAY_CHAR_INDEX_SCALE", type := .int, accessFlags := 25, slot := 4, constantValue := 0 }, { name := "LOG2_ARRAY_SHORT_INDEX_SCALE", type := .int, accessFlags := 25, slot := 5, constantValue := 0 }, { name := "LOG2_ARRAY_INT_INDEX_SCALE", type := .int, accessFlags := 25, slot := 6, constantValue := 0 }, { name := "LOG2_ARRAY_LONG_INDEX_SCALE", type := .int, accessFlags := 25, slot := 7, constantValue := 0 }, { name := "LOG2_ARRAY_FLOAT_INDEX_SCALE", type := .int, accessFlags := 25, slot := 8, constantValue := 0 }, { name := "LOG2_ARRAY_DOUBLE_INDEX_SCALE", type := .int, accessFlags := 25, slot := 9, constantValue := 0 }, { name := "LOG2_BYTE_BIT_SIZE", type := .int, accessFlags := 26, slot := 10, constantValue := 0 }, { name := "T_BOOLEAN", type := .int, accessFlags := 25, slot := 11, constantValue := 0 }, { name := "T_CHAR", type := .int, accessFlags := 25, slot := 12, constantValue := 0 }, { name := "T_FLOAT", type := .int, accessFlags := 25, slot := 13, constantValue := 0 }, { name := "T_DOUBLE", type := .int, accessFlags := 25, slot := 14, constantValue := 0 }, { name := "T_BYTE", type := .int, accessFlags := 25, slot := 15, constantValue := 0 }, { name := "T_SHORT", type := .int, accessFlags := 25, slot := 16, constantValue := 0 }, { name := "T_INT", type := .int, accessFlags := 25, slot := 17, constantValue := 0 }, { name := "T_LONG", type := .int, accessFlags := 25, slot := 18, constantValue := 0 }, { name := "JLA", type := (.object "jdk/internal/access/JavaLangAccess"), accessFlags := 26, slot := 19, constantValue := 0 }, { name := "SOFT_MAX_ARRAY_LENGTH", type := .int, accessFlags := 25, slot := 20, constantValue := 0 }]
  methods := #[k9m0, k9m1]
  instanceTypes := #[]
  staticTypes := #[(.object "jdk/internal/misc/Unsafe"), .boolean, .int, .int, .int, .int, .int, .int, .int, .int, .int, .int, .int, .int, .int, .int, .int, .int, .int, (.object "jdk/internal/access/JavaLangAccess"), .int]
  resolved := Array.replicate 378 none
  statics := none }

def pool10 : Array CpInfo := pool [(2, .class_ 4), (1, u "java/lang/Object"), (0, u "<init>"), (0, u "()V"), (35, .class_ 44), (1, u "java/util/Objects"), (0, u "requireNonNull"), (48, u "(Ljava/lang/Object;Ljava/lang/String;)Ljava/lang/Object;")] 89

def k10m0 : Method := { name := "<init>", desc := "()V", sig := { parameters := [], returnType := none }, accessFlags := 2, code := none }
def k10c1 : Code := { maxStack := 3, maxLocals := 2, code := jdk_31_method_11_code, exceptionTable := #[], attributes := #[] }
def k10m1 : Method := { name := "requireNonNull", desc := "(Ljava/lang/Object;Ljava/lang/String;)Ljava/lang/Object;", sig := { parameters := [(.object "java/lang/Object"), (.object "java/lang/String")], returnType := some (.object "java/lang/Object") }, accessFlags := 9, code := some k10c1 }
/-- java/util/Objects -/
def k10 : Class := { plain "java/util/Objects" (some 0) with
  accessFlags := 49
  interfaces := #[]
  cf := some (fileOf pool10 42 #[] #[{ accessFlags := 2, nameIndex := 5, descriptorIndex := 6, attributes := #[] }, { accessFlags := 9, nameIndex := 45, descriptorIndex := 94, attributes := #[] }] 49 2 #[] #[])
  fields := #[]
  methods := #[k10m0, k10m1]
  instanceTypes := #[]
  staticTypes := #[]
  resolved := Array.replicate 184 none
  statics := none }

def pool11 : Array CpInfo := pool [(1, .methodref 2 3), (0, .class_ 4), (0, .nameAndType 5 6), (0, u "java/lang/Object"), (0, u "<init>"), (0, u "()V"), (1, .class_ 10), (1, u "java/lang/Number"), (2, .class_ 14), (0, u "java/io/Serializable"), (0, u "serialVersionUID"), (0, u "J")] 20

def k11c0 : Code := { maxStack := 1, maxLocals := 1, code := jdk_18_method_1_code, exceptionTable := #[], attributes := #[] }
def k11m0 : Method := { name := "<init>", desc := "()V", sig := { parameters := [], returnType := none }, accessFlags := 1, code := some k11c0 }
/-- java/lang/Number -/
def k11 : Class := { plain "java/lang/Number" (some 0) with
  accessFlags := 1057
  interfaces := #[3]
  cf := some (fileOf pool11 8 #[] #[{ accessFlags := 1, nameIndex := 5, descriptorIndex := 6, attributes := #[] }] 1057 2 #[13] #[{ accessFlags := 26, nameIndex := 15, descriptorIndex := 16, attributes := #[] }])
  fields := #[{ name := "serialVersionUID", type := .long, accessFlags := 26, slot := 0, constantValue := 0 }]
  methods := #[k11m0]
  instanceTypes := #[]
  staticTypes := #[.long]
  resolved := Array.replicate 37 none
  statics := none }

def pool12 : Array CpInfo := pool [(1, .class_ 2), (0, u "java/lang/Integer"), (16, u "digits"), (0, u "[C"), (46, u "<init>"), (17, u "DigitOnes"), (0, u "[B"), (2, u "DigitTens"), (10, .nameAndType 67 101), (0, u "()V"), (85, u "valueOf"), (0, u "(I)Ljava/lang/Integer;"), (0, .class_ 190), (0, u "java/lang/Integer$IntegerCache"), (0, .fieldref 189 192), (0, .nameAndType 193 194), (0, u "high"), (0, u "I"), (0, .fieldref 189 196), (0, .nameAndType 197 198), (0, u "cache"), (0, u "[Ljava/lang/Integer;"), (0, .methodref 1 200), (0, .nameAndType 67 201), (0, u "(I)V"), (0, .methodref 203 100), (0, .class_ 204), (0, u "java/lang/Number"), (0, .fieldref 1 206), (0, .nameAndType 207 194), (0, u "value"), (94, u "TYPE"), (0, u "Ljava/lang/Class;"), (0, .class_ 305), (0, u "java/lang/Comparable"), (0, .class_ 307), (0, u "java/lang/constant/Constable"), (0, .class_ 309), (0, u "java/lang/constant/ConstantDesc"), (0, u "MIN_VALUE"), (1, u "MAX_VALUE"), (3, u "SIZE"), (1, u "BYTES"), (1, u "serialVersionUID"), (0, u "J")] 131

def k12c0 : Code := { maxStack := 3, maxLocals := 1, code := jdk_33_method_22_code, exceptionTable := #[], attributes := #[] }
def k12m0 : Method := { name := "valueOf", desc := "(I)Ljava/lang/Integer;", sig := { parameters := [.int], returnType := some (.object "java/lang/Integer") }, accessFlags := 9, code := some k12c0 }
def k12c1 : Code := { maxStack := 2, maxLocals := 2, code := jdk_33_method_23_code, exceptionTable := #[], attributes := #[] }
def k12m1 : Method := { name := "<init>", desc := "(I)V", sig := { parameters := [.int], returnType := none }, accessFlags := 1, code := some k12c1 }
/-- java/lang/Integer -/
def k12 : Class := { plain "java/lang/Integer" (some 11) with
  accessFlags := 49
  interfaces := #[4, 6, 7]
  cf := some (fileOf pool12 1 #[.nestMembers #[189]] #[{ accessFlags := 9, nameIndex := 187, descriptorIndex := 188, attributes := #[] }, { accessFlags := 1, nameIndex := 67, descriptorIndex := 201, attributes := #[] }] 49 203 #[304, 306, 308] #[{ accessFlags := 25, nameIndex := 310, descriptorIndex := 194, attributes := #[] }, { accessFlags := 25, nameIndex := 312, descriptorIndex := 194, attributes := #[] }, { accessFlags := 25, nameIndex := 302, descriptorIndex := 303, attributes := #[] }, { accessFlags := 24, nameIndex := 19, descriptorIndex := 20, attributes := #[] }, { accessFlags := 24, nameIndex := 89, descriptorIndex := 86, attributes := #[] }, { accessFlags := 24, nameIndex := 85, descriptorIndex := 86, attributes := #[] }, { accessFlags := 18, nameIndex := 207, descriptorIndex := 194, attributes := #[] }, { accessFlags := 25, nameIndex := 316, descriptorIndex := 194, attributes := #[] }, { accessFlags := 25, nameIndex := 318, descriptorIndex := 194, attributes := #[] }, { accessFlags := 26, nameIndex := 320, descriptorIndex := 321, attributes := #[] }])
  fields := #[{ name := "MIN_VALUE", type := .int, accessFlags := 25, slot := 0, constantValue := 0 }, { name := "MAX_VALUE", type := .int, accessFlags := 25, slot := 1, constantValue := 0 }, { name := "TYPE", type := (.object "java/lang/Class"), accessFlags := 25, slot := 2, constantValue := 0 }, { name := "digits", type := (.array .char), accessFlags := 24, slot := 3, constantValue := 0 }, { name := "DigitTens", type := (.array .byte), accessFlags := 24, slot := 4, constantValue := 0 }, { name := "DigitOnes", type := (.array .byte), accessFlags := 24, slot := 5, constantValue := 0 }, { name := "value", type := .int, accessFlags := 18, slot := 0, constantValue := 0 }, { name := "SIZE", type := .int, accessFlags := 25, slot := 6, constantValue := 0 }, { name := "BYTES", type := .int, accessFlags := 25, slot := 7, constantValue := 0 }, { name := "serialVersionUID", type := .long, accessFlags := 26, slot := 8, constantValue := 0 }]
  methods := #[k12m0, k12m1]
  instanceTypes := #[.int]
  staticTypes := #[.int, .int, (.object "java/lang/Class"), (.array .char), (.array .byte), (.array .byte), .int, .int, .long]
  resolved := Array.replicate 453 none
  statics := none }

def pool13 : Array CpInfo := pool [(2, .class_ 4), (1, u "java/lang/Object"), (0, u "<init>"), (0, u "()V"), (0, .class_ 8), (0, u "java/lang/Integer"), (7, .class_ 18), (1, u "java/lang/Integer$IntegerCache"), (0, u "$assertionsDisabled"), (0, u "Z"), (26, u "high"), (0, u "I"), (8, u "archivedCache"), (0, u "[Ljava/lang/Integer;"), (12, u "cache"), (0, u "low")] 27

def k13m0 : Method := { name := "<init>", desc := "()V", sig := { parameters := [], returnType := none }, accessFlags := 2, code := none }
/-- java/lang/Integer$IntegerCache -/
def k13 : Class := { plain "java/lang/Integer$IntegerCache" (some 0) with
  accessFlags := 48
  interfaces := #[]
  cf := some (fileOf pool13 16 #[.nestHost 7] #[{ accessFlags := 2, nameIndex := 5, descriptorIndex := 6, attributes := #[] }] 48 2 #[] #[{ accessFlags := 24, nameIndex := 72, descriptorIndex := 48, attributes := #[] }, { accessFlags := 24, nameIndex := 47, descriptorIndex := 48, attributes := #[] }, { accessFlags := 24, nameIndex := 71, descriptorIndex := 58, attributes := #[] }, { accessFlags := 8, nameIndex := 57, descriptorIndex := 58, attributes := #[] }, { accessFlags := 4120, nameIndex := 19, descriptorIndex := 20, attributes := #[] }])
  fields := #[{ name := "low", type := .int, accessFlags := 24, slot := 0, constantValue := 0 }, { name := "high", type := .int, accessFlags := 24, slot := 1, constantValue := 0 }, { name := "cache", type := (.array (.object "java/lang/Integer")), accessFlags := 24, slot := 2, constantValue := 0 }, { name := "archivedCache", type := (.array (.object "java/lang/Integer")), accessFlags := 8, slot := 3, constantValue := 0 }, { name := "$assertionsDisabled", type := .boolean, accessFlags := 4120, slot := 4, constantValue := 0 }]
  methods := #[k13m0]
  instanceTypes := #[]
  staticTypes := #[.int, .int, (.array (.object "java/lang/Integer")), (.array (.object "java/lang/Integer")), .boolean]
  resolved := Array.replicate 100 none
  statics := some 1 }

def pool14 : Array CpInfo := pool [(6, .class_ 8), (1, u "java/lang/Object"), (0, u "<init>"), (0, u "()V"), (1, .class_ 14), (1, u "java/lang/StringUTF16"), (31, u "$assertionsDisabled"), (0, u "Z"), (13, u "HI_BYTE_SHIFT"), (0, u "I"), (2, u "LO_BYTE_SHIFT"), (49, .methodref 12 116), (0, .nameAndType 117 118), (0, u "compress"), (0, u "([CI[BII)I"), (3, u "([CII)[B"), (138, u "coderFromArrayLen"), (0, u "([BI)B"), (106, .class_ 371), (1, u "java/lang/StringUTF16$LinesSpliterator"), (58, u "MAX_LENGTH"), (196, .class_ 628), (0, u "java/lang/StringUTF16$CodePointsSpliterator"), (0, .class_ 630), (0, u "java/lang/StringUTF16$CharsSpliterator")] 4

def k14m0 : Method := { name := "<init>", desc := "()V", sig := { parameters := [], returnType := none }, accessFlags := 0, code := none }
def k14c1 : Code := { maxStack := 2, maxLocals := 2, code := jdk_52_method_15_code, exceptionTable := #[], attributes := #[] }
def k14m1 : Method := { name := "coderFromArrayLen", desc := "([BI)B", sig := { parameters := [(.array .byte), .int], returnType := some .byte }, accessFlags := 8, code := some k14c1 }
def k14c2 : Code := { maxStack := 5, maxLocals := 6, code := jdk_52_method_16_code, exceptionTable := #[], attributes := #[] }
def k14m2 : Method := { name := "compress", desc := "([CII)[B", sig := { parameters := [(.array .char), .int, .int], returnType := some (.array .byte) }, accessFlags := 9, code := some k14c2 }
def k14c3 : Code := { maxStack := 3, maxLocals := 7, code := jdk_52_method_21_code, exceptionTable := #[], attributes := #[] }
def k14m3 : Method := { name := "compress", desc := "([CI[BII)I", sig := { parameters := [(.array .char), .int, (.array .byte), .int, .int], returnType := some .int }, accessFlags := 9, code := some k14c3 }
/-- java/lang/StringUTF16 -/
def k14 : Class := { plain "java/lang/StringUTF16" (some 0) with
  accessFlags := 48
  interfaces := #[]
  cf := some (fileOf pool14 12 #[.nestMembers #[627, 629, 369]] #[{ accessFlags := 0, nameIndex := 9, descriptorIndex := 10, attributes := #[] }, { accessFlags := 8, nameIndex := 261, descriptorIndex := 262, attributes := #[] }, { accessFlags := 9, nameIndex := 117, descriptorIndex := 122, attributes := #[] }, { accessFlags := 9, nameIndex := 117, descriptorIndex := 118, attributes := #[] }] 48 6 #[] #[{ accessFlags := 26, nameIndex := 61, descriptorIndex := 62, attributes := #[] }, { accessFlags := 26, nameIndex := 65, descriptorIndex := 62, attributes := #[] }, { accessFlags := 24, nameIndex := 430, descriptorIndex := 62, attributes := #[] }, { accessFlags := 4120, nameIndex := 46, descriptorIndex := 47, attributes := #[] }])
  fields := #[{ name := "HI_BYTE_SHIFT", type := .int, accessFlags := 26, slot := 0, constantValue := 0 }, { name := "LO_BYTE_SHIFT", type := .int, accessFlags := 26, slot := 1, constantValue := 0 }, { name := "MAX_LENGTH", type := .int, accessFlags := 24, slot := 2, constantValue := 0 }, { name := "$assertionsDisabled", type := .boolean, accessFlags := 4120, slot := 3, constantValue := 0 }]
  methods := #[k14m0, k14m1, k14m2, k14m3]
  instanceTypes := #[]
  staticTypes := #[.int, .int, .int, .boolean]
  resolved := Array.replicate 635 none
  statics := none }

def pool15 : Array CpInfo := pool [(4, .class_ 6), (1, u "java/lang/Object"), (0, u "<init>"), (0, u "()V"), (5, .class_ 16), (1, u "java/lang/StringLatin1"), (104, u "$assertionsDisabled"), (0, u "Z"), (98, .class_ 223), (1, u "java/lang/StringLatin1$LinesSpliterator"), (57, u "equals"), (0, u "([B[B)Z"), (107, .class_ 391), (0, u "java/lang/StringLatin1$CharsSpliterator")] 3

def k15m0 : Method := { name := "<init>", desc := "()V", sig := { parameters := [], returnType := none }, accessFlags := 0, code := none }
def k15c1 : Code := { maxStack := 3, maxLocals := 3, code := jdk_43_method_13_code, exceptionTable := #[], attributes := #[] }
def k15m1 : Method := { name := "equals", desc := "([B[B)Z", sig := { parameters := [(.array .byte), (.array .byte)], returnType := some .boolean }, accessFlags := 9, code := some k15c1 }
/-- java/lang/StringLatin1 -/
def k15 : Class := { plain "java/lang/StringLatin1" (some 0) with
  accessFlags := 48
  interfaces := #[]
  cf := some (fileOf pool15 14 #[.nestMembers #[390, 221]] #[{ accessFlags := 0, nameIndex := 7, descriptorIndex := 8, attributes := #[] }, { accessFlags := 9, nameIndex := 281, descriptorIndex := 282, attributes := #[] }] 48 4 #[] #[{ accessFlags := 4120, nameIndex := 121, descriptorIndex := 122, attributes := #[] }])
  fields := #[{ name := "$assertionsDisabled", type := .boolean, accessFlags := 4120, slot := 0, constantValue := 0 }]
  methods := #[k15m0, k15m1]
  instanceTypes := #[]
  staticTypes := #[.boolean]
  resolved := Array.replicate 395 none
  statics := none }

def pool16 : Array CpInfo := pool [(2, .class_ 4), (1, u "java/lang/Object"), (0, u "<init>"), (0, u "()V"), (17, .class_ 26), (1, u "jdk/internal/util/Preconditions"), (28, .class_ 56), (0, u "jdk/internal/util/Preconditions$4"), (57, .class_ 115), (0, u "jdk/internal/util/Preconditions$1"), (7, u "SIOOBE_FORMATTER"), (0, u "Ljava/util/function/BiFunction;"), (0, .class_ 126), (0, u "jdk/internal/util/Preconditions$2"), (3, u "AIOOBE_FORMATTER"), (0, .class_ 132), (0, u "jdk/internal/util/Preconditions$3"), (3, u "IOOBE_FORMATTER")] 57

def k16m0 : Method := { name := "<init>", desc := "()V", sig := { parameters := [], returnType := none }, accessFlags := 1, code := none }
/-- jdk/internal/util/Preconditions -/
def k16 : Class := { plain "jdk/internal/util/Preconditions" (some 0) with
  accessFlags := 33
  interfaces := #[]
  cf := some (fileOf pool16 24 #[.nestMembers #[55, 131, 125, 114]] #[{ accessFlags := 1, nameIndex := 5, descriptorIndex := 6, attributes := #[] }] 33 2 #[] #[{ accessFlags := 25, nameIndex := 123, descriptorIndex := 124, attributes := #[] }, { accessFlags := 25, nameIndex := 130, descriptorIndex := 124, attributes := #[] }, { accessFlags := 25, nameIndex := 136, descriptorIndex := 124, attributes := #[] }])
  fields := #[{ name := "SIOOBE_FORMATTER", type := (.object "java/util/function/BiFunction"), accessFlags := 25, slot := 0, constantValue := 0 }, { name := "AIOOBE_FORMATTER", type := (.object "java/util/function/BiFunction"), accessFlags := 25, slot := 1, constantValue := 0 }, { name := "IOOBE_FORMATTER", type := (.object "java/util/function/BiFunction"), accessFlags := 25, slot := 2, constantValue := 0 }]
  methods := #[k16m0]
  instanceTypes := #[]
  staticTypes := #[(.object "java/util/function/BiFunction"), (.object "java/util/function/BiFunction"), (.object "java/util/function/BiFunction")]
  resolved := Array.replicate 194 none
  statics := some 2 }

def pool17 : Array CpInfo := pool [(1, u "java/lang/Cloneable"), (0, .class_ 1), (0, u "java/lang/Object"), (0, .class_ 3)] 3

/-- java/lang/Cloneable -/
def k17 : Class := { plain "java/lang/Cloneable" (some 0) with
  accessFlags := 1537
  interfaces := #[]
  cf := some (fileOf pool17 2 #[] #[] 1537 4 #[] #[])
  fields := #[]
  methods := #[]
  instanceTypes := #[]
  staticTypes := #[]
  resolved := Array.replicate 8 none
  statics := none }

/-- the primitive byte -/
def k18 : Class := { plain "byte" none with kind := .primitive 'B', accessFlags := 0x411 }
/-- [B -/
def k19 : Class := { plain "[B" (some 0) with kind := .array 18 .byte, interfaces := #[17, 3], accessFlags := 1041 }

/-- the primitive char -/
def k20 : Class := { plain "char" none with kind := .primitive 'C', accessFlags := 0x411 }
/-- [C -/
def k21 : Class := { plain "[C" (some 0) with kind := .array 20 .char, interfaces := #[17, 3], accessFlags := 1041 }

/-- the primitive int -/
def k22 : Class := { plain "int" none with kind := .primitive 'I', accessFlags := 0x411 }
/-- [I -/
def k23 : Class := { plain "[I" (some 0) with kind := .array 22 .int, interfaces := #[17, 3], accessFlags := 1041 }

/-- [Ljava/lang/Integer; -/
def k24 : Class := { plain "[Ljava/lang/Integer;" (some 0) with kind := .array 12 (.object "java/lang/Integer"), interfaces := #[17, 3], accessFlags := 1041 }

def heap : Heap := #[{ cls := 8, slots := #[.long 0, .int 1, .null, .int 0, .null, .int 0, .int 0], vm := .statics 8 },
  { cls := 13, slots := #[.int 0, .int 127, .ref 3, .null, .int 0], vm := .statics 13 },
  { cls := 16, slots := #[.null, .null, .null], vm := .statics 16 },
  { cls := 24, slots := #[.ref 4, .ref 5, .ref 6, .ref 7, .ref 8, .ref 9, .ref 10, .ref 11, .ref 12, .ref 13, .ref 14, .ref 15, .ref 16, .ref 17, .ref 18, .ref 19, .ref 20, .ref 21, .ref 22, .ref 23, .ref 24, .ref 25, .ref 26, .ref 27, .ref 28, .ref 29, .ref 30, .ref 31, .ref 32, .ref 33, .ref 34, .ref 35, .ref 36, .ref 37, .ref 38, .ref 39, .ref 40, .ref 41, .ref 42, .ref 43, .ref 44, .ref 45, .ref 46, .ref 47, .ref 48, .ref 49, .ref 50, .ref 51, .ref 52, .ref 53, .ref 54, .ref 55, .ref 56, .ref 57, .ref 58, .ref 59, .ref 60, .ref 61, .ref 62, .ref 63, .ref 64, .ref 65, .ref 66, .ref 67, .ref 68, .ref 69, .ref 70, .ref 71, .ref 72, .ref 73, .ref 74, .ref 75, .ref 76, .ref 77, .ref 78, .ref 79, .ref 80, .ref 81, .ref 82, .ref 83, .ref 84, .ref 85, .ref 86, .ref 87, .ref 88, .ref 89, .ref 90, .ref 91, .ref 92, .ref 93, .ref 94, .ref 95, .ref 96, .ref 97, .ref 98, .ref 99, .ref 100, .ref 101, .ref 102, .ref 103, .ref 104, .ref 105, .ref 106, .ref 107, .ref 108, .ref 109, .ref 110, .ref 111, .ref 112, .ref 113, .ref 114, .ref 115, .ref 116, .ref 117, .ref 118, .ref 119, .ref 120, .ref 121, .ref 122, .ref 123, .ref 124, .ref 125, .ref 126, .ref 127, .ref 128, .ref 129, .ref 130, .ref 131, .ref 132, .ref 133, .ref 134, .ref 135, .ref 136, .ref 137, .ref 138, .ref 139, .ref 140, .ref 141, .ref 142, .ref 143, .ref 144, .ref 145, .ref 146, .ref 147, .ref 148, .ref 149, .ref 150, .ref 151, .ref 152, .ref 153, .ref 154, .ref 155, .ref 156, .ref 157, .ref 158, .ref 159, .ref 160, .ref 161, .ref 162, .ref 163, .ref 164, .ref 165, .ref 166, .ref 167, .ref 168, .ref 169, .ref 170, .ref 171, .ref 172, .ref 173, .ref 174, .ref 175, .ref 176, .ref 177, .ref 178, .ref 179, .ref 180, .ref 181, .ref 182, .ref 183, .ref 184, .ref 185, .ref 186, .ref 187, .ref 188, .ref 189, .ref 190, .ref 191, .ref 192, .ref 193, .ref 194, .ref 195, .ref 196, .ref 197, .ref 198, .ref 199, .ref 200, .ref 201, .ref 202, .ref 203, .ref 204, .ref 205, .ref 206, .ref 207, .ref 208, .ref 209, .ref 210, .ref 211, .ref 212, .ref 213, .ref 214, .ref 215, .ref 216, .ref 217, .ref 218, .ref 219, .ref 220, .ref 221, .ref 222, .ref 223, .ref 224, .ref 225, .ref 226, .ref 227, .ref 228, .ref 229, .ref 230, .ref 231, .ref 232, .ref 233, .ref 234, .ref 235, .ref 236, .ref 237, .ref 238, .ref 239, .ref 240, .ref 241, .ref 242, .ref 243, .ref 244, .ref 245, .ref 246, .ref 247, .ref 248, .ref 249, .ref 250, .ref 251, .ref 252, .ref 253, .ref 254, .ref 255, .ref 256, .ref 257, .ref 258, .ref 259], vm := .none },
  { cls := 12, slots := #[.int (-128)], vm := .none },
  { cls := 12, slots := #[.int (-127)], vm := .none },
  { cls := 12, slots := #[.int (-126)], vm := .none },
  { cls := 12, slots := #[.int (-125)], vm := .none },
  { cls := 12, slots := #[.int (-124)], vm := .none },
  { cls := 12, slots := #[.int (-123)], vm := .none },
  { cls := 12, slots := #[.int (-122)], vm := .none },
  { cls := 12, slots := #[.int (-121)], vm := .none },
  { cls := 12, slots := #[.int (-120)], vm := .none },
  { cls := 12, slots := #[.int (-119)], vm := .none },
  { cls := 12, slots := #[.int (-118)], vm := .none },
  { cls := 12, slots := #[.int (-117)], vm := .none },
  { cls := 12, slots := #[.int (-116)], vm := .none },
  { cls := 12, slots := #[.int (-115)], vm := .none },
  { cls := 12, slots := #[.int (-114)], vm := .none },
  { cls := 12, slots := #[.int (-113)], vm := .none },
  { cls := 12, slots := #[.int (-112)], vm := .none },
  { cls := 12, slots := #[.int (-111)], vm := .none },
  { cls := 12, slots := #[.int (-110)], vm := .none },
  { cls := 12, slots := #[.int (-109)], vm := .none },
  { cls := 12, slots := #[.int (-108)], vm := .none },
  { cls := 12, slots := #[.int (-107)], vm := .none },
  { cls := 12, slots := #[.int (-106)], vm := .none },
  { cls := 12, slots := #[.int (-105)], vm := .none },
  { cls := 12, slots := #[.int (-104)], vm := .none },
  { cls := 12, slots := #[.int (-103)], vm := .none },
  { cls := 12, slots := #[.int (-102)], vm := .none },
  { cls := 12, slots := #[.int (-101)], vm := .none },
  { cls := 12, slots := #[.int (-100)], vm := .none },
  { cls := 12, slots := #[.int (-99)], vm := .none },
  { cls := 12, slots := #[.int (-98)], vm := .none },
  { cls := 12, slots := #[.int (-97)], vm := .none },
  { cls := 12, slots := #[.int (-96)], vm := .none },
  { cls := 12, slots := #[.int (-95)], vm := .none },
  { cls := 12, slots := #[.int (-94)], vm := .none },
  { cls := 12, slots := #[.int (-93)], vm := .none },
  { cls := 12, slots := #[.int (-92)], vm := .none },
  { cls := 12, slots := #[.int (-91)], vm := .none },
  { cls := 12, slots := #[.int (-90)], vm := .none },
  { cls := 12, slots := #[.int (-89)], vm := .none },
  { cls := 12, slots := #[.int (-88)], vm := .none },
  { cls := 12, slots := #[.int (-87)], vm := .none },
  { cls := 12, slots := #[.int (-86)], vm := .none },
  { cls := 12, slots := #[.int (-85)], vm := .none },
  { cls := 12, slots := #[.int (-84)], vm := .none },
  { cls := 12, slots := #[.int (-83)], vm := .none },
  { cls := 12, slots := #[.int (-82)], vm := .none },
  { cls := 12, slots := #[.int (-81)], vm := .none },
  { cls := 12, slots := #[.int (-80)], vm := .none },
  { cls := 12, slots := #[.int (-79)], vm := .none },
  { cls := 12, slots := #[.int (-78)], vm := .none },
  { cls := 12, slots := #[.int (-77)], vm := .none },
  { cls := 12, slots := #[.int (-76)], vm := .none },
  { cls := 12, slots := #[.int (-75)], vm := .none },
  { cls := 12, slots := #[.int (-74)], vm := .none },
  { cls := 12, slots := #[.int (-73)], vm := .none },
  { cls := 12, slots := #[.int (-72)], vm := .none },
  { cls := 12, slots := #[.int (-71)], vm := .none },
  { cls := 12, slots := #[.int (-70)], vm := .none },
  { cls := 12, slots := #[.int (-69)], vm := .none },
  { cls := 12, slots := #[.int (-68)], vm := .none },
  { cls := 12, slots := #[.int (-67)], vm := .none },
  { cls := 12, slots := #[.int (-66)], vm := .none },
  { cls := 12, slots := #[.int (-65)], vm := .none },
  { cls := 12, slots := #[.int (-64)], vm := .none },
  { cls := 12, slots := #[.int (-63)], vm := .none },
  { cls := 12, slots := #[.int (-62)], vm := .none },
  { cls := 12, slots := #[.int (-61)], vm := .none },
  { cls := 12, slots := #[.int (-60)], vm := .none },
  { cls := 12, slots := #[.int (-59)], vm := .none },
  { cls := 12, slots := #[.int (-58)], vm := .none },
  { cls := 12, slots := #[.int (-57)], vm := .none },
  { cls := 12, slots := #[.int (-56)], vm := .none },
  { cls := 12, slots := #[.int (-55)], vm := .none },
  { cls := 12, slots := #[.int (-54)], vm := .none },
  { cls := 12, slots := #[.int (-53)], vm := .none },
  { cls := 12, slots := #[.int (-52)], vm := .none },
  { cls := 12, slots := #[.int (-51)], vm := .none },
  { cls := 12, slots := #[.int (-50)], vm := .none },
  { cls := 12, slots := #[.int (-49)], vm := .none },
  { cls := 12, slots := #[.int (-48)], vm := .none },
  { cls := 12, slots := #[.int (-47)], vm := .none },
  { cls := 12, slots := #[.int (-46)], vm := .none },
  { cls := 12, slots := #[.int (-45)], vm := .none },
  { cls := 12, slots := #[.int (-44)], vm := .none },
  { cls := 12, slots := #[.int (-43)], vm := .none },
  { cls := 12, slots := #[.int (-42)], vm := .none },
  { cls := 12, slots := #[.int (-41)], vm := .none },
  { cls := 12, slots := #[.int (-40)], vm := .none },
  { cls := 12, slots := #[.int (-39)], vm := .none },
  { cls := 12, slots := #[.int (-38)], vm := .none },
  { cls := 12, slots := #[.int (-37)], vm := .none },
  { cls := 12, slots := #[.int (-36)], vm := .none },
  { cls := 12, slots := #[.int (-35)], vm := .none },
  { cls := 12, slots := #[.int (-34)], vm := .none },
  { cls := 12, slots := #[.int (-33)], vm := .none },
  { cls := 12, slots := #[.int (-32)], vm := .none },
  { cls := 12, slots := #[.int (-31)], vm := .none },
  { cls := 12, slots := #[.int (-30)], vm := .none },
  { cls := 12, slots := #[.int (-29)], vm := .none },
  { cls := 12, slots := #[.int (-28)], vm := .none },
  { cls := 12, slots := #[.int (-27)], vm := .none },
  { cls := 12, slots := #[.int (-26)], vm := .none },
  { cls := 12, slots := #[.int (-25)], vm := .none },
  { cls := 12, slots := #[.int (-24)], vm := .none },
  { cls := 12, slots := #[.int (-23)], vm := .none },
  { cls := 12, slots := #[.int (-22)], vm := .none },
  { cls := 12, slots := #[.int (-21)], vm := .none },
  { cls := 12, slots := #[.int (-20)], vm := .none },
  { cls := 12, slots := #[.int (-19)], vm := .none },
  { cls := 12, slots := #[.int (-18)], vm := .none },
  { cls := 12, slots := #[.int (-17)], vm := .none },
  { cls := 12, slots := #[.int (-16)], vm := .none },
  { cls := 12, slots := #[.int (-15)], vm := .none },
  { cls := 12, slots := #[.int (-14)], vm := .none },
  { cls := 12, slots := #[.int (-13)], vm := .none },
  { cls := 12, slots := #[.int (-12)], vm := .none },
  { cls := 12, slots := #[.int (-11)], vm := .none },
  { cls := 12, slots := #[.int (-10)], vm := .none },
  { cls := 12, slots := #[.int (-9)], vm := .none },
  { cls := 12, slots := #[.int (-8)], vm := .none },
  { cls := 12, slots := #[.int (-7)], vm := .none },
  { cls := 12, slots := #[.int (-6)], vm := .none },
  { cls := 12, slots := #[.int (-5)], vm := .none },
  { cls := 12, slots := #[.int (-4)], vm := .none },
  { cls := 12, slots := #[.int (-3)], vm := .none },
  { cls := 12, slots := #[.int (-2)], vm := .none },
  { cls := 12, slots := #[.int (-1)], vm := .none },
  { cls := 12, slots := #[.int (0)], vm := .none },
  { cls := 12, slots := #[.int (1)], vm := .none },
  { cls := 12, slots := #[.int (2)], vm := .none },
  { cls := 12, slots := #[.int (3)], vm := .none },
  { cls := 12, slots := #[.int (4)], vm := .none },
  { cls := 12, slots := #[.int (5)], vm := .none },
  { cls := 12, slots := #[.int (6)], vm := .none },
  { cls := 12, slots := #[.int (7)], vm := .none },
  { cls := 12, slots := #[.int (8)], vm := .none },
  { cls := 12, slots := #[.int (9)], vm := .none },
  { cls := 12, slots := #[.int (10)], vm := .none },
  { cls := 12, slots := #[.int (11)], vm := .none },
  { cls := 12, slots := #[.int (12)], vm := .none },
  { cls := 12, slots := #[.int (13)], vm := .none },
  { cls := 12, slots := #[.int (14)], vm := .none },
  { cls := 12, slots := #[.int (15)], vm := .none },
  { cls := 12, slots := #[.int (16)], vm := .none },
  { cls := 12, slots := #[.int (17)], vm := .none },
  { cls := 12, slots := #[.int (18)], vm := .none },
  { cls := 12, slots := #[.int (19)], vm := .none },
  { cls := 12, slots := #[.int (20)], vm := .none },
  { cls := 12, slots := #[.int (21)], vm := .none },
  { cls := 12, slots := #[.int (22)], vm := .none },
  { cls := 12, slots := #[.int (23)], vm := .none },
  { cls := 12, slots := #[.int (24)], vm := .none },
  { cls := 12, slots := #[.int (25)], vm := .none },
  { cls := 12, slots := #[.int (26)], vm := .none },
  { cls := 12, slots := #[.int (27)], vm := .none },
  { cls := 12, slots := #[.int (28)], vm := .none },
  { cls := 12, slots := #[.int (29)], vm := .none },
  { cls := 12, slots := #[.int (30)], vm := .none },
  { cls := 12, slots := #[.int (31)], vm := .none },
  { cls := 12, slots := #[.int (32)], vm := .none },
  { cls := 12, slots := #[.int (33)], vm := .none },
  { cls := 12, slots := #[.int (34)], vm := .none },
  { cls := 12, slots := #[.int (35)], vm := .none },
  { cls := 12, slots := #[.int (36)], vm := .none },
  { cls := 12, slots := #[.int (37)], vm := .none },
  { cls := 12, slots := #[.int (38)], vm := .none },
  { cls := 12, slots := #[.int (39)], vm := .none },
  { cls := 12, slots := #[.int (40)], vm := .none },
  { cls := 12, slots := #[.int (41)], vm := .none },
  { cls := 12, slots := #[.int (42)], vm := .none },
  { cls := 12, slots := #[.int (43)], vm := .none },
  { cls := 12, slots := #[.int (44)], vm := .none },
  { cls := 12, slots := #[.int (45)], vm := .none },
  { cls := 12, slots := #[.int (46)], vm := .none },
  { cls := 12, slots := #[.int (47)], vm := .none },
  { cls := 12, slots := #[.int (48)], vm := .none },
  { cls := 12, slots := #[.int (49)], vm := .none },
  { cls := 12, slots := #[.int (50)], vm := .none },
  { cls := 12, slots := #[.int (51)], vm := .none },
  { cls := 12, slots := #[.int (52)], vm := .none },
  { cls := 12, slots := #[.int (53)], vm := .none },
  { cls := 12, slots := #[.int (54)], vm := .none },
  { cls := 12, slots := #[.int (55)], vm := .none },
  { cls := 12, slots := #[.int (56)], vm := .none },
  { cls := 12, slots := #[.int (57)], vm := .none },
  { cls := 12, slots := #[.int (58)], vm := .none },
  { cls := 12, slots := #[.int (59)], vm := .none },
  { cls := 12, slots := #[.int (60)], vm := .none },
  { cls := 12, slots := #[.int (61)], vm := .none },
  { cls := 12, slots := #[.int (62)], vm := .none },
  { cls := 12, slots := #[.int (63)], vm := .none },
  { cls := 12, slots := #[.int (64)], vm := .none },
  { cls := 12, slots := #[.int (65)], vm := .none },
  { cls := 12, slots := #[.int (66)], vm := .none },
  { cls := 12, slots := #[.int (67)], vm := .none },
  { cls := 12, slots := #[.int (68)], vm := .none },
  { cls := 12, slots := #[.int (69)], vm := .none },
  { cls := 12, slots := #[.int (70)], vm := .none },
  { cls := 12, slots := #[.int (71)], vm := .none },
  { cls := 12, slots := #[.int (72)], vm := .none },
  { cls := 12, slots := #[.int (73)], vm := .none },
  { cls := 12, slots := #[.int (74)], vm := .none },
  { cls := 12, slots := #[.int (75)], vm := .none },
  { cls := 12, slots := #[.int (76)], vm := .none },
  { cls := 12, slots := #[.int (77)], vm := .none },
  { cls := 12, slots := #[.int (78)], vm := .none },
  { cls := 12, slots := #[.int (79)], vm := .none },
  { cls := 12, slots := #[.int (80)], vm := .none },
  { cls := 12, slots := #[.int (81)], vm := .none },
  { cls := 12, slots := #[.int (82)], vm := .none },
  { cls := 12, slots := #[.int (83)], vm := .none },
  { cls := 12, slots := #[.int (84)], vm := .none },
  { cls := 12, slots := #[.int (85)], vm := .none },
  { cls := 12, slots := #[.int (86)], vm := .none },
  { cls := 12, slots := #[.int (87)], vm := .none },
  { cls := 12, slots := #[.int (88)], vm := .none },
  { cls := 12, slots := #[.int (89)], vm := .none },
  { cls := 12, slots := #[.int (90)], vm := .none },
  { cls := 12, slots := #[.int (91)], vm := .none },
  { cls := 12, slots := #[.int (92)], vm := .none },
  { cls := 12, slots := #[.int (93)], vm := .none },
  { cls := 12, slots := #[.int (94)], vm := .none },
  { cls := 12, slots := #[.int (95)], vm := .none },
  { cls := 12, slots := #[.int (96)], vm := .none },
  { cls := 12, slots := #[.int (97)], vm := .none },
  { cls := 12, slots := #[.int (98)], vm := .none },
  { cls := 12, slots := #[.int (99)], vm := .none },
  { cls := 12, slots := #[.int (100)], vm := .none },
  { cls := 12, slots := #[.int (101)], vm := .none },
  { cls := 12, slots := #[.int (102)], vm := .none },
  { cls := 12, slots := #[.int (103)], vm := .none },
  { cls := 12, slots := #[.int (104)], vm := .none },
  { cls := 12, slots := #[.int (105)], vm := .none },
  { cls := 12, slots := #[.int (106)], vm := .none },
  { cls := 12, slots := #[.int (107)], vm := .none },
  { cls := 12, slots := #[.int (108)], vm := .none },
  { cls := 12, slots := #[.int (109)], vm := .none },
  { cls := 12, slots := #[.int (110)], vm := .none },
  { cls := 12, slots := #[.int (111)], vm := .none },
  { cls := 12, slots := #[.int (112)], vm := .none },
  { cls := 12, slots := #[.int (113)], vm := .none },
  { cls := 12, slots := #[.int (114)], vm := .none },
  { cls := 12, slots := #[.int (115)], vm := .none },
  { cls := 12, slots := #[.int (116)], vm := .none },
  { cls := 12, slots := #[.int (117)], vm := .none },
  { cls := 12, slots := #[.int (118)], vm := .none },
  { cls := 12, slots := #[.int (119)], vm := .none },
  { cls := 12, slots := #[.int (120)], vm := .none },
  { cls := 12, slots := #[.int (121)], vm := .none },
  { cls := 12, slots := #[.int (122)], vm := .none },
  { cls := 12, slots := #[.int (123)], vm := .none },
  { cls := 12, slots := #[.int (124)], vm := .none },
  { cls := 12, slots := #[.int (125)], vm := .none },
  { cls := 12, slots := #[.int (126)], vm := .none },
  { cls := 12, slots := #[.int (127)], vm := .none }]
def classes : Array Class := #[k0, k1, k2, k3, k4, k5, k6, k7, k8, k9, k10, k11, k12, k13, k14, k15, k16, k17, k18, k19, k20, k21, k22, k23, k24]
def interned : List (Array UInt16 × Addr) := []
def slotsUsed : Nat := 527
def theMethod : MethodId := ⟨1, 2⟩
def args0 : Array Value := #[.int 5, .int 5, .int 5, .int 5]
def aboutOver (below : List Frame) : State where
  vm := { classes := classes, interned := interned.toArray }
  heap := heap
  slotsUsed := slotsUsed
  threads := #[{ frames := .invoking theMethod args0 :: below }]
def below0 : List Frame := [.native { method := ⟨0, 0⟩, args := #[] }]
def about1 : State := aboutOver below0
def p0 : Program := .bare "" "" ""
def e0 : Env := launch0.env 0 0 0
theorem w_frames : about1.frames = Frame.invoking theMethod args0 :: below0 := rfl
set_option maxRecDepth 65536 in
theorem w_args : argsFit about1.vm theMethod args0 = true := by decide +kernel
set_option maxRecDepth 65536 in
theorem w_heap : heapFits about1 = true := by decide +kernel
set_option maxRecDepth 65536 in
theorem w_runnable : about1.curStatus? = some .runnable := by decide +kernel
set_option maxRecDepth 65536 in
theorem w_alone : about1.alone = true := by decide +kernel
set_option maxRecDepth 65536 in
theorem w_named : about1.methodNamed? x = some theMethod := by decide +kernel
set_option maxRecDepth 65536 in
theorem w_hears : about1.hears theMethod below0 = true := by decide +kernel
set_option maxRecDepth 65536 in
theorem w_ripe : about1.ripe theMethod args0 below0 = true := by decide +kernel
theorem w_running : about1.status = .running := rfl
set_option maxRecDepth 65536 in
theorem w_room : about1.hasRoom e0.platform room_1 = true :=
  launch0.hasRoom_least _ room_1 (by decide +kernel) (by decide +kernel) (by decide +kernel) (by decide +kernel) (by decide +kernel) (by decide +kernel)
theorem allAtoms_all (ts : List Jvm.Cond) (a : Array Jvm.Value) (st : Jvm.State) : (allAtoms ts).before a st = ts.all (fun c => c.before a st) := by
  induction ts with
  | nil => rfl
  | cons c t ih =>
    show (Jvm.Cond.and c (allAtoms t)).before a st = _
    rw [Jvm.Cond.before_and, ih, List.all_cons]
def words1 : List Jvm.Cond := Jvm.Cond.code x code maxLocals ret :: tables_1
/-- a 'code' word, met by the world's own term for the bytes: nothing is compared byte by byte -/
theorem code_word {y : MethodName} {bytes : ByteArray} {mx : Nat} {rt : Option FieldType} {a : Array Value} {s : State} {m : MethodId} {meth : Method} {c : Code} (h1 : s.methodNamed? y = some m) (h2 : s.vm.method? m = some meth) (h3 : meth.code = some c) (h4 : c.code = bytes)
    (h5 : (c.maxLocals == mx && c.exceptionTable.isEmpty && decide (c.maxStack ≤ mostOperands) && decide (meth.sig.returnType = rt) && !meth.locks && decide (parseMethodDescriptor y.desc = some meth.sig)) = true) : (Jvm.Cond.code y bytes mx rt).before a s = true := by
  simp only [Bool.and_eq_true, beq_iff_eq, Bool.not_eq_true', decide_eq_true_eq] at h5
  obtain ⟨⟨⟨⟨⟨g1, g2⟩, g3⟩, g4⟩, g5⟩, g6⟩ := h5
  simp [Cond.before, Cond.holds, Cond.value, h1, h2, h3, h4, g1, g2, g3, g4, g5, g6]
def isCode : Jvm.Cond → Bool
  | .code _ _ _ _ => true
  | _ => false
theorem all_split {L : List Jvm.Cond} {P : Jvm.Cond → Bool} (h1 : L.all (fun c => isCode c || P c) = true) (h2 : ∀ c ∈ L.filter isCode, P c = true) : L.all P = true := by
  refine List.all_eq_true.mpr fun c hc => ?_
  have h := List.all_eq_true.mp h1 c hc
  rcases Bool.eq_false_or_eq_true (isCode c) with hi | hi
  · exact h2 c (List.mem_filter.mpr ⟨hc, hi⟩)
  · simpa [hi] using h
set_option maxRecDepth 65536 in
theorem w_c0 : (Jvm.Cond.code x code maxLocals ret).before args0 about1 = true := code_word (m := ⟨1, 2⟩) (meth := k1m2) (c := k1c2) (by decide +kernel) rfl rfl rfl (by decide +kernel)
set_option maxRecDepth 65536 in
theorem w_c1 : (Jvm.Cond.code ({ cls := "com/example/wrought_gate/wroughtgate/engine/SchemaLocationEqualsPinLaw", name := "str", desc := "(ICC)Ljava/lang/String;" } : Jvm.MethodName) method_2_code (3 : Nat) (Option.some (Jvm.ClassFile.FieldType.object "java/lang/String"))).before args0 about1 = true := code_word (m := ⟨1, 1⟩) (meth := k1m1) (c := k1c1) (by decide +kernel) rfl rfl rfl (by decide +kernel)
set_option maxRecDepth 65536 in
theorem w_c2 : (Jvm.Cond.code ({ cls := "com/example/wrought_gate/wroughtgate/engine/SchemaLocation", name := "<init>", desc := "(Ljava/lang/String;Ljava/lang/String;Ljava/lang/String;Ljava/lang/String;Z)V" } : Jvm.MethodName) prog_19_method_1_code (6 : Nat) (Option.none : Option Jvm.ClassFile.FieldType)).before args0 about1 = true := code_word (m := ⟨2, 0⟩) (meth := k2m0) (c := k2c0) (by decide +kernel) rfl rfl rfl (by decide +kernel)
set_option maxRecDepth 65536 in
theorem w_c3 : (Jvm.Cond.code ({ cls := "java/lang/Object", name := "<init>", desc := "()V" } : Jvm.MethodName) object_method_1_code (1 : Nat) (Option.none : Option Jvm.ClassFile.FieldType)).before args0 about1 = true := code_word (m := ⟨0, 0⟩) (meth := k0m0) (c := k0c0) (by decide +kernel) rfl rfl rfl (by decide +kernel)
set_option maxRecDepth 65536 in
theorem w_c4 : (Jvm.Cond.code ({ cls := "java/lang/String", name := "startsWith", desc := "(Ljava/lang/String;)Z" } : Jvm.MethodName) jdk_42_method_76_code (2 : Nat) (Option.some Jvm.ClassFile.FieldType.boolean)).before args0 about1 = true := code_word (m := ⟨8, 5⟩) (meth := k8m5) (c := k8c5) (by decide +kernel) rfl rfl rfl (by decide +kernel)
set_option maxRecDepth 65536 in
theorem w_c5 : (Jvm.Cond.code ({ cls := "java/lang/String", name := "startsWith", desc := "(Ljava/lang/String;I)Z" } : Jvm.MethodName) jdk_42_method_75_code (8 : Nat) (Option.some Jvm.ClassFile.FieldType.boolean)).before args0 about1 = true := code_word (m := ⟨8, 4⟩) (meth := k8m4) (c := k8c4) (by decide +kernel) rfl rfl rfl (by decide +kernel)
set_option maxRecDepth 65536 in
theorem w_c6 : (Jvm.Cond.code ({ cls := "java/lang/String", name := "length", desc := "()I" } : Jvm.MethodName) jdk_42_method_54_code (1 : Nat) (Option.some Jvm.ClassFile.FieldType.int)).before args0 about1 = true := code_word (m := ⟨8, 2⟩) (meth := k8m2) (c := k8c2) (by decide +kernel) rfl rfl rfl (by decide +kernel)
set_option maxRecDepth 65536 in
theorem w_c7 : (Jvm.Cond.code ({ cls := "java/lang/String", name := "coder", desc := "()B" } : Jvm.MethodName) jdk_42_method_152_code (1 : Nat) (Option.some Jvm.ClassFile.FieldType.byte)).before args0 about1 = true := code_word (m := ⟨8, 7⟩) (meth := k8m7) (c := k8c7) (by decide +kernel) rfl rfl rfl (by decide +kernel)
set_option maxRecDepth 65536 in
theorem w_c8 : (Jvm.Cond.code ({ cls := "jdk/internal/util/ArraysSupport", name := "mismatch", desc := "([BI[BII)I" } : Jvm.MethodName) jdk_48_method_14_code (8 : Nat) (Option.some Jvm.ClassFile.FieldType.int)).before args0 about1 = true := code_word (m := ⟨9, 1⟩) (meth := k9m1) (c := k9c1) (by decide +kernel) rfl rfl rfl (by decide +kernel)
set_option maxRecDepth 65536 in
theorem w_c9 : (Jvm.Cond.code ({ cls := "java/util/Objects", name := "requireNonNull", desc := "(Ljava/lang/Object;Ljava/lang/String;)Ljava/lang/Object;" } : Jvm.MethodName) jdk_31_method_11_code (2 : Nat) (Option.some (Jvm.ClassFile.FieldType.object "java/lang/Object"))).before args0 about1 = true := code_word (m := ⟨10, 1⟩) (meth := k10m1) (c := k10c1) (by decide +kernel) rfl rfl rfl (by decide +kernel)
set_option maxRecDepth 65536 in
theorem w_c10 : (Jvm.Cond.code ({ cls := "com/example/wrought_gate/wroughtgate/engine/SchemaLocation", name := "equals", desc := "(Ljava/lang/Object;)Z" } : Jvm.MethodName) prog_19_method_7_code (3 : Nat) (Option.some Jvm.ClassFile.FieldType.boolean)).before args0 about1 = true := code_word (m := ⟨2, 1⟩) (meth := k2m1) (c := k2c1) (by decide +kernel) rfl rfl rfl (by decide +kernel)
set_option maxRecDepth 65536 in
theorem w_c11 : (Jvm.Cond.code ({ cls := "java/lang/String", name := "equals", desc := "(Ljava/lang/Object;)Z" } : Jvm.MethodName) jdk_42_method_66_code (3 : Nat) (Option.some Jvm.ClassFile.FieldType.boolean)).before args0 about1 = true := code_word (m := ⟨8, 3⟩) (meth := k8m3) (c := k8c3) (by decide +kernel) rfl rfl rfl (by decide +kernel)
set_option maxRecDepth 65536 in
theorem w_c12 : (Jvm.Cond.code ({ cls := "java/lang/Integer", name := "valueOf", desc := "(I)Ljava/lang/Integer;" } : Jvm.MethodName) jdk_33_method_22_code (1 : Nat) (Option.some (Jvm.ClassFile.FieldType.object "java/lang/Integer"))).before args0 about1 = true := code_word (m := ⟨12, 0⟩) (meth := k12m0) (c := k12c0) (by decide +kernel) rfl rfl rfl (by decide +kernel)
set_option maxRecDepth 65536 in
theorem w_c13 : (Jvm.Cond.code ({ cls := "java/lang/String", name := "<init>", desc := "([C)V" } : Jvm.MethodName) jdk_42_method_3_code (2 : Nat) (Option.none : Option Jvm.ClassFile.FieldType)).before args0 about1 = true := code_word (m := ⟨8, 1⟩) (meth := k8m1) (c := k8c1) (by decide +kernel) rfl rfl rfl (by decide +kernel)
set_option maxRecDepth 65536 in
theorem w_c14 : (Jvm.Cond.code ({ cls := "java/lang/String", name := "<init>", desc := "([CIILjava/lang/Void;)V" } : Jvm.MethodName) jdk_42_method_149_code (6 : Nat) (Option.none : Option Jvm.ClassFile.FieldType)).before args0 about1 = true := code_word (m := ⟨8, 6⟩) (meth := k8m6) (c := k8c6) (by decide +kernel) rfl rfl rfl (by decide +kernel)
set_option maxRecDepth 65536 in
theorem w_c15 : (Jvm.Cond.code ({ cls := "java/lang/StringUTF16", name := "compress", desc := "([CII)[B" } : Jvm.MethodName) jdk_52_method_16_code (6 : Nat) (Option.some (Jvm.ClassFile.FieldType.array Jvm.ClassFile.FieldType.byte))).before args0 about1 = true := code_word (m := ⟨14, 2⟩) (meth := k14m2) (c := k14c2) (by decide +kernel) rfl rfl rfl (by decide +kernel)
set_option maxRecDepth 65536 in
theorem w_c16 : (Jvm.Cond.code ({ cls := "java/lang/StringUTF16", name := "compress", desc := "([CI[BII)I" } : Jvm.MethodName) jdk_52_method_21_code (7 : Nat) (Option.some Jvm.ClassFile.FieldType.int)).before args0 about1 = true := code_word (m := ⟨14, 3⟩) (meth := k14m3) (c := k14c3) (by decide +kernel) rfl rfl rfl (by decide +kernel)
set_option maxRecDepth 65536 in
theorem w_c17 : (Jvm.Cond.code ({ cls := "java/lang/StringUTF16", name := "coderFromArrayLen", desc := "([BI)B" } : Jvm.MethodName) jdk_52_method_15_code (2 : Nat) (Option.some Jvm.ClassFile.FieldType.byte)).before args0 about1 = true := code_word (m := ⟨14, 1⟩) (meth := k14m1) (c := k14c1) (by decide +kernel) rfl rfl rfl (by decide +kernel)
set_option maxRecDepth 65536 in
theorem w_c18 : (Jvm.Cond.code ({ cls := "java/lang/StringLatin1", name := "equals", desc := "([B[B)Z" } : Jvm.MethodName) jdk_43_method_13_code (3 : Nat) (Option.some Jvm.ClassFile.FieldType.boolean)).before args0 about1 = true := code_word (m := ⟨15, 1⟩) (meth := k15m1) (c := k15c1) (by decide +kernel) rfl rfl rfl (by decide +kernel)
set_option maxRecDepth 65536 in
theorem w_c19 : (Jvm.Cond.code ({ cls := "java/lang/Integer", name := "<init>", desc := "(I)V" } : Jvm.MethodName) jdk_33_method_23_code (2 : Nat) (Option.none : Option Jvm.ClassFile.FieldType)).before args0 about1 = true := code_word (m := ⟨12, 1⟩) (meth := k12m1) (c := k12c1) (by decide +kernel) rfl rfl rfl (by decide +kernel)
set_option maxRecDepth 65536 in
theorem w_c20 : (Jvm.Cond.code ({ cls := "java/lang/Number", name := "<init>", desc := "()V" } : Jvm.MethodName) jdk_18_method_1_code (1 : Nat) (Option.none : Option Jvm.ClassFile.FieldType)).before args0 about1 = true := code_word (m := ⟨11, 0⟩) (meth := k11m0) (c := k11c0) (by decide +kernel) rfl rfl rfl (by decide +kernel)
def codes1 : List Jvm.Cond := [Jvm.Cond.code x code maxLocals ret, Jvm.Cond.code ({ cls := "com/example/wrought_gate/wroughtgate/engine/SchemaLocationEqualsPinLaw", name := "str", desc := "(ICC)Ljava/lang/String;" } : Jvm.MethodName) method_2_code (3 : Nat) (Option.some (Jvm.ClassFile.FieldType.object "java/lang/String")), Jvm.Cond.code ({ cls := "com/example/wrought_gate/wroughtgate/engine/SchemaLocation", name := "<init>", desc := "(Ljava/lang/String;Ljava/lang/String;Ljava/lang/String;Ljava/lang/String;Z)V" } : Jvm.MethodName) prog_19_method_1_code (6 : Nat) (Option.none : Option Jvm.ClassFile.FieldType), Jvm.Cond.code ({ cls := "java/lang/Object", name := "<init>", desc := "()V" } : Jvm.MethodName) object_method_1_code (1 : Nat) (Option.none : Option Jvm.ClassFile.FieldType), Jvm.Cond.code ({ cls := "java/lang/String", name := "startsWith", desc := "(Ljava/lang/String;)Z" } : Jvm.MethodName) jdk_42_method_76_code (2 : Nat) (Option.some Jvm.ClassFile.FieldType.boolean), Jvm.Cond.code ({ cls := "java/lang/String", name := "startsWith", desc := "(Ljava/lang/String;I)Z" } : Jvm.MethodName) jdk_42_method_75_code (8 : Nat) (Option.some Jvm.ClassFile.FieldType.boolean), Jvm.Cond.code ({ cls := "java/lang/String", name := "length", desc := "()I" } : Jvm.MethodName) jdk_42_method_54_code (1 : Nat) (Option.some Jvm.ClassFile.FieldType.int), Jvm.Cond.code ({ cls := "java/lang/String", name := "coder", desc := "()B" } : Jvm.MethodName) jdk_42_method_152_code (1 : Nat) (Option.some Jvm.ClassFile.FieldType.byte), Jvm.Cond.code ({ cls := "jdk/internal/util/ArraysSupport", name := "mismatch", desc := "([BI[BII)I" } : Jvm.MethodName) jdk_48_method_14_code (8 : Nat) (Option.some Jvm.ClassFile.FieldType.int), Jvm.Cond.code ({ cls := "java/util/Objects", name := "requireNonNull", desc := "(Ljava/lang/Object;Ljava/lang/String;)Ljava/lang/Object;" } : Jvm.MethodName) jdk_31_method_11_code (2 : Nat) (Option.some (Jvm.ClassFile.FieldType.object "java/lang/Object")), Jvm.Cond.code ({ cls := "com/example/wrought_gate/wroughtgate/engine/SchemaLocation", name := "equals", desc := "(Ljava/lang/Object;)Z" } : Jvm.MethodName) prog_19_method_7_code (3 : Nat) (Option.some Jvm.ClassFile.FieldType.boolean), Jvm.Cond.code ({ cls := "java/lang/String", name := "equals", desc := "(Ljava/lang/Object;)Z" } : Jvm.MethodName) jdk_42_method_66_code (3 : Nat) (Option.some Jvm.ClassFile.FieldType.boolean), Jvm.Cond.code ({ cls := "java/lang/Integer", name := "valueOf", desc := "(I)Ljava/lang/Integer;" } : Jvm.MethodName) jdk_33_method_22_code (1 : Nat) (Option.some (Jvm.ClassFile.FieldType.object "java/lang/Integer")), Jvm.Cond.code ({ cls := "java/lang/String", name := "<init>", desc := "([C)V" } : Jvm.MethodName) jdk_42_method_3_code (2 : Nat) (Option.none : Option Jvm.ClassFile.FieldType), Jvm.Cond.code ({ cls := "java/lang/String", name := "<init>", desc := "([CIILjava/lang/Void;)V" } : Jvm.MethodName) jdk_42_method_149_code (6 : Nat) (Option.none : Option Jvm.ClassFile.FieldType), Jvm.Cond.code ({ cls := "java/lang/StringUTF16", name := "compress", desc := "([CII)[B" } : Jvm.MethodName) jdk_52_method_16_code (6 : Nat) (Option.some (Jvm.ClassFile.FieldType.array Jvm.ClassFile.FieldType.byte)), Jvm.Cond.code ({ cls := "java/lang/StringUTF16", name := "compress", desc := "([CI[BII)I" } : Jvm.MethodName) jdk_52_method_21_code (7 : Nat) (Option.some Jvm.ClassFile.FieldType.int), Jvm.Cond.code ({ cls := "java/lang/StringUTF16", name := "coderFromArrayLen", desc := "([BI)B" } : Jvm.MethodName) jdk_52_method_15_code (2 : Nat) (Option.some Jvm.ClassFile.FieldType.byte), Jvm.Cond.code ({ cls := "java/lang/StringLatin1", name := "equals", desc := "([B[B)Z" } : Jvm.MethodName) jdk_43_method_13_code (3 : Nat) (Option.some Jvm.ClassFile.FieldType.boolean), Jvm.Cond.code ({ cls := "java/lang/Integer", name := "<init>", desc := "(I)V" } : Jvm.MethodName) jdk_33_method_23_code (2 : Nat) (Option.none : Option Jvm.ClassFile.FieldType), Jvm.Cond.code ({ cls := "java/lang/Number", name := "<init>", desc := "()V" } : Jvm.MethodName) jdk_18_method_1_code (1 : Nat) (Option.none : Option Jvm.ClassFile.FieldType)]
set_option maxRecDepth 65536 in
theorem codes_eq : words1.filter isCode = codes1 := rfl
theorem w_codes : ∀ c ∈ words1.filter isCode, c.before args0 about1 = true := by
  rw [codes_eq]
  intro c hc
  simp only [codes1, List.mem_cons, List.not_mem_nil, or_false] at hc
  rcases hc with rfl | rfl | rfl | rfl | rfl | rfl | rfl | rfl | rfl | rfl | rfl | rfl | rfl | rfl | rfl | rfl | rfl | rfl | rfl | rfl | rfl
  · exact w_c0
  · exact w_c1
  · exact w_c2
  · exact w_c3
  · exact w_c4
  · exact w_c5
  · exact w_c6
  · exact w_c7
  · exact w_c8
  · exact w_c9
  · exact w_c10
  · exact w_c11
  · exact w_c12
  · exact w_c13
  · exact w_c14
  · exact w_c15
  · exact w_c16
  · exact w_c17
  · exact w_c18
  · exact w_c19
  · exact w_c20
set_option maxRecDepth 65536 in
theorem w_t1 : (words1.take 24).all (fun c => isCode c || c.before args0 about1) = true := by decide +kernel
set_option maxRecDepth 65536 in
theorem w_t2 : ((words1.drop 24).take 24).all (fun c => isCode c || c.before args0 about1) = true := by decide +kernel
set_option maxRecDepth 65536 in
theorem w_t3 : (((words1.drop 24).drop 24).take 24).all (fun c => isCode c || c.before args0 about1) = true := by decide +kernel
set_option maxRecDepth 65536 in
theorem w_t4 : ((((words1.drop 24).drop 24).drop 24).take 24).all (fun c => isCode c || c.before args0 about1) = true := by decide +kernel
set_option maxRecDepth 65536 in
theorem w_t5 : (((((words1.drop 24).drop 24).drop 24).drop 24).take 24).all (fun c => isCode c || c.before args0 about1) = true := by decide +kernel
set_option maxRecDepth 65536 in
theorem w_t6 : (((((words1.drop 24).drop 24).drop 24).drop 24).drop 24).all (fun c => isCode c || c.before args0 about1) = true := by decide +kernel
theorem w_tables : (allAtoms (Jvm.Cond.code x code maxLocals ret :: tables_1)).before args0 about1 = true := by
  rw [allAtoms_all]
  show words1.all (fun c => c.before args0 about1) = true
  refine all_split ?_ w_codes
  rw [← List.take_append_drop 24 words1, List.all_append, w_t1, ← List.take_append_drop 24 (words1.drop 24), List.all_append, w_t2, ← List.take_append_drop 24 ((words1.drop 24).drop 24), List.all_append, w_t3, ← List.take_append_drop 24 (((words1.drop 24).drop 24).drop 24), List.all_append, w_t4, ← List.take_append_drop 24 ((((words1.drop 24).drop 24).drop 24).drop 24), List.all_append, w_t5, w_t6]
  rfl
set_option maxRecDepth 65536 in
theorem w_rest : rest_1_c.before args0 about1 = true := by decide +kernel
set_option maxRecDepth 65536 in
theorem w_case : (Jvm.Cond.and given_1 narrow_1).before args0 about1 = true := by decide +kernel
set_option maxRecDepth 65536 in
theorem w_consts : constsHeld consts_1 about1 := Jvm.Lit.constsHeldB_iff.mp (by decide +kernel)
theorem w_applies : (headSpec (Jvm.Cond.code x code maxLocals ret :: tables_1) room_1).applies x e0.platform about1 = true :=
  (Spec.applies_iff w_frames).mpr ⟨w_running, w_runnable, w_alone, w_named, w_hears, w_ripe, w_room, w_tables⟩
theorem atStart : AtStart classFile x code maxLocals ret World_1 tables_1 room_1 Calls_1 rest_1 Pre_1 launch0 p0 e0 about1 theMethod args0 below0 :=
  ⟨lists_1, trivial, launch0.admits_env _ _ _, launch0.least_env, fairChoices_fair.cas, fairChoices_fair.clock, w_frames, w_args, w_heap, w_applies, ⟨w_consts, trivial⟩, w_rest, w_case⟩
end start1
theorem witness_1 : WitnessClaimed_1 := ⟨start1.p0, start1.e0, start1.about1, start1.theMethod, start1.args0, start1.below0, start1.atStart⟩
end Jvm.Pilot.@@N@@
