import JvmDerived
import JvmDerived.Pilot.@@N@@Statement
import JvmDerived.Pilot.@@N@@Code
set_option linter.unusedVariables false
set_option linter.unusedSimpArgs false
namespace Jvm.Pilot.@@N@@
open Jvm Jvm.ClassFile Sem Op Lib Jvm.Free Jvm.Stand Jvm.LawKit Jvm.RoadKit Bundle Jvm.Pilot.@@N@@.Jvm.D
abbrev jv (x : Int64) : Slot := .val (.long x)
theorem ow {Z : State} {a0 : Array Value} (hw : ∀ d ∈ tables_1, d.before a0 Z = true) (i : Nat) {d : Jvm.Cond} (h : tables_1[i]? = some d) : d.before a0 Z = true := hw _ (List.mem_of_getElem? h)
section OwnKit
variable {p : Program} {l : Launch} {e : Env} {R : Room} {s : State} {m : MethodId} {args : Array Value} {below : List Frame} {meth : Method} {c : Code} {T T' : State} {locs : List Loc} {cells slots kc ks : Nat} {Q : Option Value → Heap → List Loc → Prop} {g g' : JFrame}
/-- from this state and frame on the body ends, and Q holds of what it returns, of the heap and of the places written -/
def OwnG (p : Program) (e : Env) (below : List Frame) (s : State) (kc ks : Nat) (Q : Option Value → Heap → List Loc → Prop) (T : State) (g : JFrame) : Prop :=
  ∃ s₂ o, Steps p.tables e below (T.setTop g) s₂ ∧ s₂.status = .running ∧ Ended s₂ below o ∧ ∃ v L, o = .returned v ∧ Q v s₂.heap L ∧ FrameEnd s o s₂ L kc ks
theorem own_by (k : ∀ t, Steps p.tables e below (T'.setTop g') t → Steps p.tables e below (T.setTop g) t) (h : OwnG p e below s kc ks Q T' g') : OwnG p e below s kc ks Q T g := by
  obtain ⟨s₂, o, st, r⟩ := h
  exact ⟨s₂, o, k _ st, r⟩
theorem own_out (X : Stand p l e R s m args below meth c T locs cells slots) (hlk : meth.locks = false) {v : Option Value} (hv : meth.sig.returnType = none → v = none)
    (hst : ∀ fs, (∀ (f : JFrame) (acts : List Action), f.method = m → f.locked = none → f.entered = [] → (doReturn e (T.setTop f) acts v).1 = T.setFrames fs) → Steps p.tables e below (T.setTop g) (T.setFrames fs))
    (hq : Q v T.heap locs) (hc : cells ≤ kc) (hs : slots ≤ ks) : OwnG p e below s kc ks Q T g := by
  obtain ⟨fs, hr, hrun, hended, hW, hsame⟩ := X.leave (v := v) hv hlk
  exact ⟨_, _, hst fs hr, hrun, hended, v, locs, rfl, hq, ⟨_, rfl⟩, hW, hsame.mono hc hs⟩
def OwnGW (p : Program) (e : Env) (below : List Frame) (s : State) (kc ks : Nat) (Q : Option Value → Heap → List Loc → Prop) (T : State) (g : JFrame) : Prop :=
  ∃ s₂ o, Steps p.tables e below (T.setTop g) s₂ ∧ s₂.status = .running ∧ Ended s₂ below o ∧ ∃ v L, o = .returned v ∧ Q v s₂.heap L ∧ ReturnedEndW s o s₂ L kc ks
theorem own_byW (k : ∀ t, Steps p.tables e below (T'.setTop g') t → Steps p.tables e below (T.setTop g) t) (h : OwnGW p e below s kc ks Q T' g') : OwnGW p e below s kc ks Q T g := by
  obtain ⟨s₂, o, st, r⟩ := h
  exact ⟨s₂, o, k _ st, r⟩
theorem own_outW {vm : Vm} {k : Nat} (X : Stand p l e R (s.setVm vm) m args below meth c T locs cells slots) (hS : s.Since vm k) (hk : k ≤ T.heap.size) (hlk : meth.locks = false) {v : Option Value} (hv : meth.sig.returnType = none → v = none)
    (hst : ∀ fs, (∀ (f : JFrame) (acts : List Action), f.method = m → f.locked = none → f.entered = [] → (doReturn e (T.setTop f) acts v).1 = T.setFrames fs) → Steps p.tables e below (T.setTop g) (T.setFrames fs))
    (hq : Q v T.heap locs) (hc : cells ≤ kc) (hs : slots ≤ ks) : OwnGW p e below s kc ks Q T g := by
  obtain ⟨fs, hr, hrun, hended, h1, h2, h3, h4⟩ := X.leaveW hS hk (v := v) hv hlk
  exact ⟨_, _, hst fs hr, hrun, hended, v, locs, rfl, hq, h1, h2, h3, h4.mono hc hs⟩
def OwnGH (p : Program) (e : Env) (below : List Frame) (s Z : State) (EL : List (String × Nat)) (kc ks : Nat) (Q : Option Value → Heap → List Loc → Prop) (T : State) (g : JFrame) : Prop :=
  ∃ s₂ o, Steps p.tables e below (T.setTop g) s₂ ∧ s₂.status = .running ∧ Ended s₂ below o ∧ ∃ v L, o = .returned v ∧ Q v s₂.heap L ∧ CHr Z EL s.vm s.heap s₂.vm s₂.heap ∧ ReturnedEndW s o s₂ L kc ks
theorem own_byH {Z : State} {EL : List (String × Nat)} (k : ∀ t, Steps p.tables e below (T'.setTop g') t → Steps p.tables e below (T.setTop g) t) (h : OwnGH p e below s Z EL kc ks Q T' g') : OwnGH p e below s Z EL kc ks Q T g := by
  obtain ⟨s₂, o, st, r⟩ := h
  exact ⟨s₂, o, k _ st, r⟩
theorem own_outH {Z : State} {a0 : Array Value} {EL : List (String × Nat)} {h0 : Heap} {vm : Vm} {k : Nat} (X : Stand p l e R (s.setVm vm) m args below meth c T locs cells slots) (hh : s.heap = h0) (hEL : EW Z a0 EL) (hS : s.Since vm k) (hk : k ≤ T.heap.size) (HR : CHr Z EL s.vm h0 vm T.heap) (hZ : Z.Warmed39 vm) (hlk : meth.locks = false) {v : Option Value} (hv : meth.sig.returnType = none → v = none)
    (hst : ∀ fs, (∀ (f : JFrame) (acts : List Action), f.method = m → f.locked = none → f.entered = [] → (doReturn e (T.setTop f) acts v).1 = T.setFrames fs) → Steps p.tables e below (T.setTop g) (T.setFrames fs))
    (hq : Q v T.heap locs) (hc : cells ≤ kc) (hs : slots ≤ ks) : OwnGH p e below s Z EL kc ks Q T g := by
  obtain ⟨fs, hr, hrun, hended, h1, h2, h3, h4⟩ := X.leaveW hS hk (v := v) hv hlk
  have C := HR.trans (CHv.at X hZ hEL HR.1)
  exact ⟨_, _, hst fs hr, hrun, hended, v, locs, rfl, hq, (by rw [hh]; exact C), h1, h2, h3, h4.mono hc hs⟩
theorem own_lt (x y : Int64) : lcmpW x y < 0 ↔ x < y := by rw [lcW]; exact lc_lt x y
theorem own_gt (x y : Int64) : 0 < lcmpW x y ↔ y < x := by rw [lcW]; exact lc_gt x y
theorem own_eq (x y : Int64) : lcmpW x y = 0 ↔ x = y := by rw [lcW]; exact lc_eq x y
theorem own_fldI {Z : State} {a : Addr} {t : Jvm.Term} {C n d : String} {k : Int32} (ev : t.eval args Z none [] Z = some (.ref a)) (h : (Jvm.Cond.eq (Jvm.Term.field t C n d) (Jvm.Term.int k)).value args Z none Z [] = some true) : Fld Z Z.heap a C n d (.int k) := by
  obtain ⟨x, y, h1, h2, h3, h4⟩ := cmp_v (Or.inl h)
  cases (Term.int_eval k).symm.trans h2
  obtain ⟨z, rfl⟩ := h4
  rw [fld_at ev] at h1
  have h5 : (Jvm.Cond.eq (Jvm.Term.field t C n d) (Jvm.Term.int k)).value args Z none Z [] = some (decide (z = k)) := by simp [Jvm.Cond.value, fld_at ev, h1, Term.int_eval]
  cases gotT h5 h
  exact Fld.start h1
theorem own_fldJ {Z : State} {a : Addr} {t : Jvm.Term} {C n d : String} {k : Int64} (ev : t.eval args Z none [] Z = some (.ref a)) (h : (Jvm.Cond.eq (Jvm.Term.field t C n d) (Jvm.Term.long k)).value args Z none Z [] = some true) : Fld Z Z.heap a C n d (.long k) := by
  obtain ⟨x, y, h1, h2, h3, h4⟩ := cmp_v (Or.inl h)
  cases (long_at k).symm.trans h2
  obtain ⟨z, rfl⟩ := h4
  have h5 := gotT (eq_L h1 (long_at k)) h
  rw [fld_at ev] at h1
  cases h5
  exact Fld.start h1
theorem own_fldN {Z : State} {a : Addr} {t : Jvm.Term} {C n d : String} (ev : t.eval args Z none [] Z = some (.ref a)) (h : (Jvm.Cond.eq (Jvm.Term.field t C n d) Jvm.Term.null).value args Z none Z [] = some true) : Fld Z Z.heap a C n d .null := by
  have h1 := null_v h
  rw [fld_at ev] at h1
  exact Fld.start h1
theorem own_e0 {P : Prop} [Decidable P] (h : (if P then (1 : Int32) else (0 : Int32)) = 0) : ¬ P := fun q => by rw [if_pos q] at h; exact absurd h (by decide)
theorem own_e1 {P : Prop} [Decidable P] (h : ¬ (if P then (1 : Int32) else (0 : Int32)) = 0) : P := by
  by_cases q : P
  · exact q
  · exact absurd (if_neg q) h
theorem own_n2 {P Q : Prop} [Decidable P] [Decidable Q] {A : Int32} (h : ¬ (P ∧ Q)) : (if P then (if Q then A else (0 : Int32)) else (0 : Int32)) = 0 := by
  by_cases p : P
  · rw [if_pos p, if_neg (fun q => h ⟨p, q⟩)]
  · rw [if_neg p]
theorem own_narR {v : Value} {C : String} (h : v.isRef = true) : narrow (.object C) v = v := by rcases ref_cases h with rfl | ⟨_, rfl⟩ <;> rfl
theorem own_fitR {v : Value} {C : String} (h : v.isRef = true) : fits (.object C) v = true := by rcases ref_cases h with rfl | ⟨_, rfl⟩ <;> rfl
theorem own_len {Z : State} {t : Jvm.Term} {a : Addr} {cl : Cell} {ty : FieldType} {k : Int32} (et : t.eval args Z none [] Z = some (.ref a)) (A : Arr Z Z.heap a cl ty) (h : (Jvm.Term.length t).eval args Z none [] Z = some (.int k)) : cl.slots.size < 2 ^ 31 ∧ cl.slots.size.toInt32 = k := by
  have hA := A.fin (Vm.Alike.refl Z.vm)
  by_cases q : cl.slots.size < 2 ^ 31
  · rw [len_f et hA q] at h; exact ⟨q, by simpa using h⟩
  · simp [Jvm.Term.eval, et, hA] at h; exact absurd h.1 q
theorem own_mvM {Z : State} {a0 : Array Value} {own host : String} {index : Nat} {y : MethodName} (hZ : Z.Warmed39 s.vm) (w : (Jvm.Cond.methodLinkNest own index y host).before a0 Z = true) : (Jvm.Cond.methodLinkNest own index y host).before args s = true := (Cond.methodLinkNest_wide hZ w :)
end OwnKit
theorem d1_0 : decode method_7_code 0 = .ok (.iload_n 1, 1) := by decide +kernel
theorem d1_1 : decode method_7_code 1 = .ok (.newarray .char, 2) := by decide +kernel
theorem d1_3 : decode method_7_code 3 = .ok (.astore_n 2, 1) := by decide +kernel
theorem d1_4 : decode method_7_code 4 = .ok (.iload_n 1, 1) := by decide +kernel
theorem d1_5 : decode method_7_code 5 = .ok (.ifCond .le 9, 3) := by decide +kernel
theorem d1_8 : decode method_7_code 8 = .ok (.aload_n 2, 1) := by decide +kernel
theorem d1_9 : decode method_7_code 9 = .ok (.iconst 0, 1) := by decide +kernel
theorem d1_10 : decode method_7_code 10 = .ok (.aload_n 0, 1) := by decide +kernel
theorem d1_11 : decode method_7_code 11 = .ok (.iconst 0, 1) := by decide +kernel
theorem d1_12 : decode method_7_code 12 = .ok (.caload, 1) := by decide +kernel
theorem d1_13 : decode method_7_code 13 = .ok (.castore, 1) := by decide +kernel
theorem d1_14 : decode method_7_code 14 = .ok (.iload_n 1, 1) := by decide +kernel
theorem d1_15 : decode method_7_code 15 = .ok (.iconst 1, 1) := by decide +kernel
theorem d1_16 : decode method_7_code 16 = .ok (.if_icmp .le 9, 3) := by decide +kernel
theorem d1_19 : decode method_7_code 19 = .ok (.aload_n 2, 1) := by decide +kernel
theorem d1_20 : decode method_7_code 20 = .ok (.iconst 1, 1) := by decide +kernel
theorem d1_21 : decode method_7_code 21 = .ok (.aload_n 0, 1) := by decide +kernel
theorem d1_22 : decode method_7_code 22 = .ok (.iconst 1, 1) := by decide +kernel
theorem d1_23 : decode method_7_code 23 = .ok (.caload, 1) := by decide +kernel
theorem d1_24 : decode method_7_code 24 = .ok (.castore, 1) := by decide +kernel
theorem d1_25 : decode method_7_code 25 = .ok (.iload_n 1, 1) := by decide +kernel
theorem d1_26 : decode method_7_code 26 = .ok (.iconst 2, 1) := by decide +kernel
theorem d1_27 : decode method_7_code 27 = .ok (.if_icmp .le 9, 3) := by decide +kernel
theorem d1_30 : decode method_7_code 30 = .ok (.aload_n 2, 1) := by decide +kernel
theorem d1_31 : decode method_7_code 31 = .ok (.iconst 2, 1) := by decide +kernel
theorem d1_32 : decode method_7_code 32 = .ok (.aload_n 0, 1) := by decide +kernel
theorem d1_33 : decode method_7_code 33 = .ok (.iconst 2, 1) := by decide +kernel
theorem d1_34 : decode method_7_code 34 = .ok (.caload, 1) := by decide +kernel
theorem d1_35 : decode method_7_code 35 = .ok (.castore, 1) := by decide +kernel
theorem d1_36 : decode method_7_code 36 = .ok (.iload_n 1, 1) := by decide +kernel
theorem d1_37 : decode method_7_code 37 = .ok (.iconst 3, 1) := by decide +kernel
theorem d1_38 : decode method_7_code 38 = .ok (.if_icmp .le 9, 3) := by decide +kernel
theorem d1_41 : decode method_7_code 41 = .ok (.aload_n 2, 1) := by decide +kernel
theorem d1_42 : decode method_7_code 42 = .ok (.iconst 3, 1) := by decide +kernel
theorem d1_43 : decode method_7_code 43 = .ok (.aload_n 0, 1) := by decide +kernel
theorem d1_44 : decode method_7_code 44 = .ok (.iconst 3, 1) := by decide +kernel
theorem d1_45 : decode method_7_code 45 = .ok (.caload, 1) := by decide +kernel
theorem d1_46 : decode method_7_code 46 = .ok (.castore, 1) := by decide +kernel
theorem d1_47 : decode method_7_code 47 = .ok (.iload_n 1, 1) := by decide +kernel
theorem d1_48 : decode method_7_code 48 = .ok (.iconst 4, 1) := by decide +kernel
theorem d1_49 : decode method_7_code 49 = .ok (.if_icmp .le 9, 3) := by decide +kernel
theorem d1_52 : decode method_7_code 52 = .ok (.aload_n 2, 1) := by decide +kernel
theorem d1_53 : decode method_7_code 53 = .ok (.iconst 4, 1) := by decide +kernel
theorem d1_54 : decode method_7_code 54 = .ok (.aload_n 0, 1) := by decide +kernel
theorem d1_55 : decode method_7_code 55 = .ok (.iconst 4, 1) := by decide +kernel
theorem d1_56 : decode method_7_code 56 = .ok (.caload, 1) := by decide +kernel
theorem d1_57 : decode method_7_code 57 = .ok (.castore, 1) := by decide +kernel
theorem d1_58 : decode method_7_code 58 = .ok (.iload_n 1, 1) := by decide +kernel
theorem d1_59 : decode method_7_code 59 = .ok (.iconst 5, 1) := by decide +kernel
theorem d1_60 : decode method_7_code 60 = .ok (.if_icmp .le 9, 3) := by decide +kernel
theorem d1_63 : decode method_7_code 63 = .ok (.aload_n 2, 1) := by decide +kernel
theorem d1_64 : decode method_7_code 64 = .ok (.iconst 5, 1) := by decide +kernel
theorem d1_65 : decode method_7_code 65 = .ok (.aload_n 0, 1) := by decide +kernel
theorem d1_66 : decode method_7_code 66 = .ok (.iconst 5, 1) := by decide +kernel
theorem d1_67 : decode method_7_code 67 = .ok (.caload, 1) := by decide +kernel
theorem d1_68 : decode method_7_code 68 = .ok (.castore, 1) := by decide +kernel
theorem d1_69 : decode method_7_code 69 = .ok (.aload_n 2, 1) := by decide +kernel
theorem d1_70 : decode method_7_code 70 = .ok (.areturn, 1) := by decide +kernel
theorem d2_0 : decode jdk_42_method_3_code 0 = .ok (.aload_n 0, 1) := by decide +kernel
theorem d2_1 : decode jdk_42_method_3_code 1 = .ok (.aload_n 1, 1) := by decide +kernel
theorem d2_2 : decode jdk_42_method_3_code 2 = .ok (.iconst 0, 1) := by decide +kernel
theorem d2_3 : decode jdk_42_method_3_code 3 = .ok (.aload_n 1, 1) := by decide +kernel
theorem d2_4 : decode jdk_42_method_3_code 4 = .ok (.arraylength, 1) := by decide +kernel
theorem d2_5 : decode jdk_42_method_3_code 5 = .ok (.aconst_null, 1) := by decide +kernel
theorem d2_6 : decode jdk_42_method_3_code 6 = .ok (.invokespecial 27, 3) := by decide +kernel
theorem d2_9 : decode jdk_42_method_3_code 9 = .ok (.return_, 1) := by decide +kernel
theorem d3_0 : decode jdk_42_method_149_code 0 = .ok (.aload_n 0, 1) := by decide +kernel
theorem d3_1 : decode jdk_42_method_149_code 1 = .ok (.invokespecial 1, 3) := by decide +kernel
theorem d3_4 : decode jdk_42_method_149_code 4 = .ok (.iload_n 3, 1) := by decide +kernel
theorem d3_5 : decode jdk_42_method_149_code 5 = .ok (.ifCond .ne 22, 3) := by decide +kernel
theorem d3_8 : decode jdk_42_method_149_code 8 = .ok (.aload_n 0, 1) := by decide +kernel
theorem d3_9 : decode jdk_42_method_149_code 9 = .ok (.ldc 7, 2) := by decide +kernel
theorem d3_11 : decode jdk_42_method_149_code 11 = .ok (.getfield 9, 3) := by decide +kernel
theorem d3_14 : decode jdk_42_method_149_code 14 = .ok (.putfield 9, 3) := by decide +kernel
theorem d3_17 : decode jdk_42_method_149_code 17 = .ok (.aload_n 0, 1) := by decide +kernel
theorem d3_18 : decode jdk_42_method_149_code 18 = .ok (.ldc 7, 2) := by decide +kernel
theorem d3_20 : decode jdk_42_method_149_code 20 = .ok (.getfield 15, 3) := by decide +kernel
theorem d3_23 : decode jdk_42_method_149_code 23 = .ok (.putfield 15, 3) := by decide +kernel
theorem d3_26 : decode jdk_42_method_149_code 26 = .ok (.return_, 1) := by decide +kernel
theorem d3_27 : decode jdk_42_method_149_code 27 = .ok (.getstatic 38, 3) := by decide +kernel
theorem d3_30 : decode jdk_42_method_149_code 30 = .ok (.ifCond .eq 28, 3) := by decide +kernel
theorem d3_33 : decode jdk_42_method_149_code 33 = .ok (.aload_n 1, 1) := by decide +kernel
theorem d3_34 : decode jdk_42_method_149_code 34 = .ok (.iload_n 2, 1) := by decide +kernel
theorem d3_35 : decode jdk_42_method_149_code 35 = .ok (.iload_n 3, 1) := by decide +kernel
theorem d3_36 : decode jdk_42_method_149_code 36 = .ok (.invokestatic 177, 3) := by decide +kernel
theorem d3_39 : decode jdk_42_method_149_code 39 = .ok (.astore 5, 2) := by decide +kernel
theorem d3_41 : decode jdk_42_method_149_code 41 = .ok (.aload_n 0, 1) := by decide +kernel
theorem d3_42 : decode jdk_42_method_149_code 42 = .ok (.aload 5, 2) := by decide +kernel
theorem d3_44 : decode jdk_42_method_149_code 44 = .ok (.iload_n 3, 1) := by decide +kernel
theorem d3_45 : decode jdk_42_method_149_code 45 = .ok (.invokestatic 47, 3) := by decide +kernel
theorem d3_48 : decode jdk_42_method_149_code 48 = .ok (.putfield 15, 3) := by decide +kernel
theorem d3_51 : decode jdk_42_method_149_code 51 = .ok (.aload_n 0, 1) := by decide +kernel
theorem d3_52 : decode jdk_42_method_149_code 52 = .ok (.aload 5, 2) := by decide +kernel
theorem d3_54 : decode jdk_42_method_149_code 54 = .ok (.putfield 9, 3) := by decide +kernel
theorem d3_57 : decode jdk_42_method_149_code 57 = .ok (.return_, 1) := by decide +kernel
theorem d5_0 : decode method_3_code 0 = .ok (.iload_n 0, 1) := by decide +kernel
theorem d5_1 : decode method_3_code 1 = .ok (.iconst 3, 1) := by decide +kernel
theorem d5_2 : decode method_3_code 2 = .ok (.iand, 1) := by decide +kernel
theorem d5_3 : decode method_3_code 3 = .ok (.iconst 1, 1) := by decide +kernel
theorem d5_4 : decode method_3_code 4 = .ok (.iadd, 1) := by decide +kernel
theorem d5_5 : decode method_3_code 5 = .ok (.ireturn, 1) := by decide +kernel
theorem d6_0 : decode prog_13_method_5_code 0 = .ok (.iconst 0, 1) := by decide +kernel
theorem d6_1 : decode prog_13_method_5_code 1 = .ok (.istore_n 2, 1) := by decide +kernel
theorem d6_2 : decode prog_13_method_5_code 2 = .ok (.iconst 0, 1) := by decide +kernel
theorem d6_3 : decode prog_13_method_5_code 3 = .ok (.istore_n 3, 1) := by decide +kernel
theorem d6_4 : decode prog_13_method_5_code 4 = .ok (.iload_n 3, 1) := by decide +kernel
theorem d6_5 : decode prog_13_method_5_code 5 = .ok (.aload_n 0, 1) := by decide +kernel
theorem d6_6 : decode prog_13_method_5_code 6 = .ok (.invokevirtual 82, 3) := by decide +kernel
theorem d6_9 : decode prog_13_method_5_code 9 = .ok (.if_icmp .ge 44, 3) := by decide +kernel
theorem d6_12 : decode prog_13_method_5_code 12 = .ok (.aload_n 0, 1) := by decide +kernel
theorem d6_13 : decode prog_13_method_5_code 13 = .ok (.iload_n 3, 1) := by decide +kernel
theorem d6_14 : decode prog_13_method_5_code 14 = .ok (.invokevirtual 86, 3) := by decide +kernel
theorem d6_17 : decode prog_13_method_5_code 17 = .ok (.istore 4, 2) := by decide +kernel
theorem d6_19 : decode prog_13_method_5_code 19 = .ok (.iload 4, 2) := by decide +kernel
theorem d6_21 : decode prog_13_method_5_code 21 = .ok (.invokestatic 89, 3) := by decide +kernel
theorem d6_24 : decode prog_13_method_5_code 24 = .ok (.istore 5, 2) := by decide +kernel
theorem d6_26 : decode prog_13_method_5_code 26 = .ok (.iload_n 2, 1) := by decide +kernel
theorem d6_27 : decode prog_13_method_5_code 27 = .ok (.iload 5, 2) := by decide +kernel
theorem d6_29 : decode prog_13_method_5_code 29 = .ok (.iadd, 1) := by decide +kernel
theorem d6_30 : decode prog_13_method_5_code 30 = .ok (.iload_n 1, 1) := by decide +kernel
theorem d6_31 : decode prog_13_method_5_code 31 = .ok (.if_icmp .le 6, 3) := by decide +kernel
theorem d6_34 : decode prog_13_method_5_code 34 = .ok (.goto 19, 3) := by decide +kernel
theorem d6_37 : decode prog_13_method_5_code 37 = .ok (.iload_n 2, 1) := by decide +kernel
theorem d6_38 : decode prog_13_method_5_code 38 = .ok (.iload 5, 2) := by decide +kernel
theorem d6_40 : decode prog_13_method_5_code 40 = .ok (.iadd, 1) := by decide +kernel
theorem d6_41 : decode prog_13_method_5_code 41 = .ok (.istore_n 2, 1) := by decide +kernel
theorem d6_42 : decode prog_13_method_5_code 42 = .ok (.iload_n 3, 1) := by decide +kernel
theorem d6_43 : decode prog_13_method_5_code 43 = .ok (.iload 4, 2) := by decide +kernel
theorem d6_45 : decode prog_13_method_5_code 45 = .ok (.invokestatic 92, 3) := by decide +kernel
theorem d6_48 : decode prog_13_method_5_code 48 = .ok (.iadd, 1) := by decide +kernel
theorem d6_49 : decode prog_13_method_5_code 49 = .ok (.istore_n 3, 1) := by decide +kernel
theorem d6_50 : decode prog_13_method_5_code 50 = .ok (.goto (-46), 3) := by decide +kernel
theorem d6_53 : decode prog_13_method_5_code 53 = .ok (.aload_n 0, 1) := by decide +kernel
theorem d6_54 : decode prog_13_method_5_code 54 = .ok (.iconst 0, 1) := by decide +kernel
theorem d6_55 : decode prog_13_method_5_code 55 = .ok (.iload_n 3, 1) := by decide +kernel
theorem d6_56 : decode prog_13_method_5_code 56 = .ok (.invokevirtual 97, 3) := by decide +kernel
theorem d6_59 : decode prog_13_method_5_code 59 = .ok (.areturn, 1) := by decide +kernel
theorem d7_0 : decode jdk_42_method_54_code 0 = .ok (.aload_n 0, 1) := by decide +kernel
theorem d7_1 : decode jdk_42_method_54_code 1 = .ok (.getfield 9, 3) := by decide +kernel
theorem d7_4 : decode jdk_42_method_54_code 4 = .ok (.arraylength, 1) := by decide +kernel
theorem d7_5 : decode jdk_42_method_54_code 5 = .ok (.aload_n 0, 1) := by decide +kernel
theorem d7_6 : decode jdk_42_method_54_code 6 = .ok (.invokevirtual 335, 3) := by decide +kernel
theorem d7_9 : decode jdk_42_method_54_code 9 = .ok (.ishr, 1) := by decide +kernel
theorem d7_10 : decode jdk_42_method_54_code 10 = .ok (.ireturn, 1) := by decide +kernel
theorem d8_0 : decode jdk_42_method_152_code 0 = .ok (.getstatic 38, 3) := by decide +kernel
theorem d8_3 : decode jdk_42_method_152_code 3 = .ok (.ifCond .eq 10, 3) := by decide +kernel
theorem d8_6 : decode jdk_42_method_152_code 6 = .ok (.aload_n 0, 1) := by decide +kernel
theorem d8_7 : decode jdk_42_method_152_code 7 = .ok (.getfield 15, 3) := by decide +kernel
theorem d8_10 : decode jdk_42_method_152_code 10 = .ok (.goto 4, 3) := by decide +kernel
theorem d8_14 : decode jdk_42_method_152_code 14 = .ok (.ireturn, 1) := by decide +kernel
theorem d9_0 : decode jdk_42_method_92_code 0 = .ok (.aload_n 0, 1) := by decide +kernel
theorem d9_1 : decode jdk_42_method_92_code 1 = .ok (.invokevirtual 505, 3) := by decide +kernel
theorem d9_4 : decode jdk_42_method_92_code 4 = .ok (.istore_n 3, 1) := by decide +kernel
theorem d9_5 : decode jdk_42_method_92_code 5 = .ok (.iload_n 1, 1) := by decide +kernel
theorem d9_6 : decode jdk_42_method_92_code 6 = .ok (.iload_n 2, 1) := by decide +kernel
theorem d9_7 : decode jdk_42_method_92_code 7 = .ok (.iload_n 3, 1) := by decide +kernel
theorem d9_8 : decode jdk_42_method_92_code 8 = .ok (.invokestatic 521, 3) := by decide +kernel
theorem d9_11 : decode jdk_42_method_92_code 11 = .ok (.iload_n 1, 1) := by decide +kernel
theorem d9_12 : decode jdk_42_method_92_code 12 = .ok (.ifCond .ne 10, 3) := by decide +kernel
theorem d9_15 : decode jdk_42_method_92_code 15 = .ok (.iload_n 2, 1) := by decide +kernel
theorem d9_16 : decode jdk_42_method_92_code 16 = .ok (.iload_n 3, 1) := by decide +kernel
theorem d9_17 : decode jdk_42_method_92_code 17 = .ok (.if_icmp .ne 5, 3) := by decide +kernel
theorem d9_20 : decode jdk_42_method_92_code 20 = .ok (.aload_n 0, 1) := by decide +kernel
theorem d9_21 : decode jdk_42_method_92_code 21 = .ok (.areturn, 1) := by decide +kernel
theorem d9_22 : decode jdk_42_method_92_code 22 = .ok (.iload_n 2, 1) := by decide +kernel
theorem d9_23 : decode jdk_42_method_92_code 23 = .ok (.iload_n 1, 1) := by decide +kernel
theorem d9_24 : decode jdk_42_method_92_code 24 = .ok (.isub, 1) := by decide +kernel
theorem d9_25 : decode jdk_42_method_92_code 25 = .ok (.istore 4, 2) := by decide +kernel
theorem d9_27 : decode jdk_42_method_92_code 27 = .ok (.aload_n 0, 1) := by decide +kernel
theorem d9_28 : decode jdk_42_method_92_code 28 = .ok (.invokevirtual 492, 3) := by decide +kernel
theorem d9_31 : decode jdk_42_method_92_code 31 = .ok (.ifCond .eq 16, 3) := by decide +kernel
theorem d9_34 : decode jdk_42_method_92_code 34 = .ok (.aload_n 0, 1) := by decide +kernel
theorem d9_35 : decode jdk_42_method_92_code 35 = .ok (.getfield 9, 3) := by decide +kernel
theorem d9_38 : decode jdk_42_method_92_code 38 = .ok (.iload_n 1, 1) := by decide +kernel
theorem d9_39 : decode jdk_42_method_92_code 39 = .ok (.iload 4, 2) := by decide +kernel
theorem d9_41 : decode jdk_42_method_92_code 41 = .ok (.invokestatic 685, 3) := by decide +kernel
theorem d9_44 : decode jdk_42_method_92_code 44 = .ok (.goto 13, 3) := by decide +kernel
theorem d9_47 : decode jdk_42_method_92_code 47 = .ok (.aload_n 0, 1) := by decide +kernel
theorem d9_48 : decode jdk_42_method_92_code 48 = .ok (.getfield 9, 3) := by decide +kernel
theorem d9_51 : decode jdk_42_method_92_code 51 = .ok (.iload_n 1, 1) := by decide +kernel
theorem d9_52 : decode jdk_42_method_92_code 52 = .ok (.iload 4, 2) := by decide +kernel
theorem d9_54 : decode jdk_42_method_92_code 54 = .ok (.invokestatic 689, 3) := by decide +kernel
theorem d9_57 : decode jdk_42_method_92_code 57 = .ok (.areturn, 1) := by decide +kernel
theorem d10_0 : decode jdk_42_method_158_code 0 = .ok (.iload_n 0, 1) := by decide +kernel
theorem d10_1 : decode jdk_42_method_158_code 1 = .ok (.iload_n 1, 1) := by decide +kernel
theorem d10_2 : decode jdk_42_method_158_code 2 = .ok (.iload_n 2, 1) := by decide +kernel
theorem d10_3 : decode jdk_42_method_158_code 3 = .ok (.getstatic 1053, 3) := by decide +kernel
theorem d10_6 : decode jdk_42_method_158_code 6 = .ok (.invokestatic 1062, 3) := by decide +kernel
theorem d10_9 : decode jdk_42_method_158_code 9 = .ok (.pop, 1) := by decide +kernel
theorem d10_10 : decode jdk_42_method_158_code 10 = .ok (.return_, 1) := by decide +kernel
theorem d11_0 : decode jdk_41_method_12_code 0 = .ok (.iload_n 0, 1) := by decide +kernel
theorem d11_1 : decode jdk_41_method_12_code 1 = .ok (.ifCond .lt 13, 3) := by decide +kernel
theorem d11_4 : decode jdk_41_method_12_code 4 = .ok (.iload_n 0, 1) := by decide +kernel
theorem d11_5 : decode jdk_41_method_12_code 5 = .ok (.iload_n 1, 1) := by decide +kernel
theorem d11_6 : decode jdk_41_method_12_code 6 = .ok (.if_icmp .gt 8, 3) := by decide +kernel
theorem d11_9 : decode jdk_41_method_12_code 9 = .ok (.iload_n 1, 1) := by decide +kernel
theorem d11_10 : decode jdk_41_method_12_code 10 = .ok (.iload_n 2, 1) := by decide +kernel
theorem d11_11 : decode jdk_41_method_12_code 11 = .ok (.if_icmp .le 11, 3) := by decide +kernel
theorem d11_22 : decode jdk_41_method_12_code 22 = .ok (.iload_n 0, 1) := by decide +kernel
theorem d11_23 : decode jdk_41_method_12_code 23 = .ok (.ireturn, 1) := by decide +kernel
theorem d12_0 : decode jdk_42_method_66_code 0 = .ok (.aload_n 0, 1) := by decide +kernel
theorem d12_1 : decode jdk_42_method_66_code 1 = .ok (.aload_n 1, 1) := by decide +kernel
theorem d12_2 : decode jdk_42_method_66_code 2 = .ok (.if_acmp .ne 5, 3) := by decide +kernel
theorem d12_5 : decode jdk_42_method_66_code 5 = .ok (.iconst 1, 1) := by decide +kernel
theorem d12_6 : decode jdk_42_method_66_code 6 = .ok (.ireturn, 1) := by decide +kernel
theorem d12_7 : decode jdk_42_method_66_code 7 = .ok (.aload_n 1, 1) := by decide +kernel
theorem d12_8 : decode jdk_42_method_66_code 8 = .ok (.instanceof 10, 3) := by decide +kernel
theorem d12_11 : decode jdk_42_method_66_code 11 = .ok (.ifCond .eq 43, 3) := by decide +kernel
theorem d12_14 : decode jdk_42_method_66_code 14 = .ok (.aload_n 1, 1) := by decide +kernel
theorem d12_15 : decode jdk_42_method_66_code 15 = .ok (.checkcast 10, 3) := by decide +kernel
theorem d12_18 : decode jdk_42_method_66_code 18 = .ok (.astore_n 2, 1) := by decide +kernel
theorem d12_19 : decode jdk_42_method_66_code 19 = .ok (.getstatic 38, 3) := by decide +kernel
theorem d12_22 : decode jdk_42_method_66_code 22 = .ok (.ifCond .eq 14, 3) := by decide +kernel
theorem d12_25 : decode jdk_42_method_66_code 25 = .ok (.aload_n 0, 1) := by decide +kernel
theorem d12_26 : decode jdk_42_method_66_code 26 = .ok (.getfield 15, 3) := by decide +kernel
theorem d12_29 : decode jdk_42_method_66_code 29 = .ok (.aload_n 2, 1) := by decide +kernel
theorem d12_30 : decode jdk_42_method_66_code 30 = .ok (.getfield 15, 3) := by decide +kernel
theorem d12_33 : decode jdk_42_method_66_code 33 = .ok (.if_icmp .ne 21, 3) := by decide +kernel
theorem d12_36 : decode jdk_42_method_66_code 36 = .ok (.aload_n 0, 1) := by decide +kernel
theorem d12_37 : decode jdk_42_method_66_code 37 = .ok (.getfield 9, 3) := by decide +kernel
theorem d12_40 : decode jdk_42_method_66_code 40 = .ok (.aload_n 2, 1) := by decide +kernel
theorem d12_41 : decode jdk_42_method_66_code 41 = .ok (.getfield 9, 3) := by decide +kernel
theorem d12_44 : decode jdk_42_method_66_code 44 = .ok (.invokestatic 541, 3) := by decide +kernel
theorem d12_47 : decode jdk_42_method_66_code 47 = .ok (.ifCond .eq 7, 3) := by decide +kernel
theorem d12_50 : decode jdk_42_method_66_code 50 = .ok (.iconst 1, 1) := by decide +kernel
theorem d12_51 : decode jdk_42_method_66_code 51 = .ok (.goto 4, 3) := by decide +kernel
theorem d12_54 : decode jdk_42_method_66_code 54 = .ok (.iconst 0, 1) := by decide +kernel
theorem d12_55 : decode jdk_42_method_66_code 55 = .ok (.ireturn, 1) := by decide +kernel
theorem d13_0 : decode jdk_43_method_13_code 0 = .ok (.aload_n 0, 1) := by decide +kernel
theorem d13_1 : decode jdk_43_method_13_code 1 = .ok (.arraylength, 1) := by decide +kernel
theorem d13_2 : decode jdk_43_method_13_code 2 = .ok (.aload_n 1, 1) := by decide +kernel
theorem d13_3 : decode jdk_43_method_13_code 3 = .ok (.arraylength, 1) := by decide +kernel
theorem d13_4 : decode jdk_43_method_13_code 4 = .ok (.if_icmp .ne 30, 3) := by decide +kernel
theorem d13_7 : decode jdk_43_method_13_code 7 = .ok (.iconst 0, 1) := by decide +kernel
theorem d13_8 : decode jdk_43_method_13_code 8 = .ok (.istore_n 2, 1) := by decide +kernel
theorem d13_9 : decode jdk_43_method_13_code 9 = .ok (.iload_n 2, 1) := by decide +kernel
theorem d13_10 : decode jdk_43_method_13_code 10 = .ok (.aload_n 0, 1) := by decide +kernel
theorem d13_11 : decode jdk_43_method_13_code 11 = .ok (.arraylength, 1) := by decide +kernel
theorem d13_12 : decode jdk_43_method_13_code 12 = .ok (.if_icmp .ge 20, 3) := by decide +kernel
theorem d13_15 : decode jdk_43_method_13_code 15 = .ok (.aload_n 0, 1) := by decide +kernel
theorem d13_16 : decode jdk_43_method_13_code 16 = .ok (.iload_n 2, 1) := by decide +kernel
theorem d13_17 : decode jdk_43_method_13_code 17 = .ok (.baload, 1) := by decide +kernel
theorem d13_18 : decode jdk_43_method_13_code 18 = .ok (.aload_n 1, 1) := by decide +kernel
theorem d13_19 : decode jdk_43_method_13_code 19 = .ok (.iload_n 2, 1) := by decide +kernel
theorem d13_20 : decode jdk_43_method_13_code 20 = .ok (.baload, 1) := by decide +kernel
theorem d13_21 : decode jdk_43_method_13_code 21 = .ok (.if_icmp .eq 5, 3) := by decide +kernel
theorem d13_24 : decode jdk_43_method_13_code 24 = .ok (.iconst 0, 1) := by decide +kernel
theorem d13_25 : decode jdk_43_method_13_code 25 = .ok (.ireturn, 1) := by decide +kernel
theorem d13_26 : decode jdk_43_method_13_code 26 = .ok (.iinc 2 1, 3) := by decide +kernel
theorem d13_29 : decode jdk_43_method_13_code 29 = .ok (.goto (-20), 3) := by decide +kernel
theorem d13_32 : decode jdk_43_method_13_code 32 = .ok (.iconst 1, 1) := by decide +kernel
theorem d13_33 : decode jdk_43_method_13_code 33 = .ok (.ireturn, 1) := by decide +kernel
theorem d13_34 : decode jdk_43_method_13_code 34 = .ok (.iconst 0, 1) := by decide +kernel
theorem d13_35 : decode jdk_43_method_13_code 35 = .ok (.ireturn, 1) := by decide +kernel
theorem d14_0 : decode method_5_code 0 = .ok (.iload_n 0, 1) := by decide +kernel
theorem d14_1 : decode method_5_code 1 = .ok (.iconst 3, 1) := by decide +kernel
theorem d14_2 : decode method_5_code 2 = .ok (.iand, 1) := by decide +kernel
theorem d14_3 : decode method_5_code 3 = .ok (.istore_n 1, 1) := by decide +kernel
theorem d14_4 : decode method_5_code 4 = .ok (.iload_n 0, 1) := by decide +kernel
theorem d14_5 : decode method_5_code 5 = .ok (.iconst 2, 1) := by decide +kernel
theorem d14_6 : decode method_5_code 6 = .ok (.iushr, 1) := by decide +kernel
theorem d14_7 : decode method_5_code 7 = .ok (.istore_n 2, 1) := by decide +kernel
theorem d14_8 : decode method_5_code 8 = .ok (.iload_n 1, 1) := by decide +kernel
theorem d14_9 : decode method_5_code 9 = .ok (.ifCond .ne 8, 3) := by decide +kernel
theorem d14_12 : decode method_5_code 12 = .ok (.iload_n 2, 1) := by decide +kernel
theorem d14_13 : decode method_5_code 13 = .ok (.bipush 127, 2) := by decide +kernel
theorem d14_15 : decode method_5_code 15 = .ok (.iand, 1) := by decide +kernel
theorem d14_16 : decode method_5_code 16 = .ok (.ireturn, 1) := by decide +kernel
theorem d14_17 : decode method_5_code 17 = .ok (.iload_n 1, 1) := by decide +kernel
theorem d14_18 : decode method_5_code 18 = .ok (.iconst 1, 1) := by decide +kernel
theorem d14_19 : decode method_5_code 19 = .ok (.if_icmp .ne 13, 3) := by decide +kernel
theorem d14_22 : decode method_5_code 22 = .ok (.sipush 128, 3) := by decide +kernel
theorem d14_25 : decode method_5_code 25 = .ok (.iload_n 2, 1) := by decide +kernel
theorem d14_26 : decode method_5_code 26 = .ok (.sipush 1920, 3) := by decide +kernel
theorem d14_29 : decode method_5_code 29 = .ok (.irem, 1) := by decide +kernel
theorem d14_30 : decode method_5_code 30 = .ok (.iadd, 1) := by decide +kernel
theorem d14_31 : decode method_5_code 31 = .ok (.ireturn, 1) := by decide +kernel
theorem d14_32 : decode method_5_code 32 = .ok (.iload_n 1, 1) := by decide +kernel
theorem d14_33 : decode method_5_code 33 = .ok (.iconst 2, 1) := by decide +kernel
theorem d14_34 : decode method_5_code 34 = .ok (.if_icmp .ne 26, 3) := by decide +kernel
theorem d14_37 : decode method_5_code 37 = .ok (.sipush 2048, 3) := by decide +kernel
theorem d14_40 : decode method_5_code 40 = .ok (.iload_n 2, 1) := by decide +kernel
theorem d14_41 : decode method_5_code 41 = .ok (.ldc 42, 2) := by decide +kernel
theorem d14_43 : decode method_5_code 43 = .ok (.irem, 1) := by decide +kernel
theorem d14_44 : decode method_5_code 44 = .ok (.iadd, 1) := by decide +kernel
theorem d14_45 : decode method_5_code 45 = .ok (.istore_n 3, 1) := by decide +kernel
theorem d14_46 : decode method_5_code 46 = .ok (.iload_n 3, 1) := by decide +kernel
theorem d14_47 : decode method_5_code 47 = .ok (.ldc 43, 2) := by decide +kernel
theorem d14_49 : decode method_5_code 49 = .ok (.if_icmp .lt 9, 3) := by decide +kernel
theorem d14_52 : decode method_5_code 52 = .ok (.iload_n 3, 1) := by decide +kernel
theorem d14_53 : decode method_5_code 53 = .ok (.sipush 2048, 3) := by decide +kernel
theorem d14_56 : decode method_5_code 56 = .ok (.iadd, 1) := by decide +kernel
theorem d14_57 : decode method_5_code 57 = .ok (.istore_n 3, 1) := by decide +kernel
theorem d14_58 : decode method_5_code 58 = .ok (.iload_n 3, 1) := by decide +kernel
theorem d14_59 : decode method_5_code 59 = .ok (.ireturn, 1) := by decide +kernel
theorem d14_60 : decode method_5_code 60 = .ok (.ldc 44, 2) := by decide +kernel
theorem d14_62 : decode method_5_code 62 = .ok (.iload_n 2, 1) := by decide +kernel
theorem d14_63 : decode method_5_code 63 = .ok (.ldc 45, 2) := by decide +kernel
theorem d14_65 : decode method_5_code 65 = .ok (.iand, 1) := by decide +kernel
theorem d14_66 : decode method_5_code 66 = .ok (.iadd, 1) := by decide +kernel
theorem d14_67 : decode method_5_code 67 = .ok (.ireturn, 1) := by decide +kernel
theorem d15_0 : decode method_6_code 0 = .ok (.iload_n 2, 1) := by decide +kernel
theorem d15_1 : decode method_6_code 1 = .ok (.ldc 44, 2) := by decide +kernel
theorem d15_3 : decode method_6_code 3 = .ok (.if_icmp .ge 12, 3) := by decide +kernel
theorem d15_6 : decode method_6_code 6 = .ok (.aload_n 0, 1) := by decide +kernel
theorem d15_7 : decode method_6_code 7 = .ok (.iload_n 1, 1) := by decide +kernel
theorem d15_8 : decode method_6_code 8 = .ok (.iload_n 2, 1) := by decide +kernel
theorem d15_9 : decode method_6_code 9 = .ok (.i2c, 1) := by decide +kernel
theorem d15_10 : decode method_6_code 10 = .ok (.castore, 1) := by decide +kernel
theorem d15_11 : decode method_6_code 11 = .ok (.iload_n 1, 1) := by decide +kernel
theorem d15_12 : decode method_6_code 12 = .ok (.iconst 1, 1) := by decide +kernel
theorem d15_13 : decode method_6_code 13 = .ok (.iadd, 1) := by decide +kernel
theorem d15_14 : decode method_6_code 14 = .ok (.ireturn, 1) := by decide +kernel
theorem d15_15 : decode method_6_code 15 = .ok (.iload_n 2, 1) := by decide +kernel
theorem d15_16 : decode method_6_code 16 = .ok (.ldc 44, 2) := by decide +kernel
theorem d15_18 : decode method_6_code 18 = .ok (.isub, 1) := by decide +kernel
theorem d15_19 : decode method_6_code 19 = .ok (.istore_n 3, 1) := by decide +kernel
theorem d15_20 : decode method_6_code 20 = .ok (.aload_n 0, 1) := by decide +kernel
theorem d15_21 : decode method_6_code 21 = .ok (.iload_n 1, 1) := by decide +kernel
theorem d15_22 : decode method_6_code 22 = .ok (.ldc 43, 2) := by decide +kernel
theorem d15_24 : decode method_6_code 24 = .ok (.iload_n 3, 1) := by decide +kernel
theorem d15_25 : decode method_6_code 25 = .ok (.bipush 10, 2) := by decide +kernel
theorem d15_27 : decode method_6_code 27 = .ok (.ishr, 1) := by decide +kernel
theorem d15_28 : decode method_6_code 28 = .ok (.iadd, 1) := by decide +kernel
theorem d15_29 : decode method_6_code 29 = .ok (.i2c, 1) := by decide +kernel
theorem d15_30 : decode method_6_code 30 = .ok (.castore, 1) := by decide +kernel
theorem d15_31 : decode method_6_code 31 = .ok (.aload_n 0, 1) := by decide +kernel
theorem d15_32 : decode method_6_code 32 = .ok (.iload_n 1, 1) := by decide +kernel
theorem d15_33 : decode method_6_code 33 = .ok (.iconst 1, 1) := by decide +kernel
theorem d15_34 : decode method_6_code 34 = .ok (.iadd, 1) := by decide +kernel
theorem d15_35 : decode method_6_code 35 = .ok (.ldc 46, 2) := by decide +kernel
theorem d15_37 : decode method_6_code 37 = .ok (.iload_n 3, 1) := by decide +kernel
theorem d15_38 : decode method_6_code 38 = .ok (.sipush 1023, 3) := by decide +kernel
theorem d15_41 : decode method_6_code 41 = .ok (.iand, 1) := by decide +kernel
theorem d15_42 : decode method_6_code 42 = .ok (.iadd, 1) := by decide +kernel
theorem d15_43 : decode method_6_code 43 = .ok (.i2c, 1) := by decide +kernel
theorem d15_44 : decode method_6_code 44 = .ok (.castore, 1) := by decide +kernel
theorem d15_45 : decode method_6_code 45 = .ok (.iload_n 1, 1) := by decide +kernel
theorem d15_46 : decode method_6_code 46 = .ok (.iconst 2, 1) := by decide +kernel
theorem d15_47 : decode method_6_code 47 = .ok (.iadd, 1) := by decide +kernel
theorem d15_48 : decode method_6_code 48 = .ok (.ireturn, 1) := by decide +kernel
theorem d16_0 : decode jdk_52_method_16_code 0 = .ok (.iload_n 2, 1) := by decide +kernel
theorem d16_1 : decode jdk_52_method_16_code 1 = .ok (.newarray .byte, 2) := by decide +kernel
theorem d16_3 : decode jdk_52_method_16_code 3 = .ok (.astore_n 3, 1) := by decide +kernel
theorem d16_4 : decode jdk_52_method_16_code 4 = .ok (.aload_n 0, 1) := by decide +kernel
theorem d16_5 : decode jdk_52_method_16_code 5 = .ok (.iload_n 1, 1) := by decide +kernel
theorem d16_6 : decode jdk_52_method_16_code 6 = .ok (.aload_n 3, 1) := by decide +kernel
theorem d16_7 : decode jdk_52_method_16_code 7 = .ok (.iconst 0, 1) := by decide +kernel
theorem d16_8 : decode jdk_52_method_16_code 8 = .ok (.iload_n 2, 1) := by decide +kernel
theorem d16_9 : decode jdk_52_method_16_code 9 = .ok (.invokestatic 115, 3) := by decide +kernel
theorem d16_12 : decode jdk_52_method_16_code 12 = .ok (.istore 4, 2) := by decide +kernel
theorem d16_14 : decode jdk_52_method_16_code 14 = .ok (.iload 4, 2) := by decide +kernel
theorem d16_16 : decode jdk_52_method_16_code 16 = .ok (.iload_n 2, 1) := by decide +kernel
theorem d16_17 : decode jdk_52_method_16_code 17 = .ok (.if_icmp .eq 40, 3) := by decide +kernel
theorem d16_20 : decode jdk_52_method_16_code 20 = .ok (.aload_n 0, 1) := by decide +kernel
theorem d16_21 : decode jdk_52_method_16_code 21 = .ok (.iload_n 1, 1) := by decide +kernel
theorem d16_22 : decode jdk_52_method_16_code 22 = .ok (.iload_n 2, 1) := by decide +kernel
theorem d16_23 : decode jdk_52_method_16_code 23 = .ok (.invokestatic 119, 3) := by decide +kernel
theorem d16_26 : decode jdk_52_method_16_code 26 = .ok (.astore 5, 2) := by decide +kernel
theorem d16_28 : decode jdk_52_method_16_code 28 = .ok (.aload 5, 2) := by decide +kernel
theorem d16_30 : decode jdk_52_method_16_code 30 = .ok (.iload 4, 2) := by decide +kernel
theorem d16_32 : decode jdk_52_method_16_code 32 = .ok (.invokestatic 71, 3) := by decide +kernel
theorem d16_35 : decode jdk_52_method_16_code 35 = .ok (.sipush 255, 3) := by decide +kernel
theorem d16_38 : decode jdk_52_method_16_code 38 = .ok (.if_icmp .gt 16, 3) := by decide +kernel
theorem d16_54 : decode jdk_52_method_16_code 54 = .ok (.aload 5, 2) := by decide +kernel
theorem d16_56 : decode jdk_52_method_16_code 56 = .ok (.areturn, 1) := by decide +kernel
theorem d16_57 : decode jdk_52_method_16_code 57 = .ok (.aload_n 3, 1) := by decide +kernel
theorem d16_58 : decode jdk_52_method_16_code 58 = .ok (.areturn, 1) := by decide +kernel
theorem d17_0 : decode jdk_52_method_21_code 0 = .ok (.iconst 0, 1) := by decide +kernel
theorem d17_1 : decode jdk_52_method_21_code 1 = .ok (.istore 5, 2) := by decide +kernel
theorem d17_3 : decode jdk_52_method_21_code 3 = .ok (.iload 5, 2) := by decide +kernel
theorem d17_5 : decode jdk_52_method_21_code 5 = .ok (.iload 4, 2) := by decide +kernel
theorem d17_7 : decode jdk_52_method_21_code 7 = .ok (.if_icmp .ge 37, 3) := by decide +kernel
theorem d17_10 : decode jdk_52_method_21_code 10 = .ok (.aload_n 0, 1) := by decide +kernel
theorem d17_11 : decode jdk_52_method_21_code 11 = .ok (.iload_n 1, 1) := by decide +kernel
theorem d17_12 : decode jdk_52_method_21_code 12 = .ok (.caload, 1) := by decide +kernel
theorem d17_13 : decode jdk_52_method_21_code 13 = .ok (.istore 6, 2) := by decide +kernel
theorem d17_15 : decode jdk_52_method_21_code 15 = .ok (.iload 6, 2) := by decide +kernel
theorem d17_17 : decode jdk_52_method_21_code 17 = .ok (.sipush 255, 3) := by decide +kernel
theorem d17_20 : decode jdk_52_method_21_code 20 = .ok (.if_icmp .le 6, 3) := by decide +kernel
theorem d17_23 : decode jdk_52_method_21_code 23 = .ok (.iload 5, 2) := by decide +kernel
theorem d17_25 : decode jdk_52_method_21_code 25 = .ok (.ireturn, 1) := by decide +kernel
theorem d17_26 : decode jdk_52_method_21_code 26 = .ok (.aload_n 2, 1) := by decide +kernel
theorem d17_27 : decode jdk_52_method_21_code 27 = .ok (.iload_n 3, 1) := by decide +kernel
theorem d17_28 : decode jdk_52_method_21_code 28 = .ok (.iload 6, 2) := by decide +kernel
theorem d17_30 : decode jdk_52_method_21_code 30 = .ok (.i2b, 1) := by decide +kernel
theorem d17_31 : decode jdk_52_method_21_code 31 = .ok (.bastore, 1) := by decide +kernel
theorem d17_32 : decode jdk_52_method_21_code 32 = .ok (.iinc 1 1, 3) := by decide +kernel
theorem d17_35 : decode jdk_52_method_21_code 35 = .ok (.iinc 3 1, 3) := by decide +kernel
theorem d17_38 : decode jdk_52_method_21_code 38 = .ok (.iinc 5 1, 3) := by decide +kernel
theorem d17_41 : decode jdk_52_method_21_code 41 = .ok (.goto (-38), 3) := by decide +kernel
theorem d17_44 : decode jdk_52_method_21_code 44 = .ok (.iload 4, 2) := by decide +kernel
theorem d17_46 : decode jdk_52_method_21_code 46 = .ok (.ireturn, 1) := by decide +kernel
theorem d18_0 : decode jdk_52_method_14_code 0 = .ok (.iload_n 2, 1) := by decide +kernel
theorem d18_1 : decode jdk_52_method_14_code 1 = .ok (.invokestatic 107, 3) := by decide +kernel
theorem d18_4 : decode jdk_52_method_14_code 4 = .ok (.astore_n 3, 1) := by decide +kernel
theorem d18_5 : decode jdk_52_method_14_code 5 = .ok (.iconst 0, 1) := by decide +kernel
theorem d18_6 : decode jdk_52_method_14_code 6 = .ok (.istore 4, 2) := by decide +kernel
theorem d18_8 : decode jdk_52_method_14_code 8 = .ok (.iload 4, 2) := by decide +kernel
theorem d18_10 : decode jdk_52_method_14_code 10 = .ok (.iload_n 2, 1) := by decide +kernel
theorem d18_11 : decode jdk_52_method_14_code 11 = .ok (.if_icmp .ge 21, 3) := by decide +kernel
theorem d18_14 : decode jdk_52_method_14_code 14 = .ok (.aload_n 3, 1) := by decide +kernel
theorem d18_15 : decode jdk_52_method_14_code 15 = .ok (.iload 4, 2) := by decide +kernel
theorem d18_17 : decode jdk_52_method_14_code 17 = .ok (.aload_n 0, 1) := by decide +kernel
theorem d18_18 : decode jdk_52_method_14_code 18 = .ok (.iload_n 1, 1) := by decide +kernel
theorem d18_19 : decode jdk_52_method_14_code 19 = .ok (.caload, 1) := by decide +kernel
theorem d18_20 : decode jdk_52_method_14_code 20 = .ok (.invokestatic 111, 3) := by decide +kernel
theorem d18_23 : decode jdk_52_method_14_code 23 = .ok (.iinc 1 1, 3) := by decide +kernel
theorem d18_26 : decode jdk_52_method_14_code 26 = .ok (.iinc 4 1, 3) := by decide +kernel
theorem d18_29 : decode jdk_52_method_14_code 29 = .ok (.goto (-21), 3) := by decide +kernel
theorem d18_32 : decode jdk_52_method_14_code 32 = .ok (.aload_n 3, 1) := by decide +kernel
theorem d18_33 : decode jdk_52_method_14_code 33 = .ok (.areturn, 1) := by decide +kernel
theorem d19_0 : decode jdk_52_method_2_code 0 = .ok (.iload_n 0, 1) := by decide +kernel
theorem d19_1 : decode jdk_52_method_2_code 1 = .ok (.invokestatic 11, 3) := by decide +kernel
theorem d19_4 : decode jdk_52_method_2_code 4 = .ok (.newarray .byte, 2) := by decide +kernel
theorem d19_6 : decode jdk_52_method_2_code 6 = .ok (.areturn, 1) := by decide +kernel
theorem d20_0 : decode jdk_52_method_3_code 0 = .ok (.iload_n 0, 1) := by decide +kernel
theorem d20_1 : decode jdk_52_method_3_code 1 = .ok (.ifCond .ge 11, 3) := by decide +kernel
theorem d20_12 : decode jdk_52_method_3_code 12 = .ok (.iload_n 0, 1) := by decide +kernel
theorem d20_13 : decode jdk_52_method_3_code 13 = .ok (.ldc 20, 2) := by decide +kernel
theorem d20_15 : decode jdk_52_method_3_code 15 = .ok (.if_icmp .lt 40, 3) := by decide +kernel
theorem d20_55 : decode jdk_52_method_3_code 55 = .ok (.iload_n 0, 1) := by decide +kernel
theorem d20_56 : decode jdk_52_method_3_code 56 = .ok (.iconst 1, 1) := by decide +kernel
theorem d20_57 : decode jdk_52_method_3_code 57 = .ok (.ishl, 1) := by decide +kernel
theorem d20_58 : decode jdk_52_method_3_code 58 = .ok (.ireturn, 1) := by decide +kernel
theorem d21_0 : decode jdk_52_method_4_code 0 = .ok (.getstatic 44, 3) := by decide +kernel
theorem d21_3 : decode jdk_52_method_4_code 3 = .ok (.ifCond .ne 25, 3) := by decide +kernel
theorem d21_28 : decode jdk_52_method_4_code 28 = .ok (.iload_n 1, 1) := by decide +kernel
theorem d21_29 : decode jdk_52_method_4_code 29 = .ok (.iconst 1, 1) := by decide +kernel
theorem d21_30 : decode jdk_52_method_4_code 30 = .ok (.ishl, 1) := by decide +kernel
theorem d21_31 : decode jdk_52_method_4_code 31 = .ok (.istore_n 1, 1) := by decide +kernel
theorem d21_32 : decode jdk_52_method_4_code 32 = .ok (.aload_n 0, 1) := by decide +kernel
theorem d21_33 : decode jdk_52_method_4_code 33 = .ok (.iload_n 1, 1) := by decide +kernel
theorem d21_34 : decode jdk_52_method_4_code 34 = .ok (.iinc 1 1, 3) := by decide +kernel
theorem d21_37 : decode jdk_52_method_4_code 37 = .ok (.iload_n 2, 1) := by decide +kernel
theorem d21_38 : decode jdk_52_method_4_code 38 = .ok (.getstatic 59, 3) := by decide +kernel
theorem d21_41 : decode jdk_52_method_4_code 41 = .ok (.ishr, 1) := by decide +kernel
theorem d21_42 : decode jdk_52_method_4_code 42 = .ok (.i2b, 1) := by decide +kernel
theorem d21_43 : decode jdk_52_method_4_code 43 = .ok (.bastore, 1) := by decide +kernel
theorem d21_44 : decode jdk_52_method_4_code 44 = .ok (.aload_n 0, 1) := by decide +kernel
theorem d21_45 : decode jdk_52_method_4_code 45 = .ok (.iload_n 1, 1) := by decide +kernel
theorem d21_46 : decode jdk_52_method_4_code 46 = .ok (.iload_n 2, 1) := by decide +kernel
theorem d21_47 : decode jdk_52_method_4_code 47 = .ok (.getstatic 63, 3) := by decide +kernel
theorem d21_50 : decode jdk_52_method_4_code 50 = .ok (.ishr, 1) := by decide +kernel
theorem d21_51 : decode jdk_52_method_4_code 51 = .ok (.i2b, 1) := by decide +kernel
theorem d21_52 : decode jdk_52_method_4_code 52 = .ok (.bastore, 1) := by decide +kernel
theorem d21_53 : decode jdk_52_method_4_code 53 = .ok (.return_, 1) := by decide +kernel
theorem d22_0 : decode jdk_52_method_5_code 0 = .ok (.getstatic 44, 3) := by decide +kernel
theorem d22_3 : decode jdk_52_method_5_code 3 = .ok (.ifCond .ne 25, 3) := by decide +kernel
theorem d22_28 : decode jdk_52_method_5_code 28 = .ok (.iload_n 1, 1) := by decide +kernel
theorem d22_29 : decode jdk_52_method_5_code 29 = .ok (.iconst 1, 1) := by decide +kernel
theorem d22_30 : decode jdk_52_method_5_code 30 = .ok (.ishl, 1) := by decide +kernel
theorem d22_31 : decode jdk_52_method_5_code 31 = .ok (.istore_n 1, 1) := by decide +kernel
theorem d22_32 : decode jdk_52_method_5_code 32 = .ok (.aload_n 0, 1) := by decide +kernel
theorem d22_33 : decode jdk_52_method_5_code 33 = .ok (.iload_n 1, 1) := by decide +kernel
theorem d22_34 : decode jdk_52_method_5_code 34 = .ok (.iinc 1 1, 3) := by decide +kernel
theorem d22_37 : decode jdk_52_method_5_code 37 = .ok (.baload, 1) := by decide +kernel
theorem d22_38 : decode jdk_52_method_5_code 38 = .ok (.sipush 255, 3) := by decide +kernel
theorem d22_41 : decode jdk_52_method_5_code 41 = .ok (.iand, 1) := by decide +kernel
theorem d22_42 : decode jdk_52_method_5_code 42 = .ok (.getstatic 59, 3) := by decide +kernel
theorem d22_45 : decode jdk_52_method_5_code 45 = .ok (.ishl, 1) := by decide +kernel
theorem d22_46 : decode jdk_52_method_5_code 46 = .ok (.aload_n 0, 1) := by decide +kernel
theorem d22_47 : decode jdk_52_method_5_code 47 = .ok (.iload_n 1, 1) := by decide +kernel
theorem d22_48 : decode jdk_52_method_5_code 48 = .ok (.baload, 1) := by decide +kernel
theorem d22_49 : decode jdk_52_method_5_code 49 = .ok (.sipush 255, 3) := by decide +kernel
theorem d22_52 : decode jdk_52_method_5_code 52 = .ok (.iand, 1) := by decide +kernel
theorem d22_53 : decode jdk_52_method_5_code 53 = .ok (.getstatic 63, 3) := by decide +kernel
theorem d22_56 : decode jdk_52_method_5_code 56 = .ok (.ishl, 1) := by decide +kernel
theorem d22_57 : decode jdk_52_method_5_code 57 = .ok (.ior, 1) := by decide +kernel
theorem d22_58 : decode jdk_52_method_5_code 58 = .ok (.i2c, 1) := by decide +kernel
theorem d22_59 : decode jdk_52_method_5_code 59 = .ok (.ireturn, 1) := by decide +kernel
theorem d23_0 : decode jdk_52_method_15_code 0 = .ok (.iload_n 1, 1) := by decide +kernel
theorem d23_1 : decode jdk_52_method_15_code 1 = .ok (.aload_n 0, 1) := by decide +kernel
theorem d23_2 : decode jdk_52_method_15_code 2 = .ok (.arraylength, 1) := by decide +kernel
theorem d23_3 : decode jdk_52_method_15_code 3 = .ok (.isub, 1) := by decide +kernel
theorem d23_4 : decode jdk_52_method_15_code 4 = .ok (.bipush 31, 2) := by decide +kernel
theorem d23_6 : decode jdk_52_method_15_code 6 = .ok (.iushr, 1) := by decide +kernel
theorem d23_7 : decode jdk_52_method_15_code 7 = .ok (.i2b, 1) := by decide +kernel
theorem d23_8 : decode jdk_52_method_15_code 8 = .ok (.ireturn, 1) := by decide +kernel
theorem d24_0 : decode method_4_code 0 = .ok (.iload_n 0, 1) := by decide +kernel
theorem d24_1 : decode method_4_code 1 = .ok (.iconst 3, 1) := by decide +kernel
theorem d24_2 : decode method_4_code 2 = .ok (.iand, 1) := by decide +kernel
theorem d24_3 : decode method_4_code 3 = .ok (.iconst 3, 1) := by decide +kernel
theorem d24_4 : decode method_4_code 4 = .ok (.if_icmp .ne 5, 3) := by decide +kernel
theorem d24_7 : decode method_4_code 7 = .ok (.iconst 2, 1) := by decide +kernel
theorem d24_8 : decode method_4_code 8 = .ok (.ireturn, 1) := by decide +kernel
theorem d24_9 : decode method_4_code 9 = .ok (.iconst 1, 1) := by decide +kernel
theorem d24_10 : decode method_4_code 10 = .ok (.ireturn, 1) := by decide +kernel
theorem d25_0 : decode jdk_42_method_57_code 0 = .ok (.aload_n 0, 1) := by decide +kernel
theorem d25_1 : decode jdk_42_method_57_code 1 = .ok (.invokevirtual 492, 3) := by decide +kernel
theorem d25_4 : decode jdk_42_method_57_code 4 = .ok (.ifCond .eq 23, 3) := by decide +kernel
theorem d25_7 : decode jdk_42_method_57_code 7 = .ok (.iload_n 1, 1) := by decide +kernel
theorem d25_8 : decode jdk_42_method_57_code 8 = .ok (.aload_n 0, 1) := by decide +kernel
theorem d25_9 : decode jdk_42_method_57_code 9 = .ok (.getfield 9, 3) := by decide +kernel
theorem d25_12 : decode jdk_42_method_57_code 12 = .ok (.arraylength, 1) := by decide +kernel
theorem d25_13 : decode jdk_42_method_57_code 13 = .ok (.invokestatic 499, 3) := by decide +kernel
theorem d25_16 : decode jdk_42_method_57_code 16 = .ok (.aload_n 0, 1) := by decide +kernel
theorem d25_17 : decode jdk_42_method_57_code 17 = .ok (.getfield 9, 3) := by decide +kernel
theorem d25_20 : decode jdk_42_method_57_code 20 = .ok (.iload_n 1, 1) := by decide +kernel
theorem d25_21 : decode jdk_42_method_57_code 21 = .ok (.baload, 1) := by decide +kernel
theorem d25_22 : decode jdk_42_method_57_code 22 = .ok (.sipush 255, 3) := by decide +kernel
theorem d25_25 : decode jdk_42_method_57_code 25 = .ok (.iand, 1) := by decide +kernel
theorem d25_26 : decode jdk_42_method_57_code 26 = .ok (.ireturn, 1) := by decide +kernel
theorem d25_27 : decode jdk_42_method_57_code 27 = .ok (.aload_n 0, 1) := by decide +kernel
theorem d25_28 : decode jdk_42_method_57_code 28 = .ok (.getfield 9, 3) := by decide +kernel
theorem d25_31 : decode jdk_42_method_57_code 31 = .ok (.arraylength, 1) := by decide +kernel
theorem d25_32 : decode jdk_42_method_57_code 32 = .ok (.iconst 1, 1) := by decide +kernel
theorem d25_33 : decode jdk_42_method_57_code 33 = .ok (.ishr, 1) := by decide +kernel
theorem d25_34 : decode jdk_42_method_57_code 34 = .ok (.istore_n 2, 1) := by decide +kernel
theorem d25_35 : decode jdk_42_method_57_code 35 = .ok (.iload_n 1, 1) := by decide +kernel
theorem d25_36 : decode jdk_42_method_57_code 36 = .ok (.iload_n 2, 1) := by decide +kernel
theorem d25_37 : decode jdk_42_method_57_code 37 = .ok (.invokestatic 499, 3) := by decide +kernel
theorem d25_40 : decode jdk_42_method_57_code 40 = .ok (.aload_n 0, 1) := by decide +kernel
theorem d25_41 : decode jdk_42_method_57_code 41 = .ok (.getfield 9, 3) := by decide +kernel
theorem d25_44 : decode jdk_42_method_57_code 44 = .ok (.iload_n 1, 1) := by decide +kernel
theorem d25_45 : decode jdk_42_method_57_code 45 = .ok (.iload_n 2, 1) := by decide +kernel
theorem d25_46 : decode jdk_42_method_57_code 46 = .ok (.invokestatic 502, 3) := by decide +kernel
theorem d25_49 : decode jdk_42_method_57_code 49 = .ok (.ireturn, 1) := by decide +kernel
theorem d26_0 : decode jdk_42_method_154_code 0 = .ok (.getstatic 38, 3) := by decide +kernel
theorem d26_3 : decode jdk_42_method_154_code 3 = .ok (.ifCond .eq 14, 3) := by decide +kernel
theorem d26_6 : decode jdk_42_method_154_code 6 = .ok (.aload_n 0, 1) := by decide +kernel
theorem d26_7 : decode jdk_42_method_154_code 7 = .ok (.getfield 15, 3) := by decide +kernel
theorem d26_10 : decode jdk_42_method_154_code 10 = .ok (.ifCond .ne 7, 3) := by decide +kernel
theorem d26_13 : decode jdk_42_method_154_code 13 = .ok (.iconst 1, 1) := by decide +kernel
theorem d26_14 : decode jdk_42_method_154_code 14 = .ok (.goto 4, 3) := by decide +kernel
theorem d26_17 : decode jdk_42_method_154_code 17 = .ok (.iconst 0, 1) := by decide +kernel
theorem d26_18 : decode jdk_42_method_154_code 18 = .ok (.ireturn, 1) := by decide +kernel
theorem d27_0 : decode jdk_42_method_155_code 0 = .ok (.iload_n 0, 1) := by decide +kernel
theorem d27_1 : decode jdk_42_method_155_code 1 = .ok (.iload_n 1, 1) := by decide +kernel
theorem d27_2 : decode jdk_42_method_155_code 2 = .ok (.getstatic 1053, 3) := by decide +kernel
theorem d27_5 : decode jdk_42_method_155_code 5 = .ok (.invokestatic 1059, 3) := by decide +kernel
theorem d27_8 : decode jdk_42_method_155_code 8 = .ok (.pop, 1) := by decide +kernel
theorem d27_9 : decode jdk_42_method_155_code 9 = .ok (.return_, 1) := by decide +kernel
theorem d28_0 : decode jdk_41_method_11_code 0 = .ok (.iload_n 0, 1) := by decide +kernel
theorem d28_1 : decode jdk_41_method_11_code 1 = .ok (.ifCond .lt 8, 3) := by decide +kernel
theorem d28_4 : decode jdk_41_method_11_code 4 = .ok (.iload_n 0, 1) := by decide +kernel
theorem d28_5 : decode jdk_41_method_11_code 5 = .ok (.iload_n 1, 1) := by decide +kernel
theorem d28_6 : decode jdk_41_method_11_code 6 = .ok (.if_icmp .lt 10, 3) := by decide +kernel
theorem d28_16 : decode jdk_41_method_11_code 16 = .ok (.iload_n 0, 1) := by decide +kernel
theorem d28_17 : decode jdk_41_method_11_code 17 = .ok (.ireturn, 1) := by decide +kernel
theorem d29_0 : decode jdk_52_method_8_code 0 = .ok (.aload_n 0, 1) := by decide +kernel
theorem d29_1 : decode jdk_52_method_8_code 1 = .ok (.iload_n 1, 1) := by decide +kernel
theorem d29_2 : decode jdk_52_method_8_code 2 = .ok (.iload_n 2, 1) := by decide +kernel
theorem d29_3 : decode jdk_52_method_8_code 3 = .ok (.iconst 0, 1) := by decide +kernel
theorem d29_4 : decode jdk_52_method_8_code 4 = .ok (.invokestatic 88, 3) := by decide +kernel
theorem d29_7 : decode jdk_52_method_8_code 7 = .ok (.ireturn, 1) := by decide +kernel
theorem d30_0 : decode jdk_52_method_7_code 0 = .ok (.getstatic 44, 3) := by decide +kernel
theorem d30_3 : decode jdk_52_method_7_code 3 = .ok (.ifCond .ne 16, 3) := by decide +kernel
theorem d30_19 : decode jdk_52_method_7_code 19 = .ok (.iload_n 3, 1) := by decide +kernel
theorem d30_20 : decode jdk_52_method_7_code 20 = .ok (.ifCond .eq 8, 3) := by decide +kernel
theorem d30_28 : decode jdk_52_method_7_code 28 = .ok (.aload_n 0, 1) := by decide +kernel
theorem d30_29 : decode jdk_52_method_7_code 29 = .ok (.iload_n 1, 1) := by decide +kernel
theorem d30_30 : decode jdk_52_method_7_code 30 = .ok (.invokestatic 71, 3) := by decide +kernel
theorem d30_33 : decode jdk_52_method_7_code 33 = .ok (.istore 4, 2) := by decide +kernel
theorem d30_35 : decode jdk_52_method_7_code 35 = .ok (.iload 4, 2) := by decide +kernel
theorem d30_37 : decode jdk_52_method_7_code 37 = .ok (.invokestatic 75, 3) := by decide +kernel
theorem d30_40 : decode jdk_52_method_7_code 40 = .ok (.ifCond .eq 43, 3) := by decide +kernel
theorem d30_43 : decode jdk_52_method_7_code 43 = .ok (.iinc 1 1, 3) := by decide +kernel
theorem d30_46 : decode jdk_52_method_7_code 46 = .ok (.iload_n 1, 1) := by decide +kernel
theorem d30_47 : decode jdk_52_method_7_code 47 = .ok (.iload_n 2, 1) := by decide +kernel
theorem d30_48 : decode jdk_52_method_7_code 48 = .ok (.if_icmp .ge 35, 3) := by decide +kernel
theorem d30_51 : decode jdk_52_method_7_code 51 = .ok (.iload_n 3, 1) := by decide +kernel
theorem d30_52 : decode jdk_52_method_7_code 52 = .ok (.ifCond .eq 8, 3) := by decide +kernel
theorem d30_60 : decode jdk_52_method_7_code 60 = .ok (.aload_n 0, 1) := by decide +kernel
theorem d30_61 : decode jdk_52_method_7_code 61 = .ok (.iload_n 1, 1) := by decide +kernel
theorem d30_62 : decode jdk_52_method_7_code 62 = .ok (.invokestatic 71, 3) := by decide +kernel
theorem d30_65 : decode jdk_52_method_7_code 65 = .ok (.istore 5, 2) := by decide +kernel
theorem d30_67 : decode jdk_52_method_7_code 67 = .ok (.iload 5, 2) := by decide +kernel
theorem d30_69 : decode jdk_52_method_7_code 69 = .ok (.invokestatic 81, 3) := by decide +kernel
theorem d30_72 : decode jdk_52_method_7_code 72 = .ok (.ifCond .eq 11, 3) := by decide +kernel
theorem d30_75 : decode jdk_52_method_7_code 75 = .ok (.iload 4, 2) := by decide +kernel
theorem d30_77 : decode jdk_52_method_7_code 77 = .ok (.iload 5, 2) := by decide +kernel
theorem d30_79 : decode jdk_52_method_7_code 79 = .ok (.invokestatic 84, 3) := by decide +kernel
theorem d30_82 : decode jdk_52_method_7_code 82 = .ok (.ireturn, 1) := by decide +kernel
theorem d30_83 : decode jdk_52_method_7_code 83 = .ok (.iload 4, 2) := by decide +kernel
theorem d30_85 : decode jdk_52_method_7_code 85 = .ok (.ireturn, 1) := by decide +kernel
theorem d31_0 : decode jdk_89_method_14_code 0 = .ok (.iload_n 0, 1) := by decide +kernel
theorem d31_1 : decode jdk_89_method_14_code 1 = .ok (.ldc 75, 2) := by decide +kernel
theorem d31_3 : decode jdk_89_method_14_code 3 = .ok (.if_icmp .lt 13, 3) := by decide +kernel
theorem d31_6 : decode jdk_89_method_14_code 6 = .ok (.iload_n 0, 1) := by decide +kernel
theorem d31_7 : decode jdk_89_method_14_code 7 = .ok (.ldc 76, 2) := by decide +kernel
theorem d31_9 : decode jdk_89_method_14_code 9 = .ok (.if_icmp .ge 7, 3) := by decide +kernel
theorem d31_12 : decode jdk_89_method_14_code 12 = .ok (.iconst 1, 1) := by decide +kernel
theorem d31_13 : decode jdk_89_method_14_code 13 = .ok (.goto 4, 3) := by decide +kernel
theorem d31_16 : decode jdk_89_method_14_code 16 = .ok (.iconst 0, 1) := by decide +kernel
theorem d31_17 : decode jdk_89_method_14_code 17 = .ok (.ireturn, 1) := by decide +kernel
theorem d32_0 : decode prog_13_method_6_code 0 = .ok (.iload_n 0, 1) := by decide +kernel
theorem d32_1 : decode prog_13_method_6_code 1 = .ok (.sipush 128, 3) := by decide +kernel
theorem d32_4 : decode prog_13_method_6_code 4 = .ok (.if_icmp .ge 8, 3) := by decide +kernel
theorem d32_7 : decode prog_13_method_6_code 7 = .ok (.iconst 1, 1) := by decide +kernel
theorem d32_8 : decode prog_13_method_6_code 8 = .ok (.istore_n 1, 1) := by decide +kernel
theorem d32_9 : decode prog_13_method_6_code 9 = .ok (.goto 28, 3) := by decide +kernel
theorem d32_12 : decode prog_13_method_6_code 12 = .ok (.iload_n 0, 1) := by decide +kernel
theorem d32_13 : decode prog_13_method_6_code 13 = .ok (.sipush 2048, 3) := by decide +kernel
theorem d32_16 : decode prog_13_method_6_code 16 = .ok (.if_icmp .ge 8, 3) := by decide +kernel
theorem d32_19 : decode prog_13_method_6_code 19 = .ok (.iconst 2, 1) := by decide +kernel
theorem d32_20 : decode prog_13_method_6_code 20 = .ok (.istore_n 1, 1) := by decide +kernel
theorem d32_21 : decode prog_13_method_6_code 21 = .ok (.goto 16, 3) := by decide +kernel
theorem d32_24 : decode prog_13_method_6_code 24 = .ok (.iload_n 0, 1) := by decide +kernel
theorem d32_25 : decode prog_13_method_6_code 25 = .ok (.ldc 38, 2) := by decide +kernel
theorem d32_27 : decode prog_13_method_6_code 27 = .ok (.if_icmp .ge 8, 3) := by decide +kernel
theorem d32_30 : decode prog_13_method_6_code 30 = .ok (.iconst 3, 1) := by decide +kernel
theorem d32_31 : decode prog_13_method_6_code 31 = .ok (.istore_n 1, 1) := by decide +kernel
theorem d32_32 : decode prog_13_method_6_code 32 = .ok (.goto 5, 3) := by decide +kernel
theorem d32_35 : decode prog_13_method_6_code 35 = .ok (.iconst 4, 1) := by decide +kernel
theorem d32_36 : decode prog_13_method_6_code 36 = .ok (.istore_n 1, 1) := by decide +kernel
theorem d32_37 : decode prog_13_method_6_code 37 = .ok (.iload_n 1, 1) := by decide +kernel
theorem d32_38 : decode prog_13_method_6_code 38 = .ok (.ireturn, 1) := by decide +kernel
theorem d33_0 : decode jdk_89_method_18_code 0 = .ok (.iload_n 0, 1) := by decide +kernel
theorem d33_1 : decode jdk_89_method_18_code 1 = .ok (.ldc 73, 2) := by decide +kernel
theorem d33_3 : decode jdk_89_method_18_code 3 = .ok (.if_icmp .lt 7, 3) := by decide +kernel
theorem d33_6 : decode jdk_89_method_18_code 6 = .ok (.iconst 2, 1) := by decide +kernel
theorem d33_7 : decode jdk_89_method_18_code 7 = .ok (.goto 4, 3) := by decide +kernel
theorem d33_10 : decode jdk_89_method_18_code 10 = .ok (.iconst 1, 1) := by decide +kernel
theorem d33_11 : decode jdk_89_method_18_code 11 = .ok (.ireturn, 1) := by decide +kernel
theorem d34_0 : decode jdk_89_method_15_code 0 = .ok (.iload_n 0, 1) := by decide +kernel
theorem d34_1 : decode jdk_89_method_15_code 1 = .ok (.ldc 76, 2) := by decide +kernel
theorem d34_3 : decode jdk_89_method_15_code 3 = .ok (.if_icmp .lt 13, 3) := by decide +kernel
theorem d34_6 : decode jdk_89_method_15_code 6 = .ok (.iload_n 0, 1) := by decide +kernel
theorem d34_7 : decode jdk_89_method_15_code 7 = .ok (.ldc 77, 2) := by decide +kernel
theorem d34_9 : decode jdk_89_method_15_code 9 = .ok (.if_icmp .ge 7, 3) := by decide +kernel
theorem d34_12 : decode jdk_89_method_15_code 12 = .ok (.iconst 1, 1) := by decide +kernel
theorem d34_13 : decode jdk_89_method_15_code 13 = .ok (.goto 4, 3) := by decide +kernel
theorem d34_16 : decode jdk_89_method_15_code 16 = .ok (.iconst 0, 1) := by decide +kernel
theorem d34_17 : decode jdk_89_method_15_code 17 = .ok (.ireturn, 1) := by decide +kernel
theorem d35_0 : decode jdk_89_method_19_code 0 = .ok (.iload_n 0, 1) := by decide +kernel
theorem d35_1 : decode jdk_89_method_19_code 1 = .ok (.bipush 10, 2) := by decide +kernel
theorem d35_3 : decode jdk_89_method_19_code 3 = .ok (.ishl, 1) := by decide +kernel
theorem d35_4 : decode jdk_89_method_19_code 4 = .ok (.iload_n 1, 1) := by decide +kernel
theorem d35_5 : decode jdk_89_method_19_code 5 = .ok (.iadd, 1) := by decide +kernel
theorem d35_6 : decode jdk_89_method_19_code 6 = .ok (.ldc 85, 2) := by decide +kernel
theorem d35_8 : decode jdk_89_method_19_code 8 = .ok (.iadd, 1) := by decide +kernel
theorem d35_9 : decode jdk_89_method_19_code 9 = .ok (.ireturn, 1) := by decide +kernel
theorem d36_0 : decode jdk_52_method_69_code 0 = .ok (.iload_n 2, 1) := by decide +kernel
theorem d36_1 : decode jdk_52_method_69_code 1 = .ok (.ifCond .ne 7, 3) := by decide +kernel
theorem d36_4 : decode jdk_52_method_69_code 4 = .ok (.ldc_w 295, 3) := by decide +kernel
theorem d36_7 : decode jdk_52_method_69_code 7 = .ok (.areturn, 1) := by decide +kernel
theorem d36_8 : decode jdk_52_method_69_code 8 = .ok (.getstatic 251, 3) := by decide +kernel
theorem d36_11 : decode jdk_52_method_69_code 11 = .ok (.ifCond .eq 28, 3) := by decide +kernel
theorem d36_14 : decode jdk_52_method_69_code 14 = .ok (.aload_n 0, 1) := by decide +kernel
theorem d36_15 : decode jdk_52_method_69_code 15 = .ok (.iload_n 1, 1) := by decide +kernel
theorem d36_16 : decode jdk_52_method_69_code 16 = .ok (.iload_n 2, 1) := by decide +kernel
theorem d36_17 : decode jdk_52_method_69_code 17 = .ok (.invokestatic 257, 3) := by decide +kernel
theorem d36_20 : decode jdk_52_method_69_code 20 = .ok (.astore_n 3, 1) := by decide +kernel
theorem d36_21 : decode jdk_52_method_69_code 21 = .ok (.aload_n 3, 1) := by decide +kernel
theorem d36_22 : decode jdk_52_method_69_code 22 = .ok (.iload_n 2, 1) := by decide +kernel
theorem d36_23 : decode jdk_52_method_69_code 23 = .ok (.invokestatic 259, 3) := by decide +kernel
theorem d36_26 : decode jdk_52_method_69_code 26 = .ok (.istore 4, 2) := by decide +kernel
theorem d36_28 : decode jdk_52_method_69_code 28 = .ok (.new 3, 3) := by decide +kernel
theorem d36_31 : decode jdk_52_method_69_code 31 = .ok (.dup, 1) := by decide +kernel
theorem d36_32 : decode jdk_52_method_69_code 32 = .ok (.aload_n 3, 1) := by decide +kernel
theorem d36_33 : decode jdk_52_method_69_code 33 = .ok (.iload 4, 2) := by decide +kernel
theorem d36_35 : decode jdk_52_method_69_code 35 = .ok (.invokespecial 263, 3) := by decide +kernel
theorem d36_38 : decode jdk_52_method_69_code 38 = .ok (.areturn, 1) := by decide +kernel
theorem d37_0 : decode jdk_52_method_17_code 0 = .ok (.iload_n 2, 1) := by decide +kernel
theorem d37_1 : decode jdk_52_method_17_code 1 = .ok (.newarray .byte, 2) := by decide +kernel
theorem d37_3 : decode jdk_52_method_17_code 3 = .ok (.astore_n 3, 1) := by decide +kernel
theorem d37_4 : decode jdk_52_method_17_code 4 = .ok (.aload_n 0, 1) := by decide +kernel
theorem d37_5 : decode jdk_52_method_17_code 5 = .ok (.iload_n 1, 1) := by decide +kernel
theorem d37_6 : decode jdk_52_method_17_code 6 = .ok (.aload_n 3, 1) := by decide +kernel
theorem d37_7 : decode jdk_52_method_17_code 7 = .ok (.iconst 0, 1) := by decide +kernel
theorem d37_8 : decode jdk_52_method_17_code 8 = .ok (.iload_n 2, 1) := by decide +kernel
theorem d37_9 : decode jdk_52_method_17_code 9 = .ok (.invokestatic 123, 3) := by decide +kernel
theorem d37_12 : decode jdk_52_method_17_code 12 = .ok (.istore 4, 2) := by decide +kernel
theorem d37_14 : decode jdk_52_method_17_code 14 = .ok (.iload 4, 2) := by decide +kernel
theorem d37_16 : decode jdk_52_method_17_code 16 = .ok (.iload_n 2, 1) := by decide +kernel
theorem d37_17 : decode jdk_52_method_17_code 17 = .ok (.if_icmp .eq 47, 3) := by decide +kernel
theorem d37_20 : decode jdk_52_method_17_code 20 = .ok (.aload_n 0, 1) := by decide +kernel
theorem d37_21 : decode jdk_52_method_17_code 21 = .ok (.iload_n 1, 1) := by decide +kernel
theorem d37_22 : decode jdk_52_method_17_code 22 = .ok (.iconst 1, 1) := by decide +kernel
theorem d37_23 : decode jdk_52_method_17_code 23 = .ok (.ishl, 1) := by decide +kernel
theorem d37_24 : decode jdk_52_method_17_code 24 = .ok (.iload_n 1, 1) := by decide +kernel
theorem d37_25 : decode jdk_52_method_17_code 25 = .ok (.iload_n 2, 1) := by decide +kernel
theorem d37_26 : decode jdk_52_method_17_code 26 = .ok (.iadd, 1) := by decide +kernel
theorem d37_27 : decode jdk_52_method_17_code 27 = .ok (.invokestatic 11, 3) := by decide +kernel
theorem d37_30 : decode jdk_52_method_17_code 30 = .ok (.invokestatic 126, 3) := by decide +kernel
theorem d37_33 : decode jdk_52_method_17_code 33 = .ok (.astore 5, 2) := by decide +kernel
theorem d37_35 : decode jdk_52_method_17_code 35 = .ok (.aload 5, 2) := by decide +kernel
theorem d37_37 : decode jdk_52_method_17_code 37 = .ok (.iload 4, 2) := by decide +kernel
theorem d37_39 : decode jdk_52_method_17_code 39 = .ok (.invokestatic 71, 3) := by decide +kernel
theorem d37_42 : decode jdk_52_method_17_code 42 = .ok (.sipush 255, 3) := by decide +kernel
theorem d37_45 : decode jdk_52_method_17_code 45 = .ok (.if_icmp .gt 16, 3) := by decide +kernel
theorem d37_61 : decode jdk_52_method_17_code 61 = .ok (.aload 5, 2) := by decide +kernel
theorem d37_63 : decode jdk_52_method_17_code 63 = .ok (.areturn, 1) := by decide +kernel
theorem d37_64 : decode jdk_52_method_17_code 64 = .ok (.aload_n 3, 1) := by decide +kernel
theorem d37_65 : decode jdk_52_method_17_code 65 = .ok (.areturn, 1) := by decide +kernel
theorem d38_0 : decode jdk_52_method_22_code 0 = .ok (.iload_n 1, 1) := by decide +kernel
theorem d38_1 : decode jdk_52_method_22_code 1 = .ok (.iload 4, 2) := by decide +kernel
theorem d38_3 : decode jdk_52_method_22_code 3 = .ok (.aload_n 0, 1) := by decide +kernel
theorem d38_4 : decode jdk_52_method_22_code 4 = .ok (.invokestatic 173, 3) := by decide +kernel
theorem d38_7 : decode jdk_52_method_22_code 7 = .ok (.iconst 0, 1) := by decide +kernel
theorem d38_8 : decode jdk_52_method_22_code 8 = .ok (.istore 5, 2) := by decide +kernel
theorem d38_10 : decode jdk_52_method_22_code 10 = .ok (.iload 5, 2) := by decide +kernel
theorem d38_12 : decode jdk_52_method_22_code 12 = .ok (.iload 4, 2) := by decide +kernel
theorem d38_14 : decode jdk_52_method_22_code 14 = .ok (.if_icmp .ge 39, 3) := by decide +kernel
theorem d38_17 : decode jdk_52_method_22_code 17 = .ok (.aload_n 0, 1) := by decide +kernel
theorem d38_18 : decode jdk_52_method_22_code 18 = .ok (.iload_n 1, 1) := by decide +kernel
theorem d38_19 : decode jdk_52_method_22_code 19 = .ok (.invokestatic 71, 3) := by decide +kernel
theorem d38_22 : decode jdk_52_method_22_code 22 = .ok (.istore 6, 2) := by decide +kernel
theorem d38_24 : decode jdk_52_method_22_code 24 = .ok (.iload 6, 2) := by decide +kernel
theorem d38_26 : decode jdk_52_method_22_code 26 = .ok (.sipush 255, 3) := by decide +kernel
theorem d38_29 : decode jdk_52_method_22_code 29 = .ok (.if_icmp .le 6, 3) := by decide +kernel
theorem d38_32 : decode jdk_52_method_22_code 32 = .ok (.iload 5, 2) := by decide +kernel
theorem d38_34 : decode jdk_52_method_22_code 34 = .ok (.ireturn, 1) := by decide +kernel
theorem d38_35 : decode jdk_52_method_22_code 35 = .ok (.aload_n 2, 1) := by decide +kernel
theorem d38_36 : decode jdk_52_method_22_code 36 = .ok (.iload_n 3, 1) := by decide +kernel
theorem d38_37 : decode jdk_52_method_22_code 37 = .ok (.iload 6, 2) := by decide +kernel
theorem d38_39 : decode jdk_52_method_22_code 39 = .ok (.i2b, 1) := by decide +kernel
theorem d38_40 : decode jdk_52_method_22_code 40 = .ok (.bastore, 1) := by decide +kernel
theorem d38_41 : decode jdk_52_method_22_code 41 = .ok (.iinc 1 1, 3) := by decide +kernel
theorem d38_44 : decode jdk_52_method_22_code 44 = .ok (.iinc 3 1, 3) := by decide +kernel
theorem d38_47 : decode jdk_52_method_22_code 47 = .ok (.iinc 5 1, 3) := by decide +kernel
theorem d38_50 : decode jdk_52_method_22_code 50 = .ok (.goto (-40), 3) := by decide +kernel
theorem d38_53 : decode jdk_52_method_22_code 53 = .ok (.iload 4, 2) := by decide +kernel
theorem d38_55 : decode jdk_52_method_22_code 55 = .ok (.ireturn, 1) := by decide +kernel
theorem d39_0 : decode jdk_52_method_94_code 0 = .ok (.iload_n 0, 1) := by decide +kernel
theorem d39_1 : decode jdk_52_method_94_code 1 = .ok (.iload_n 1, 1) := by decide +kernel
theorem d39_2 : decode jdk_52_method_94_code 2 = .ok (.aload_n 2, 1) := by decide +kernel
theorem d39_3 : decode jdk_52_method_94_code 3 = .ok (.invokestatic 48, 3) := by decide +kernel
theorem d39_6 : decode jdk_52_method_94_code 6 = .ok (.invokestatic 419, 3) := by decide +kernel
theorem d39_9 : decode jdk_52_method_94_code 9 = .ok (.pop, 1) := by decide +kernel
theorem d39_10 : decode jdk_52_method_94_code 10 = .ok (.return_, 1) := by decide +kernel
theorem d40_0 : decode jdk_52_method_6_code 0 = .ok (.aload_n 0, 1) := by decide +kernel
theorem d40_1 : decode jdk_52_method_6_code 1 = .ok (.arraylength, 1) := by decide +kernel
theorem d40_2 : decode jdk_52_method_6_code 2 = .ok (.iconst 1, 1) := by decide +kernel
theorem d40_3 : decode jdk_52_method_6_code 3 = .ok (.ishr, 1) := by decide +kernel
theorem d40_4 : decode jdk_52_method_6_code 4 = .ok (.ireturn, 1) := by decide +kernel
theorem d41_0 : decode jdk_42_method_157_code 0 = .ok (.iload_n 0, 1) := by decide +kernel
theorem d41_1 : decode jdk_42_method_157_code 1 = .ok (.iload_n 1, 1) := by decide +kernel
theorem d41_2 : decode jdk_42_method_157_code 2 = .ok (.iload_n 2, 1) := by decide +kernel
theorem d41_3 : decode jdk_42_method_157_code 3 = .ok (.getstatic 1053, 3) := by decide +kernel
theorem d41_6 : decode jdk_42_method_157_code 6 = .ok (.invokestatic 1065, 3) := by decide +kernel
theorem d41_9 : decode jdk_42_method_157_code 9 = .ok (.ireturn, 1) := by decide +kernel
theorem d42_0 : decode jdk_41_method_13_code 0 = .ok (.iload_n 2, 1) := by decide +kernel
theorem d42_1 : decode jdk_41_method_13_code 1 = .ok (.iload_n 0, 1) := by decide +kernel
theorem d42_2 : decode jdk_41_method_13_code 2 = .ok (.ior, 1) := by decide +kernel
theorem d42_3 : decode jdk_41_method_13_code 3 = .ok (.iload_n 1, 1) := by decide +kernel
theorem d42_4 : decode jdk_41_method_13_code 4 = .ok (.ior, 1) := by decide +kernel
theorem d42_5 : decode jdk_41_method_13_code 5 = .ok (.ifCond .lt 10, 3) := by decide +kernel
theorem d42_8 : decode jdk_41_method_13_code 8 = .ok (.iload_n 1, 1) := by decide +kernel
theorem d42_9 : decode jdk_41_method_13_code 9 = .ok (.iload_n 2, 1) := by decide +kernel
theorem d42_10 : decode jdk_41_method_13_code 10 = .ok (.iload_n 0, 1) := by decide +kernel
theorem d42_11 : decode jdk_41_method_13_code 11 = .ok (.isub, 1) := by decide +kernel
theorem d42_12 : decode jdk_41_method_13_code 12 = .ok (.if_icmp .le 11, 3) := by decide +kernel
theorem d42_23 : decode jdk_41_method_13_code 23 = .ok (.iload_n 0, 1) := by decide +kernel
theorem d42_24 : decode jdk_41_method_13_code 24 = .ok (.ireturn, 1) := by decide +kernel
theorem d43_0 : decode jdk_65_method_132_code 0 = .ok (.iload_n 1, 1) := by decide +kernel
theorem d43_1 : decode jdk_65_method_132_code 1 = .ok (.ifCond .ne 9, 3) := by decide +kernel
theorem d43_4 : decode jdk_65_method_132_code 4 = .ok (.iload_n 2, 1) := by decide +kernel
theorem d43_5 : decode jdk_65_method_132_code 5 = .ok (.aload_n 0, 1) := by decide +kernel
theorem d43_6 : decode jdk_65_method_132_code 6 = .ok (.arraylength, 1) := by decide +kernel
theorem d43_7 : decode jdk_65_method_132_code 7 = .ok (.if_icmp .eq 10, 3) := by decide +kernel
theorem d43_10 : decode jdk_65_method_132_code 10 = .ok (.aload_n 0, 1) := by decide +kernel
theorem d43_11 : decode jdk_65_method_132_code 11 = .ok (.iload_n 1, 1) := by decide +kernel
theorem d43_12 : decode jdk_65_method_132_code 12 = .ok (.iload_n 2, 1) := by decide +kernel
theorem d43_13 : decode jdk_65_method_132_code 13 = .ok (.invokestatic 339, 3) := by decide +kernel
theorem d43_16 : decode jdk_65_method_132_code 16 = .ok (.areturn, 1) := by decide +kernel
theorem d44_0 : decode jdk_65_method_133_code 0 = .ok (.iload_n 1, 1) := by decide +kernel
theorem d44_1 : decode jdk_65_method_133_code 1 = .ok (.iload_n 2, 1) := by decide +kernel
theorem d44_2 : decode jdk_65_method_133_code 2 = .ok (.invokestatic 343, 3) := by decide +kernel
theorem d44_5 : decode jdk_65_method_133_code 5 = .ok (.iload_n 2, 1) := by decide +kernel
theorem d44_6 : decode jdk_65_method_133_code 6 = .ok (.iload_n 1, 1) := by decide +kernel
theorem d44_7 : decode jdk_65_method_133_code 7 = .ok (.isub, 1) := by decide +kernel
theorem d44_8 : decode jdk_65_method_133_code 8 = .ok (.istore_n 3, 1) := by decide +kernel
theorem d44_9 : decode jdk_65_method_133_code 9 = .ok (.iload_n 3, 1) := by decide +kernel
theorem d44_10 : decode jdk_65_method_133_code 10 = .ok (.newarray .byte, 2) := by decide +kernel
theorem d44_12 : decode jdk_65_method_133_code 12 = .ok (.astore 4, 2) := by decide +kernel
theorem d44_14 : decode jdk_65_method_133_code 14 = .ok (.aload_n 0, 1) := by decide +kernel
theorem d44_15 : decode jdk_65_method_133_code 15 = .ok (.iload_n 1, 1) := by decide +kernel
theorem d44_16 : decode jdk_65_method_133_code 16 = .ok (.aload 4, 2) := by decide +kernel
theorem d44_18 : decode jdk_65_method_133_code 18 = .ok (.iconst 0, 1) := by decide +kernel
theorem d44_19 : decode jdk_65_method_133_code 19 = .ok (.aload_n 0, 1) := by decide +kernel
theorem d44_20 : decode jdk_65_method_133_code 20 = .ok (.arraylength, 1) := by decide +kernel
theorem d44_21 : decode jdk_65_method_133_code 21 = .ok (.iload_n 1, 1) := by decide +kernel
theorem d44_22 : decode jdk_65_method_133_code 22 = .ok (.isub, 1) := by decide +kernel
theorem d44_23 : decode jdk_65_method_133_code 23 = .ok (.iload_n 3, 1) := by decide +kernel
theorem d44_24 : decode jdk_65_method_133_code 24 = .ok (.invokestatic 304, 3) := by decide +kernel
theorem d44_27 : decode jdk_65_method_133_code 27 = .ok (.invokestatic 150, 3) := by decide +kernel
theorem d44_30 : decode jdk_65_method_133_code 30 = .ok (.aload 4, 2) := by decide +kernel
theorem d44_32 : decode jdk_65_method_133_code 32 = .ok (.areturn, 1) := by decide +kernel
theorem d45_0 : decode jdk_65_method_131_code 0 = .ok (.iload_n 1, 1) := by decide +kernel
theorem d45_1 : decode jdk_65_method_131_code 1 = .ok (.iload_n 0, 1) := by decide +kernel
theorem d45_2 : decode jdk_65_method_131_code 2 = .ok (.if_icmp .ge 35, 3) := by decide +kernel
theorem d45_37 : decode jdk_65_method_131_code 37 = .ok (.return_, 1) := by decide +kernel
theorem d46_0 : decode jdk_29_method_69_code 0 = .ok (.iload_n 0, 1) := by decide +kernel
theorem d46_1 : decode jdk_29_method_69_code 1 = .ok (.iload_n 1, 1) := by decide +kernel
theorem d46_2 : decode jdk_29_method_69_code 2 = .ok (.if_icmp .gt 7, 3) := by decide +kernel
theorem d46_9 : decode jdk_29_method_69_code 9 = .ok (.iload_n 1, 1) := by decide +kernel
theorem d46_10 : decode jdk_29_method_69_code 10 = .ok (.ireturn, 1) := by decide +kernel
theorem d47_0 : decode jdk_42_method_151_code 0 = .ok (.aload_n 0, 1) := by decide +kernel
theorem d47_1 : decode jdk_42_method_151_code 1 = .ok (.invokespecial 1, 3) := by decide +kernel
theorem d47_4 : decode jdk_42_method_151_code 4 = .ok (.aload_n 0, 1) := by decide +kernel
theorem d47_5 : decode jdk_42_method_151_code 5 = .ok (.aload_n 1, 1) := by decide +kernel
theorem d47_6 : decode jdk_42_method_151_code 6 = .ok (.putfield 9, 3) := by decide +kernel
theorem d47_9 : decode jdk_42_method_151_code 9 = .ok (.aload_n 0, 1) := by decide +kernel
theorem d47_10 : decode jdk_42_method_151_code 10 = .ok (.iload_n 2, 1) := by decide +kernel
theorem d47_11 : decode jdk_42_method_151_code 11 = .ok (.putfield 15, 3) := by decide +kernel
theorem d47_14 : decode jdk_42_method_151_code 14 = .ok (.return_, 1) := by decide +kernel
theorem d48_0 : decode jdk_43_method_47_code 0 = .ok (.iload_n 2, 1) := by decide +kernel
theorem d48_1 : decode jdk_43_method_47_code 1 = .ok (.ifCond .ne 6, 3) := by decide +kernel
theorem d48_4 : decode jdk_43_method_47_code 4 = .ok (.ldc 151, 2) := by decide +kernel
theorem d48_6 : decode jdk_43_method_47_code 6 = .ok (.areturn, 1) := by decide +kernel
theorem d48_7 : decode jdk_43_method_47_code 7 = .ok (.new 1, 3) := by decide +kernel
theorem d48_10 : decode jdk_43_method_47_code 10 = .ok (.dup, 1) := by decide +kernel
theorem d48_11 : decode jdk_43_method_47_code 11 = .ok (.aload_n 0, 1) := by decide +kernel
theorem d48_12 : decode jdk_43_method_47_code 12 = .ok (.iload_n 1, 1) := by decide +kernel
theorem d48_13 : decode jdk_43_method_47_code 13 = .ok (.iload_n 1, 1) := by decide +kernel
theorem d48_14 : decode jdk_43_method_47_code 14 = .ok (.iload_n 2, 1) := by decide +kernel
theorem d48_15 : decode jdk_43_method_47_code 15 = .ok (.iadd, 1) := by decide +kernel
theorem d48_16 : decode jdk_43_method_47_code 16 = .ok (.invokestatic 232, 3) := by decide +kernel
theorem d48_19 : decode jdk_43_method_47_code 19 = .ok (.iconst 0, 1) := by decide +kernel
theorem d48_20 : decode jdk_43_method_47_code 20 = .ok (.invokespecial 112, 3) := by decide +kernel
theorem d48_23 : decode jdk_43_method_47_code 23 = .ok (.areturn, 1) := by decide +kernel
theorem pn_0 : plainName "java/lang/StringUTF16" = true := by first | (simp [plainName, overriddenIn]; done) | decide +kernel
theorem pn_1 : plainName "java/lang/String" = true := by first | (simp [plainName, overriddenIn]; done) | decide +kernel
theorem pn_2 : plainName "jdk/internal/util/Preconditions" = true := by first | (simp [plainName, overriddenIn]; done) | decide +kernel
theorem pn_3 : plainName "java/lang/Character" = true := by first | (simp [plainName, overriddenIn]; done) | decide +kernel
theorem pn_4 : plainName "com/example/lease/lease/core/Inputs" = true := by first | (simp [plainName, overriddenIn]; done) | decide +kernel
theorem pn_5 : plainName "java/util/Arrays" = true := by first | (simp [plainName, overriddenIn]; done) | decide +kernel
theorem pn_6 : plainName "java/lang/StringLatin1" = true := by first | (simp [plainName, overriddenIn]; done) | decide +kernel
theorem pn_7 : plainName "com/example/lease/lease/core/InputsLeadingPinLaw" = true := by first | (simp [plainName, overriddenIn]; done) | decide +kernel
theorem pd_0 : parseMethodDescriptor "(I)I" = some ⟨[.int], some .int⟩ := by decide +kernel
theorem pd_1 : parseMethodDescriptor "(I)[B" = some ⟨[.int], some (.array .byte)⟩ := by decide +kernel
theorem pd_2 : parseMethodDescriptor "([BII)V" = some ⟨[(.array .byte), .int, .int], none⟩ := by decide +kernel
theorem pd_3 : parseMethodDescriptor "([CI[BII)I" = some ⟨[(.array .char), .int, (.array .byte), .int, .int], some .int⟩ := by decide +kernel
theorem pd_4 : parseMethodDescriptor "([CII)[B" = some ⟨[(.array .char), .int, .int], some (.array .byte)⟩ := by decide +kernel
theorem pd_5 : parseMethodDescriptor "([BI)C" = some ⟨[(.array .byte), .int], some .char⟩ := by decide +kernel
theorem pd_6 : parseMethodDescriptor "([BI)B" = some ⟨[(.array .byte), .int], some .byte⟩ := by decide +kernel
theorem pd_7 : parseMethodDescriptor "([CIILjava/lang/Void;)V" = some ⟨[(.array .char), .int, .int, (.object "java/lang/Void")], none⟩ := by decide +kernel
theorem pd_8 : parseMethodDescriptor "()B" = some ⟨[], some .byte⟩ := by decide +kernel
theorem pd_9 : parseMethodDescriptor "(IILjava/util/function/BiFunction;)I" = some ⟨[.int, .int, (.object "java/util/function/BiFunction")], some .int⟩ := by decide +kernel
theorem pd_10 : parseMethodDescriptor "(IIILjava/util/function/BiFunction;)I" = some ⟨[.int, .int, .int, (.object "java/util/function/BiFunction")], some .int⟩ := by decide +kernel
theorem pd_11 : parseMethodDescriptor "([B)I" = some ⟨[(.array .byte)], some .int⟩ := by decide +kernel
theorem pd_12 : parseMethodDescriptor "(III)I" = some ⟨[.int, .int, .int], some .int⟩ := by decide +kernel
theorem pd_13 : parseMethodDescriptor "(C)Z" = some ⟨[.char], some .boolean⟩ := by decide +kernel
theorem pd_14 : parseMethodDescriptor "(CC)I" = some ⟨[.char, .char], some .int⟩ := by decide +kernel
theorem pd_15 : parseMethodDescriptor "([BIIZ)I" = some ⟨[(.array .byte), .int, .int, .boolean], some .int⟩ := by decide +kernel
theorem pd_16 : parseMethodDescriptor "()Z" = some ⟨[], some .boolean⟩ := by decide +kernel
theorem pd_17 : parseMethodDescriptor "(II)V" = some ⟨[.int, .int], none⟩ := by decide +kernel
theorem pd_18 : parseMethodDescriptor "([BII)I" = some ⟨[(.array .byte), .int, .int], some .int⟩ := by decide +kernel
theorem pd_19 : parseMethodDescriptor "(II)I" = some ⟨[.int, .int], some .int⟩ := by decide +kernel
theorem pd_20 : parseMethodDescriptor "([BII)[B" = some ⟨[(.array .byte), .int, .int], some (.array .byte)⟩ := by decide +kernel
theorem pd_21 : parseMethodDescriptor "(II[B)V" = some ⟨[.int, .int, (.array .byte)], none⟩ := by decide +kernel
theorem pd_22 : parseMethodDescriptor "([BI[BII)I" = some ⟨[(.array .byte), .int, (.array .byte), .int, .int], some .int⟩ := by decide +kernel
theorem pd_23 : parseMethodDescriptor "([BB)V" = some ⟨[(.array .byte), .byte], none⟩ := by decide +kernel
theorem pd_24 : parseMethodDescriptor "()I" = some ⟨[], some .int⟩ := by decide +kernel
theorem pd_25 : parseMethodDescriptor "(III)V" = some ⟨[.int, .int, .int], none⟩ := by decide +kernel
theorem pd_26 : parseMethodDescriptor "([BII)Ljava/lang/String;" = some ⟨[(.array .byte), .int, .int], some (.object "java/lang/String")⟩ := by decide +kernel
theorem pd_27 : parseMethodDescriptor "(II)Ljava/lang/String;" = some ⟨[.int, .int], some (.object "java/lang/String")⟩ := by decide +kernel
theorem pd_28 : parseMethodDescriptor "([B[B)Z" = some ⟨[(.array .byte), (.array .byte)], some .boolean⟩ := by decide +kernel
theorem pd_29 : parseMethodDescriptor "([CI)[C" = some ⟨[(.array .char), .int], some (.array .char)⟩ := by decide +kernel
theorem pd_30 : parseMethodDescriptor "([C)V" = some ⟨[(.array .char)], none⟩ := by decide +kernel
theorem pd_31 : parseMethodDescriptor "(Ljava/lang/String;I)Ljava/lang/String;" = some ⟨[(.object "java/lang/String"), .int], some (.object "java/lang/String")⟩ := by decide +kernel
theorem pd_32 : parseMethodDescriptor "(Ljava/lang/Object;)Z" = some ⟨[(.object "java/lang/Object")], some .boolean⟩ := by decide +kernel
theorem pd_33 : parseMethodDescriptor "([CII)I" = some ⟨[(.array .char), .int, .int], some .int⟩ := by decide +kernel
theorem ef_rmNL (m : MethodId) (x0 : Int32) : entryFrame m #[(.int x0)] 1 = mkF m 0 #[.val (.int x0)] [] := by first | (simp [entryFrame, mkF, argsToLocals, Value.category]; done) | rfl
theorem ef_rmNF (m : MethodId) (x0 : Int32) : entryFrame m #[(.int x0)] 1 = mkF m 0 #[.val (.int x0)] [] := by first | (simp [entryFrame, mkF, argsToLocals, Value.category]; done) | rfl
theorem ef_rmPU (m : MethodId) (x0 : Addr) (x1 : Int32) (x2 : Int32) : entryFrame m #[(.ref x0), (.int x1), (.int x2)] 3 = mkF m 0 #[.val (.ref x0), .val (.int x1), .val (.int x2)] [] := by first | (simp [entryFrame, mkF, argsToLocals, Value.category]; done) | rfl
theorem ef_rmG (m : MethodId) (x0 : Addr) (x1 : Int32) : entryFrame m #[(.ref x0), (.int x1)] 2 = mkF m 0 #[.val (.ref x0), .val (.int x1)] [] := by first | (simp [entryFrame, mkF, argsToLocals, Value.category]; done) | rfl
theorem ef_rmTB (m : MethodId) (x0 : Addr) (x1 : Int32) (x2 : Int32) : entryFrame m #[(.ref x0), (.int x1), (.int x2)] 5 = mkF m 0 #[.val (.ref x0), .val (.int x1), .val (.int x2), .unset, .unset] [] := by first | (simp [entryFrame, mkF, argsToLocals, Value.category]; done) | rfl
theorem ef_rmC2 (m : MethodId) (x0 : Addr) (x1 : Int32) (x2 : Addr) (x3 : Int32) (x4 : Int32) : entryFrame m #[(.ref x0), (.int x1), (.ref x2), (.int x3), (.int x4)] 7 = mkF m 0 #[.val (.ref x0), .val (.int x1), .val (.ref x2), .val (.int x3), .val (.int x4), .unset, .unset] [] := by first | (simp [entryFrame, mkF, argsToLocals, Value.category]; done) | rfl
theorem ef_rmC1 (m : MethodId) (x0 : Addr) (x1 : Int32) (x2 : Int32) : entryFrame m #[(.ref x0), (.int x1), (.int x2)] 6 = mkF m 0 #[.val (.ref x0), .val (.int x1), .val (.int x2), .unset, .unset, .unset] [] := by first | (simp [entryFrame, mkF, argsToLocals, Value.category]; done) | rfl
theorem ef_rmCo (m : MethodId) (x0 : Addr) (x1 : Int32) : entryFrame m #[(.ref x0), (.int x1)] 2 = mkF m 0 #[.val (.ref x0), .val (.int x1)] [] := by first | (simp [entryFrame, mkF, argsToLocals, Value.category]; done) | rfl
theorem ef_rmS4 (m : MethodId) (x0 : Addr) (x1 : Addr) (x2 : Int32) (x3 : Int32) : entryFrame m #[(.ref x0), (.ref x1), (.int x2), (.int x3), .null] 6 = mkF m 0 #[.val (.ref x0), .val (.ref x1), .val (.int x2), .val (.int x3), .val .null, .unset] [] := by first | (simp [entryFrame, mkF, argsToLocals, Value.category]; done) | rfl
theorem ef_rmS4_0 (m : MethodId) (x0 : Addr) (x1 : Addr) (x2 : Int32) (x3 : Int32) : entryFrame m #[(.ref x0), (.ref x1), (.int x2), (.int x3), .null] 6 = mkF m 0 #[.val (.ref x0), .val (.ref x1), .val (.int x2), .val (.int x3), .val .null, .unset] [] := by first | (simp [entryFrame, mkF, argsToLocals, Value.category]; done) | rfl
theorem ef_rmS1_0 (m : MethodId) (x0 : Addr) (x1 : Addr) : entryFrame m #[(.ref x0), (.ref x1)] 2 = mkF m 0 #[.val (.ref x0), .val (.ref x1)] [] := by first | (simp [entryFrame, mkF, argsToLocals, Value.category]; done) | rfl
theorem ef_rmS1 (m : MethodId) (x0 : Addr) (x1 : Addr) : entryFrame m #[(.ref x0), (.ref x1)] 2 = mkF m 0 #[.val (.ref x0), .val (.ref x1)] [] := by first | (simp [entryFrame, mkF, argsToLocals, Value.category]; done) | rfl
theorem ef_rmCd (m : MethodId) (x0 : Addr) : entryFrame m #[(.ref x0)] 1 = mkF m 0 #[.val (.ref x0)] [] := by first | (simp [entryFrame, mkF, argsToLocals, Value.category]; done) | rfl
theorem ef_rmLn (m : MethodId) (x0 : Addr) : entryFrame m #[(.ref x0)] 1 = mkF m 0 #[.val (.ref x0)] [] := by first | (simp [entryFrame, mkF, argsToLocals, Value.category]; done) | rfl
theorem ef_rmILL (m : MethodId) (x0 : Addr) : entryFrame m #[(.ref x0)] 1 = mkF m 0 #[.val (.ref x0)] [] := by first | (simp [entryFrame, mkF, argsToLocals, Value.category]; done) | rfl
theorem ef_rmILU (m : MethodId) (x0 : Addr) : entryFrame m #[(.ref x0)] 1 = mkF m 0 #[.val (.ref x0)] [] := by first | (simp [entryFrame, mkF, argsToLocals, Value.category]; done) | rfl
theorem ef_rmPX (m : MethodId) (x0 : Int32) (x1 : Int32) (x2 : Value) (hr2 : x2.isRef = true) : entryFrame m #[(.int x0), (.int x1), x2] 3 = mkF m 0 #[.val (.int x0), .val (.int x1), .val x2] [] := by
  rcases ref_cases hr2 with rfl | ⟨_, rfl⟩
  all_goals (first | (simp [entryFrame, mkF, argsToLocals, Value.category]; done) | rfl)
theorem ef_rmSX (m : MethodId) (x0 : Int32) (x1 : Int32) : entryFrame m #[(.int x0), (.int x1)] 2 = mkF m 0 #[.val (.int x0), .val (.int x1)] [] := by first | (simp [entryFrame, mkF, argsToLocals, Value.category]; done) | rfl
theorem ef_rmFT (m : MethodId) (x0 : Int32) (x1 : Int32) (x2 : Int32) (x3 : Value) (hr3 : x3.isRef = true) : entryFrame m #[(.int x0), (.int x1), (.int x2), x3] 4 = mkF m 0 #[.val (.int x0), .val (.int x1), .val (.int x2), .val x3] [] := by
  rcases ref_cases hr3 with rfl | ⟨_, rfl⟩
  all_goals (first | (simp [entryFrame, mkF, argsToLocals, Value.category]; done) | rfl)
theorem ef_rmBE (m : MethodId) (x0 : Int32) (x1 : Int32) (x2 : Int32) : entryFrame m #[(.int x0), (.int x1), (.int x2)] 3 = mkF m 0 #[.val (.int x0), .val (.int x1), .val (.int x2)] [] := by first | (simp [entryFrame, mkF, argsToLocals, Value.category]; done) | rfl
theorem ef_rmPO (m : MethodId) (x0 : Int32) (x1 : Int32) (x2 : Int32) (x3 : Value) (hr3 : x3.isRef = true) : entryFrame m #[(.int x0), (.int x1), (.int x2), x3] 4 = mkF m 0 #[.val (.int x0), .val (.int x1), .val (.int x2), .val x3] [] := by
  rcases ref_cases hr3 with rfl | ⟨_, rfl⟩
  all_goals (first | (simp [entryFrame, mkF, argsToLocals, Value.category]; done) | rfl)
theorem ef_rmBO (m : MethodId) (x0 : Int32) (x1 : Int32) (x2 : Int32) : entryFrame m #[(.int x0), (.int x1), (.int x2)] 3 = mkF m 0 #[.val (.int x0), .val (.int x1), .val (.int x2)] [] := by first | (simp [entryFrame, mkF, argsToLocals, Value.category]; done) | rfl
theorem ef_rmUL (m : MethodId) (x0 : Addr) : entryFrame m #[(.ref x0)] 1 = mkF m 0 #[.val (.ref x0)] [] := by first | (simp [entryFrame, mkF, argsToLocals, Value.category]; done) | rfl
theorem ef_rmUO (m : MethodId) (x0 : Int32) (x1 : Int32) (x2 : Addr) : entryFrame m #[(.int x0), (.int x1), (.ref x2)] 3 = mkF m 0 #[.val (.int x0), .val (.int x1), .val (.ref x2)] [] := by first | (simp [entryFrame, mkF, argsToLocals, Value.category]; done) | rfl
theorem ef_rmHS (m : MethodId) (x0 : Int32) : entryFrame m #[(.int x0)] 1 = mkF m 0 #[.val (.int x0)] [] := by first | (simp [entryFrame, mkF, argsToLocals, Value.category]; done) | rfl
theorem ef_rmLS (m : MethodId) (x0 : Int32) : entryFrame m #[(.int x0)] 1 = mkF m 0 #[.val (.int x0)] [] := by first | (simp [entryFrame, mkF, argsToLocals, Value.category]; done) | rfl
theorem ef_rmTC (m : MethodId) (x0 : Int32) (x1 : Int32) : entryFrame m #[(.int x0), (.int x1)] 2 = mkF m 0 #[.val (.int x0), .val (.int x1)] [] := by first | (simp [entryFrame, mkF, argsToLocals, Value.category]; done) | rfl
theorem ef_rmCC (m : MethodId) (x0 : Int32) : entryFrame m #[(.int x0)] 1 = mkF m 0 #[.val (.int x0)] [] := by first | (simp [entryFrame, mkF, argsToLocals, Value.category]; done) | rfl
theorem ef_rmUZ (m : MethodId) (x0 : Int32) : entryFrame m #[(.int x0)] 2 = mkF m 0 #[.val (.int x0), .unset] [] := by first | (simp [entryFrame, mkF, argsToLocals, Value.category]; done) | rfl
theorem ef_rmUQ (m : MethodId) (x0 : Addr) (x1 : Int32) (x2 : Int32) (x3 : Int32) : entryFrame m #[(.ref x0), (.int x1), (.int x2), (.int x3)] 6 = mkF m 0 #[.val (.ref x0), .val (.int x1), .val (.int x2), .val (.int x3), .unset, .unset] [] := by first | (simp [entryFrame, mkF, argsToLocals, Value.category]; done) | rfl
theorem ef_rmUP (m : MethodId) (x0 : Addr) (x1 : Int32) (x2 : Int32) : entryFrame m #[(.ref x0), (.int x1), (.int x2)] 3 = mkF m 0 #[.val (.ref x0), .val (.int x1), .val (.int x2)] [] := by first | (simp [entryFrame, mkF, argsToLocals, Value.category]; done) | rfl
theorem ef_rmCP (m : MethodId) (x0 : Addr) (x1 : Int32) : entryFrame m #[(.ref x0), (.int x1)] 3 = mkF m 0 #[.val (.ref x0), .val (.int x1), .unset] [] := by first | (simp [entryFrame, mkF, argsToLocals, Value.category]; done) | rfl
theorem ef_rmMN (m : MethodId) (x0 : Int32) (x1 : Int32) : entryFrame m #[(.int x0), (.int x1)] 2 = mkF m 0 #[.val (.int x0), .val (.int x1)] [] := by first | (simp [entryFrame, mkF, argsToLocals, Value.category]; done) | rfl
theorem ef_rmCL (m : MethodId) (x0 : Int32) (x1 : Int32) : entryFrame m #[(.int x0), (.int x1)] 2 = mkF m 0 #[.val (.int x0), .val (.int x1)] [] := by first | (simp [entryFrame, mkF, argsToLocals, Value.category]; done) | rfl
theorem ef_rmCB (m : MethodId) (x0 : Addr) (x1 : Int32) (x2 : Int32) : entryFrame m #[(.ref x0), (.int x1), (.int x2)] 5 = mkF m 0 #[.val (.ref x0), .val (.int x1), .val (.int x2), .unset, .unset] [] := by first | (simp [entryFrame, mkF, argsToLocals, Value.category]; done) | rfl
theorem ef_rmCR (m : MethodId) (x0 : Addr) (x1 : Int32) (x2 : Int32) : entryFrame m #[(.ref x0), (.int x1), (.int x2)] 3 = mkF m 0 #[.val (.ref x0), .val (.int x1), .val (.int x2)] [] := by first | (simp [entryFrame, mkF, argsToLocals, Value.category]; done) | rfl
theorem ef_rmC2b (m : MethodId) (x0 : Addr) (x1 : Int32) (x2 : Addr) (x3 : Int32) (x4 : Int32) : entryFrame m #[(.ref x0), (.int x1), (.ref x2), (.int x3), (.int x4)] 7 = mkF m 0 #[.val (.ref x0), .val (.int x1), .val (.ref x2), .val (.int x3), .val (.int x4), .unset, .unset] [] := by first | (simp [entryFrame, mkF, argsToLocals, Value.category]; done) | rfl
theorem ef_rmC1b (m : MethodId) (x0 : Addr) (x1 : Int32) (x2 : Int32) : entryFrame m #[(.ref x0), (.int x1), (.int x2)] 6 = mkF m 0 #[.val (.ref x0), .val (.int x1), .val (.int x2), .unset, .unset, .unset] [] := by first | (simp [entryFrame, mkF, argsToLocals, Value.category]; done) | rfl
theorem ef_rmIB (m : MethodId) (x0 : Addr) (x1 : Addr) (x2 : Int32) : entryFrame m #[(.ref x0), (.ref x1), (.int x2)] 3 = mkF m 0 #[.val (.ref x0), .val (.ref x1), .val (.int x2)] [] := by first | (simp [entryFrame, mkF, argsToLocals, Value.category]; done) | rfl
theorem ef_rmLNS (m : MethodId) (x0 : Addr) (x1 : Int32) (x2 : Int32) : entryFrame m #[(.ref x0), (.int x1), (.int x2)] 3 = mkF m 0 #[.val (.ref x0), .val (.int x1), .val (.int x2)] [] := by first | (simp [entryFrame, mkF, argsToLocals, Value.category]; done) | rfl
theorem ef_rmUNS (m : MethodId) (x0 : Addr) (x1 : Int32) (x2 : Int32) : entryFrame m #[(.ref x0), (.int x1), (.int x2)] 5 = mkF m 0 #[.val (.ref x0), .val (.int x1), .val (.int x2), .unset, .unset] [] := by first | (simp [entryFrame, mkF, argsToLocals, Value.category]; done) | rfl
theorem ef_rmSS (m : MethodId) (x0 : Addr) (x1 : Int32) (x2 : Int32) : entryFrame m #[(.ref x0), (.int x1), (.int x2)] 5 = mkF m 0 #[.val (.ref x0), .val (.int x1), .val (.int x2), .unset, .unset] [] := by first | (simp [entryFrame, mkF, argsToLocals, Value.category]; done) | rfl
theorem ef_rmLD (m : MethodId) (x0 : Addr) (x1 : Int32) : entryFrame m #[(.ref x0), (.int x1)] 6 = mkF m 0 #[.val (.ref x0), .val (.int x1), .unset, .unset, .unset, .unset] [] := by first | (simp [entryFrame, mkF, argsToLocals, Value.category]; done) | rfl
theorem ef_rmLE (m : MethodId) (x0 : Addr) (x1 : Addr) : entryFrame m #[(.ref x0), (.ref x1)] 3 = mkF m 0 #[.val (.ref x0), .val (.ref x1), .unset] [] := by first | (simp [entryFrame, mkF, argsToLocals, Value.category]; done) | rfl
theorem ef_rmEq (m : MethodId) (x0 : Addr) (x1 : Addr) : entryFrame m #[(.ref x0), (.ref x1)] 3 = mkF m 0 #[.val (.ref x0), .val (.ref x1), .unset] [] := by first | (simp [entryFrame, mkF, argsToLocals, Value.category]; done) | rfl
theorem ef_rmEQ (m : MethodId) (x0 : Addr) (x1 : Addr) : entryFrame m #[(.ref x0), (.ref x1)] 3 = mkF m 0 #[.val (.ref x0), .val (.ref x1), .unset] [] := by first | (simp [entryFrame, mkF, argsToLocals, Value.category]; done) | rfl
theorem ef_rmSZ (m : MethodId) (x0 : Int32) : entryFrame m #[(.int x0)] 1 = mkF m 0 #[.val (.int x0)] [] := by first | (simp [entryFrame, mkF, argsToLocals, Value.category]; done) | rfl
theorem ef_rmUN (m : MethodId) (x0 : Int32) : entryFrame m #[(.int x0)] 1 = mkF m 0 #[.val (.int x0)] [] := by first | (simp [entryFrame, mkF, argsToLocals, Value.category]; done) | rfl
theorem ef_rmPT (m : MethodId) (x0 : Int32) : entryFrame m #[(.int x0)] 4 = mkF m 0 #[.val (.int x0), .unset, .unset, .unset] [] := by first | (simp [entryFrame, mkF, argsToLocals, Value.category]; done) | rfl
theorem ef_rmPW (m : MethodId) (x0 : Addr) (x1 : Int32) (x2 : Int32) : entryFrame m #[(.ref x0), (.int x1), (.int x2)] 4 = mkF m 0 #[.val (.ref x0), .val (.int x1), .val (.int x2), .unset] [] := by first | (simp [entryFrame, mkF, argsToLocals, Value.category]; done) | rfl
theorem ef_rmEX0 (m : MethodId) (x0 : Addr) (x1 : Int32) : entryFrame m #[(.ref x0), (.int x1)] 3 = mkF m 0 #[.val (.ref x0), .val (.int x1), .unset] [] := by first | (simp [entryFrame, mkF, argsToLocals, Value.category]; done) | rfl
theorem ef_rmEX1 (m : MethodId) (x0 : Addr) (x1 : Int32) : entryFrame m #[(.ref x0), (.int x1)] 3 = mkF m 0 #[.val (.ref x0), .val (.int x1), .unset] [] := by first | (simp [entryFrame, mkF, argsToLocals, Value.category]; done) | rfl
theorem ef_rmEX2 (m : MethodId) (x0 : Addr) (x1 : Int32) : entryFrame m #[(.ref x0), (.int x1)] 3 = mkF m 0 #[.val (.ref x0), .val (.int x1), .unset] [] := by first | (simp [entryFrame, mkF, argsToLocals, Value.category]; done) | rfl
theorem ef_rmEX3 (m : MethodId) (x0 : Addr) (x1 : Int32) : entryFrame m #[(.ref x0), (.int x1)] 3 = mkF m 0 #[.val (.ref x0), .val (.int x1), .unset] [] := by first | (simp [entryFrame, mkF, argsToLocals, Value.category]; done) | rfl
theorem ef_rmEX4 (m : MethodId) (x0 : Addr) (x1 : Int32) : entryFrame m #[(.ref x0), (.int x1)] 3 = mkF m 0 #[.val (.ref x0), .val (.int x1), .unset] [] := by first | (simp [entryFrame, mkF, argsToLocals, Value.category]; done) | rfl
theorem ef_rmEX5 (m : MethodId) (x0 : Addr) (x1 : Int32) : entryFrame m #[(.ref x0), (.int x1)] 3 = mkF m 0 #[.val (.ref x0), .val (.int x1), .unset] [] := by first | (simp [entryFrame, mkF, argsToLocals, Value.category]; done) | rfl
theorem ef_rmEX6 (m : MethodId) (x0 : Addr) (x1 : Int32) : entryFrame m #[(.ref x0), (.int x1)] 3 = mkF m 0 #[.val (.ref x0), .val (.int x1), .unset] [] := by first | (simp [entryFrame, mkF, argsToLocals, Value.category]; done) | rfl
theorem ef_rm0 (m : MethodId) (x0 : Int32) (x1 : Int32) (x2 : Int32) (x3 : Int32) (x4 : Int32) : entryFrame m #[(.int x0), (.int x1), (.int x2), (.int x3), (.int x4)] maxLocals = mkF m 0 #[.val (.int x0), .val (.int x1), .val (.int x2), .val (.int x3), .val (.int x4), .unset, .unset, .unset, .unset, .unset, .unset, .unset, .unset, .unset, .unset] [] := by first | (simp [entryFrame, mkF, argsToLocals, Value.category, maxLocals]; done) | rfl
theorem own_i2c (x : Int32) (h0 : 0 ≤ x.toInt) (h1 : x.toInt ≤ 65535) : x.toUInt32.toUInt16.toUInt32.toInt32 = x := by
  have h := c_i2c x
  exact Int32.toInt_inj.mp (by omega)
theorem own_narc (x : Int32) : nar .char x = x.toUInt32.toUInt16.toUInt32.toInt32 := rfl
theorem own_c8 (x : Int32) : ((x &&& (255 : Int32)).toUInt32.toUInt16.toUInt32.toInt32) = (x &&& (255 : Int32)) := by
  have h := c_and x (255 : Int32) (by decide)
  have h2 : (255 : Int32).toInt = 255 := rfl
  exact own_i2c _ h.1 (by omega)
theorem own_n8 (x : Int32) : nar .char (x &&& (255 : Int32)) = (x &&& (255 : Int32)) := own_c8 x
theorem own_nc {x : Int32} (h0 : ¬ (x < (0 : Int32))) (h1 : ¬ ((255 : Int32) < x)) : nar .char x = x := by
  have a0 : (0 : Int32).toInt = 0 := rfl
  have a1 : (255 : Int32).toInt = 255 := rfl
  rw [Int32.lt_iff_toInt_lt] at h0 h1
  exact own_i2c x (by omega) (by omega)
theorem own_ic {x : Int32} (h0 : ¬ (x < (0 : Int32))) (h1 : ¬ ((255 : Int32) < x)) : x.toUInt32.toUInt16.toUInt32.toInt32 = x := own_nc h0 h1
theorem own_ch8 (x : Int32) : nar .char (((x &&& (255 : Int32)).toUInt32.toUInt16.toUInt32.toInt32)) = (x &&& (255 : Int32)) := by
  have h := c_and x (255 : Int32) (by decide)
  have h2 : (255 : Int32).toInt = 255 := rfl
  rw [own_narc, own_i2c _ h.1 (by omega), own_i2c _ h.1 (by omega)]
theorem own_le255 (x : Int32) : ¬ ((255 : Int32) < (x &&& (255 : Int32))) := by
  have h := c_and x (255 : Int32) (by decide)
  rw [Int32.lt_iff_toInt_lt]; omega
theorem own_ge0 (x : Int32) : ¬ ((x &&& (255 : Int32)) < (0 : Int32)) := by
  have h := c_and x (255 : Int32) (by decide)
  have h2 : (0 : Int32).toInt = 0 := rfl
  rw [Int32.lt_iff_toInt_lt]; omega
theorem own_ob {c d : Int32} (c0 : ¬ (c < (0 : Int32))) (c1 : ¬ ((255 : Int32) < c)) (d0 : ¬ (d < (0 : Int32))) (d1 : ¬ ((255 : Int32) < d)) (h : nar .byte (c.toInt8.toInt32) = nar .byte (d.toInt8.toInt32)) : c = d := by
  have a0 : (0 : Int32).toInt = 0 := rfl
  have a1 : (255 : Int32).toInt = 255 := rfl
  rw [Int32.lt_iff_toInt_lt] at c0 c1 d0 d1
  have e : ∀ x : Int32, (nar .byte (x.toInt8.toInt32)).toInt = x.toInt.bmod 256 := fun x => by
    show (x.toInt8.toInt32.toInt8.toInt32).toInt = _
    rw [Int8.toInt_toInt32, Int32.toInt_toInt8, Int8.toInt_toInt32, Int32.toInt_toInt8]
    simp
  have q : (nar .byte (c.toInt8.toInt32)).toInt = (nar .byte (d.toInt8.toInt32)).toInt := by rw [h]
  rw [e, e] at q
  simp only [Int.bmod] at q
  apply Int32.toInt_inj.mp
  split at q <;> split at q <;> omega
theorem own_ofNat {i n : Nat} {z : Int32} (hz : z.toNatClampNeg = n) (h : i < n) : (Int32.ofNat i) < z ∧ ¬ (Int32.ofNat i) < 0 ∧ (Int32.ofNat i).toNatClampNeg = i := by
  have h1 := Int32.toInt_lt z
  have h2 : z.toInt.toNat = n := hz
  have h3 : (Int32.ofNat i).toInt = i := Int32.toInt_ofNat_small (by omega)
  have a0 : (0 : Int32).toInt = 0 := rfl
  refine ⟨?_, ?_, ?_⟩
  · rw [Int32.lt_iff_toInt_lt, h3]; omega
  · rw [Int32.lt_iff_toInt_lt, h3]; omega
  · show (Int32.ofNat i).toInt.toNat = i
    rw [h3]; rfl
theorem own_ofNatG {i n : Nat} {z : Int32} (hz : z.toNatClampNeg = n) (hn : ¬ z < 0) (h : i = n) : ¬ (Int32.ofNat i) < z := by
  have h1 := Int32.toInt_lt z
  have h2 : z.toInt.toNat = n := hz
  have a0 : (0 : Int32).toInt = 0 := rfl
  rw [Int32.lt_iff_toInt_lt] at hn
  have h3 : (Int32.ofNat i).toInt = i := Int32.toInt_ofNat_small (by omega)
  rw [Int32.lt_iff_toInt_lt, h3]; omega
theorem own_zeq {z w : Int32} {n k : Nat} (hz : z.toNatClampNeg = n) (hw : w.toNatClampNeg = k) (h1 : ¬ z < 0) (h2 : ¬ w < 0) : z = w ↔ n = k := by
  have a0 : (0 : Int32).toInt = 0 := rfl
  have e1 : z.toInt.toNat = n := hz
  have e2 : w.toInt.toNat = k := hw
  rw [Int32.lt_iff_toInt_lt] at h1 h2
  constructor
  · rintro rfl; omega
  · intro h; exact Int32.toInt_inj.mp (by omega)
theorem own_getD (xs : List Int32) (i : Nat) : (xs.map Value.int).getD i (.int (0 : Int32)) = .int (xs.getD i 0) := by
  simp only [List.getD_eq_getElem?_getD, List.getElem?_map]
  cases xs[i]? <;> rfl
theorem own_lists {xs ys : List Int32} (h : xs.length = ys.length) (q : ∀ j, j < xs.length → xs.getD j 0 = ys.getD j 0) : xs = ys := by
  apply List.ext_getElem h
  intro i h1 h2
  have := q i h1
  simpa [List.getD_eq_getElem?_getD, h1, h2] using this
theorem own_succ32 (i : Nat) : Int32.ofNat i + (1 : Int32) = Int32.ofNat (i + 1) := by
  rw [Int32.ofNat_add]; rfl
theorem own_ti {n : Nat} (h : n < 1000) : (Int32.ofNat n).toInt = n := Int32.toInt_ofNat_small (by omega)
theorem own_tn {n : Nat} (h : n < 1000) : (Int32.ofNat n).toNatClampNeg = n := by
  show (Int32.ofNat n).toInt.toNat = n
  rw [own_ti h]; rfl
theorem own_in {i n : Nat} (h : i < n) (hn : n < 1000) : ¬ Int32.ofNat i < 0 ∧ Int32.ofNat i < Int32.ofNat n := by
  have a0 : (0 : Int32).toInt = 0 := rfl
  have e1 := own_ti (n := i) (by omega)
  have e2 := own_ti hn
  rw [Int32.lt_iff_toInt_lt, Int32.lt_iff_toInt_lt, e1, e2, a0]; omega
theorem own_nlt {i n : Nat} (h : n ≤ i) (hi : i < 1000) : ¬ Int32.ofNat i < Int32.ofNat n := by
  have e1 := own_ti hi
  have e2 := own_ti (n := n) (by omega)
  rw [Int32.lt_iff_toInt_lt, e1, e2]; omega
theorem own_nn {n : Nat} (h : n < 1000) : ¬ Int32.ofNat n < 0 := by
  have a0 : (0 : Int32).toInt = 0 := rfl
  rw [Int32.lt_iff_toInt_lt, own_ti h, a0]; omega
theorem own_inj {i n : Nat} (hi : i < 1000) (hn : n < 1000) (h : Int32.ofNat i = Int32.ofNat n) : i = n := by
  have e1 := own_ti hi
  have e2 := own_ti hn
  rw [h, e2] at e1; omega
theorem own_cap {n c : Nat} (h : n ≤ c) (hc : c < 1000) : (Int32.ofNat n).toNatClampNeg ≤ c := by rw [own_tn (by omega)]; exact h
theorem own_lt30 {n : Nat} (h : n < 1000) : Int32.ofNat n < (1073741823 : Int32) := by
  have a0 : (1073741823 : Int32).toInt = 1073741823 := rfl
  rw [Int32.lt_iff_toInt_lt, own_ti h, a0]; omega
theorem own_7 {n : Nat} (h : n ≤ 6) : n = 0 ∨ n = 1 ∨ n = 2 ∨ n = 3 ∨ n = 4 ∨ n = 5 ∨ n = 6 := by omega
theorem own_shl {i : Nat} (h : i ≤ 6) : (Int32.ofNat i) <<< ((1 : Int32) &&& 31) = Int32.ofNat (2 * i) := by
  rcases own_7 h with rfl | rfl | rfl | rfl | rfl | rfl | rfl <;> decide
theorem own_shr {i : Nat} (h : i ≤ 6) : (Int32.ofNat (2 * i)) >>> ((1 : Int32) &&& 31) = Int32.ofNat i := by
  rcases own_7 h with rfl | rfl | rfl | rfl | rfl | rfl | rfl <;> decide
theorem own_setl : ∀ (xs : List Value) (v d : Value), (xs ++ [d]).set xs.length v = xs ++ [v]
  | [], _, _ => rfl
  | x :: r, v, d => by
    show x :: ((r ++ [d]).set r.length v) = x :: (r ++ [v])
    rw [own_setl r v d]
theorem own_snoc {Z : State} {h h' : Heap} {a : Addr} {k : ClassId} {ty : FieldType} {z j v : Int32} {xs : List Int32} (V : Arv Z h a k ty z (xs.map Value.int) (.int (0 : Int32))) (hv : fits ty (.int v) = true) (W : Wr h h' a j.toNatClampNeg (.int v)) (hj : j.toNatClampNeg = xs.length) : Arv Z h' a k ty z ((xs ++ [v]).map Value.int) (.int (0 : Int32)) := by
  obtain ⟨c, A, q1, S, q3, H, G⟩ := V.pad (vs' := xs.map Value.int ++ List.replicate 1 (Value.int (0 : Int32))) (pad_rep _ _ 1)
  have r := Arv.set A q1 S q3 H G hv W xs.length hj (by simp)
  have e : (xs.map Value.int ++ List.replicate 1 (Value.int (0 : Int32))).set xs.length (.int v) = (xs ++ [v]).map Value.int := by
    have q := own_setl (xs.map Value.int) (.int v) (.int (0 : Int32))
    rw [List.length_map] at q
    rw [List.map_append]; exact q
  rw [e] at r; exact r
theorem own_nc16 {x : Int32} (h : 0 ≤ x.toInt ∧ x.toInt ≤ 65535) : nar .char x = x := own_i2c x h.1 h.2
/-- the low and the high byte of a char -/
def own_lo (c : Int32) : Int32 := nar .byte ((c >>> ((0 : Int32) &&& 31)).toInt8.toInt32)
def own_hi (c : Int32) : Int32 := nar .byte ((c >>> ((8 : Int32) &&& 31)).toInt8.toInt32)
def own_lb (c : Int32) : Int32 := nar .byte (c.toInt8.toInt32)
def own_u : List Int32 → List Int32
  | [] => []
  | c :: r => own_lo c :: own_hi c :: own_u r
/-- where the compression stops -/
def own_kk : List Int32 → Nat
  | [] => 0
  | c :: r => if (255 : Int32) < c then 0 else own_kk r + 1
def own_enc (cs : List Int32) : List Int32 := if own_kk cs = cs.length then cs.map own_lb else own_u cs
def own_cd (cs : List Int32) : Int32 := if own_kk cs = cs.length then (0 : Int32) else (1 : Int32)
def own_R (cs : List Int32) : Prop := cs.length ≤ 6 ∧ ∀ c ∈ cs, 0 ≤ c.toInt ∧ c.toInt ≤ 65535
theorem own_mem {cs : List Int32} {i : Nat} (h : i < cs.length) : cs.getD i 0 ∈ cs := by
  rw [List.getD_eq_getElem?_getD, List.getElem?_eq_getElem h]; exact List.getElem_mem h
theorem own_rng {cs : List Int32} (hR : own_R cs) {i : Nat} (h : i < cs.length) : 0 ≤ (cs.getD i 0).toInt ∧ (cs.getD i 0).toInt ≤ 65535 := hR.2 _ (own_mem h)
theorem own_Rt {cs : List Int32} (hR : own_R cs) (k : Nat) : own_R (cs.take k) := ⟨by rw [List.length_take]; have := hR.1; omega, fun c hc => hR.2 c (List.mem_of_mem_take hc)⟩
theorem own_gc {c : Int32} (h : 0 ≤ c.toInt ∧ c.toInt ≤ 65535) : ((((own_lo c &&& (255 : Int32)) <<< ((0 : Int32) &&& 31)) ||| ((own_hi c &&& (255 : Int32)) <<< ((8 : Int32) &&& 31))).toUInt32.toUInt16.toUInt32.toInt32) = c := by
  obtain ⟨h0, h1⟩ := h
  have e1 := c_ishr c (0 : Int32) 0 (by decide)
  have e2 := c_ishr c (8 : Int32) 8 (by decide)
  have n1 : own_lo c = ((c >>> ((0 : Int32) &&& 31)).toInt8.toInt32).toInt8.toInt32 := rfl
  have n2 : own_hi c = ((c >>> ((8 : Int32) &&& 31)).toInt8.toInt32).toInt8.toInt32 := rfl
  rw [n1, n2]
  generalize (c >>> ((0 : Int32) &&& 31)) = x at e1 ⊢
  generalize (c >>> ((8 : Int32) &&& 31)) = y at e2 ⊢
  have f1 := c_i2b x
  have f2 := c_i2b y
  generalize x.toInt8.toInt32 = x2 at f1 ⊢
  generalize y.toInt8.toInt32 = y2 at f2 ⊢
  have f3 := c_i2b x2
  have f4 := c_i2b y2
  generalize x2.toInt8.toInt32 = x3 at f3 ⊢
  generalize y2.toInt8.toInt32 = y3 at f4 ⊢
  have g1 := c_mask x3 (255 : Int32) 8 (by decide) (by decide)
  have g2 := c_mask y3 (255 : Int32) 8 (by decide) (by decide)
  generalize (x3 &&& (255 : Int32)) = x4 at g1 ⊢
  generalize (y3 &&& (255 : Int32)) = y4 at g2 ⊢
  have k1 := c_ishl x4 (0 : Int32) 0 (by decide)
  have k2 := c_ishl y4 (8 : Int32) 8 (by decide)
  have r1 := Int32.toInt_lt (x4 <<< ((0 : Int32) &&& 31))
  have r2 := Int32.le_toInt (x4 <<< ((0 : Int32) &&& 31))
  have r3 := Int32.toInt_lt (y4 <<< ((8 : Int32) &&& 31))
  have r4 := Int32.le_toInt (y4 <<< ((8 : Int32) &&& 31))
  generalize (x4 <<< ((0 : Int32) &&& 31)) = x5 at k1 r1 r2 ⊢
  generalize (y4 <<< ((8 : Int32) &&& 31)) = y5 at k2 r3 r4 ⊢
  have p0 : ((2 ^ 0 : Nat) : Int) = 1 := rfl
  have p8 : ((2 ^ 8 : Nat) : Int) = 256 := rfl
  rw [p0] at e1 k1
  rw [p8] at e2 g1 g2 k2
  have q := c_or' x5 y5 8 (by decide) 256 rfl (by omega) (by omega) (by omega)
  have r5 := Int32.toInt_lt (x5 ||| y5)
  have r6 := Int32.le_toInt (x5 ||| y5)
  generalize (x5 ||| y5) = w at q r5 r6 ⊢
  have v := c_i2c w
  exact Int32.toInt_inj.mp (by omega)
theorem own_lb255 {c : Int32} (h0 : 0 ≤ c.toInt) (h1 : ¬ ((255 : Int32) < c)) : (own_lb c &&& (255 : Int32)) = c := by
  have a1 : (255 : Int32).toInt = 255 := rfl
  rw [Int32.lt_iff_toInt_lt] at h1
  have n1 : own_lb c = c.toInt8.toInt32.toInt8.toInt32 := rfl
  rw [n1]
  have f1 := c_i2b c
  generalize c.toInt8.toInt32 = x2 at f1 ⊢
  have f3 := c_i2b x2
  generalize x2.toInt8.toInt32 = x3 at f3 ⊢
  have g1 := c_mask x3 (255 : Int32) 8 (by decide) (by decide)
  generalize (x3 &&& (255 : Int32)) = x4 at g1 ⊢
  have p8 : ((2 ^ 8 : Nat) : Int) = 256 := rfl
  rw [p8] at g1
  exact Int32.toInt_inj.mp (by omega)
theorem own_u_len : ∀ cs : List Int32, (own_u cs).length = 2 * cs.length
  | [] => rfl
  | c :: r => by
    have q := own_u_len r
    show (own_u r).length + 1 + 1 = 2 * (r.length + 1)
    omega
theorem own_u_lo : ∀ (cs : List Int32) (i : Nat), i < cs.length → (own_u cs).getD (2 * i) 0 = own_lo (cs.getD i 0)
  | [], i, h => absurd h (Nat.not_lt_zero _)
  | c :: r, 0, h => rfl
  | c :: r, i + 1, h => by
    have q := own_u_lo r i (Nat.lt_of_succ_lt_succ h)
    rw [show 2 * (i + 1) = (2 * i + 1) + 1 from by omega]
    exact q
theorem own_u_hi : ∀ (cs : List Int32) (i : Nat), i < cs.length → (own_u cs).getD (2 * i + 1) 0 = own_hi (cs.getD i 0)
  | [], i, h => absurd h (Nat.not_lt_zero _)
  | c :: r, 0, h => rfl
  | c :: r, i + 1, h => by
    have q := own_u_hi r i (Nat.lt_of_succ_lt_succ h)
    rw [show 2 * (i + 1) + 1 = (2 * i + 1 + 1) + 1 from by omega]
    exact q
theorem own_u_app : ∀ (xs ys : List Int32), own_u (xs ++ ys) = own_u xs ++ own_u ys
  | [], ys => rfl
  | c :: r, ys => by
    show own_lo c :: own_hi c :: own_u (r ++ ys) = own_lo c :: own_hi c :: (own_u r ++ own_u ys)
    rw [own_u_app r ys]
theorem own_take1 : ∀ (cs : List Int32) (i : Nat), i < cs.length → cs.take (i + 1) = cs.take i ++ [cs.getD i 0]
  | [], i, h => absurd h (Nat.not_lt_zero _)
  | c :: r, 0, _ => rfl
  | c :: r, i + 1, h => by
    have q := own_take1 r i (Nat.lt_of_succ_lt_succ h)
    show c :: r.take (i + 1) = c :: (r.take i ++ [r.getD i 0])
    rw [q]
theorem own_u1 {cs : List Int32} {i : Nat} (h : i < cs.length) : own_u (cs.take i) ++ [own_lo (cs.getD i 0), own_hi (cs.getD i 0)] = own_u (cs.take (i + 1)) := by
  rw [own_take1 cs i h, own_u_app]; rfl
theorem own_l1 {cs : List Int32} {i : Nat} (h : i < cs.length) : (cs.take i).map own_lb ++ [own_lb (cs.getD i 0)] = (cs.take (i + 1)).map own_lb := by
  rw [own_take1 cs i h, List.map_append]; rfl
theorem own_kk_le : ∀ cs : List Int32, own_kk cs ≤ cs.length
  | [] => Nat.le_refl _
  | c :: r => by
    have q := own_kk_le r
    show (if (255 : Int32) < c then 0 else own_kk r + 1) ≤ r.length + 1
    split <;> omega
theorem own_kk_at : ∀ (cs : List Int32) (i : Nat), i < cs.length → (∀ j, j < i → ¬ (255 : Int32) < cs.getD j 0) → (255 : Int32) < cs.getD i 0 → own_kk cs = i
  | [], i, h, _, _ => absurd h (Nat.not_lt_zero _)
  | c :: r, 0, _, _, h => by
    show (if (255 : Int32) < c then 0 else own_kk r + 1) = 0
    rw [if_pos (show (255 : Int32) < c from h)]
  | c :: r, i + 1, h, hp, hc => by
    have q := own_kk_at r i (Nat.lt_of_succ_lt_succ h) (fun j hj => hp (j + 1) (Nat.succ_lt_succ hj)) hc
    show (if (255 : Int32) < c then 0 else own_kk r + 1) = i + 1
    rw [if_neg (show ¬ (255 : Int32) < c from hp 0 (Nat.succ_pos _)), q]
theorem own_kk_all : ∀ cs : List Int32, (∀ j, j < cs.length → ¬ (255 : Int32) < cs.getD j 0) → own_kk cs = cs.length
  | [], _ => rfl
  | c :: r, hp => by
    have q := own_kk_all r (fun j hj => hp (j + 1) (Nat.succ_lt_succ hj))
    show (if (255 : Int32) < c then 0 else own_kk r + 1) = r.length + 1
    rw [if_neg (show ¬ (255 : Int32) < c from hp 0 (Nat.succ_pos _)), q]
theorem own_kk_no : ∀ (cs : List Int32) (j : Nat), j < own_kk cs → ¬ (255 : Int32) < cs.getD j 0
  | [], j, h => absurd h (Nat.not_lt_zero _)
  | c :: r, j, h => by
    by_cases q : (255 : Int32) < c
    · have e : own_kk (c :: r) = 0 := if_pos q
      omega
    · have e : own_kk (c :: r) = own_kk r + 1 := if_neg q
      cases j with
      | zero => exact q
      | succ j => exact own_kk_no r j (by omega)
theorem own_kk_hi : ∀ cs : List Int32, own_kk cs ≠ cs.length → own_kk cs < cs.length ∧ (255 : Int32) < cs.getD (own_kk cs) 0
  | [], h => absurd rfl h
  | c :: r, h => by
    by_cases q : (255 : Int32) < c
    · have e : own_kk (c :: r) = 0 := if_pos q
      rw [e]; exact ⟨Nat.succ_pos _, q⟩
    · have e : own_kk (c :: r) = own_kk r + 1 := if_neg q
      have w := own_kk_hi r (fun z => h (by rw [e, z]; rfl))
      rw [e]; exact ⟨Nat.succ_lt_succ w.1, w.2⟩
theorem own_eL {cs : List Int32} (h : own_kk cs = cs.length) : own_enc cs = cs.map own_lb := if_pos h
theorem own_eU {cs : List Int32} (h : ¬ own_kk cs = cs.length) : own_enc cs = own_u cs := if_neg h
theorem own_cL {cs : List Int32} (h : own_kk cs = cs.length) : own_cd cs = 0 := if_pos h
theorem own_cU {cs : List Int32} (h : ¬ own_kk cs = cs.length) : own_cd cs = 1 := if_neg h
theorem own_elL {cs : List Int32} (h : own_kk cs = cs.length) : (own_enc cs).length = cs.length := by rw [own_eL h, List.length_map]
theorem own_elU {cs : List Int32} (h : ¬ own_kk cs = cs.length) : (own_enc cs).length = 2 * cs.length := by rw [own_eU h, own_u_len]
theorem own_ell {cs : List Int32} (hR : own_R cs) : (own_enc cs).length < 1000 := by
  have := hR.1
  by_cases h : own_kk cs = cs.length
  · rw [own_elL h]; omega
  · rw [own_elU h]; omega
theorem own_cdn (cs : List Int32) : narrow .byte (.int (own_cd cs)) = .int (own_cd cs) := by
  by_cases h : own_kk cs = cs.length
  · rw [own_cL h]; rfl
  · rw [own_cU h]; rfl
theorem own_cdf (cs : List Int32) : fits .byte (.int (own_cd cs)) = true := by
  by_cases h : own_kk cs = cs.length
  · rw [own_cL h]; rfl
  · rw [own_cU h]; rfl
theorem own_co {cs : List Int32} (hR : own_R cs) (hp : 0 < cs.length) : (((Int32.ofNat cs.length - Int32.ofNat (own_enc cs).length).toUInt32 >>> ((31 : Int32) &&& 31).toUInt32).toInt32).toInt8.toInt32 = own_cd cs := by
  have hr6 := hR.1
  by_cases h : own_kk cs = cs.length
  · rw [own_elL h, own_cL h]
    rcases own_7 hr6 with q | q | q | q | q | q | q <;> rw [q] <;> decide
  · rw [own_elU h, own_cU h]
    rcases own_7 hr6 with q | q | q | q | q | q | q <;> rw [q] <;> first | (exfalso; omega) | decide
theorem own_ls {cs : List Int32} (hR : own_R cs) : (Int32.ofNat (own_enc cs).length) >>> (own_cd cs &&& 31) = Int32.ofNat cs.length := by
  have hr6 := hR.1
  by_cases h : own_kk cs = cs.length
  · rw [own_elL h, own_cL h]
    rcases own_7 hr6 with q | q | q | q | q | q | q <;> rw [q] <;> decide
  · rw [own_elU h, own_cU h]
    rcases own_7 hr6 with q | q | q | q | q | q | q <;> rw [q] <;> decide
theorem own_evL {Z : State} {h : Heap} {b : Addr} {k : ClassId} {cs : List Int32} (q : own_kk cs = cs.length) (V : Arv Z h b k .byte (Int32.ofNat cs.length) (((cs.take (own_kk cs)).map own_lb).map Value.int) (.int (0 : Int32))) : Arv Z h b k .byte (Int32.ofNat (own_enc cs).length) ((own_enc cs).map Value.int) (.int (0 : Int32)) := by
  rw [own_elL q, own_eL q]; rw [q, List.take_length] at V; exact V
theorem own_evU {Z : State} {h : Heap} {b : Addr} {k : ClassId} {cs : List Int32} (q : ¬ own_kk cs = cs.length) (V : Arv Z h b k .byte (Int32.ofNat (2 * cs.length)) ((own_u cs).map Value.int) (.int (0 : Int32))) : Arv Z h b k .byte (Int32.ofNat (own_enc cs).length) ((own_enc cs).map Value.int) (.int (0 : Int32)) := by
  rw [own_elU q, own_eU q]; exact V
theorem own_unL {Z : State} {h : Heap} {b : Addr} {k : ClassId} {cs : List Int32} (q : own_kk cs = cs.length) (V : Arv Z h b k .byte (Int32.ofNat (own_enc cs).length) ((own_enc cs).map Value.int) (.int (0 : Int32))) : Arv Z h b k .byte (Int32.ofNat cs.length) ((cs.map own_lb).map Value.int) (.int (0 : Int32)) := by
  rw [own_elL q, own_eL q] at V; exact V
theorem own_unU {Z : State} {h : Heap} {b : Addr} {k : ClassId} {cs : List Int32} (q : ¬ own_kk cs = cs.length) (V : Arv Z h b k .byte (Int32.ofNat (own_enc cs).length) ((own_enc cs).map Value.int) (.int (0 : Int32))) : Arv Z h b k .byte (Int32.ofNat (2 * cs.length)) ((own_u cs).map Value.int) (.int (0 : Int32)) := by
  rw [own_elU q, own_eU q] at V; exact V
theorem own_pos {cs : List Int32} (h : ¬ cs = []) : 0 < cs.length := by
  cases cs with
  | nil => exact absurd rfl h
  | cons c r => exact Nat.succ_pos _
theorem own_ne0 {n : Nat} (h : 0 < n) (h1 : n < 1000) : ¬ Int32.ofNat n = 0 := fun q => by
  have := own_inj h1 (n := 0) (by decide) q
  omega
theorem own_safe0 {Z : State} {EL : List (String × Nat)} {vm : Vm} {h : Heap} {x : Addr} (hal : Z.vm.Alike vm) (E : Exa Z h x "java/lang/String") (F : Fld Z h x "java/lang/String" "value" "[B" .null) : Safe Z EL vm h x := fun B => by
  obtain ⟨cell, k, e1, e2, e3, -, -⟩ := E
  obtain ⟨cell', cf, kf, i, f, f1, f2, -, -, -, -, f7⟩ := F
  cases e1.symm.trans f1
  obtain ⟨p, -, u, a, -, q, -, G, rfl | rfl⟩ := B
  · cases (show h[q.sa]? = some q.sC from G.ha).symm.trans e1
    obtain ⟨cS, ⟨⟨-, -, -, ⟨cv, kv, iv, s4, -⟩, -, -, -, s8, -⟩, -⟩, -⟩ := G
    obtain ⟨kv', z4⟩ := ff_back (U := Wst Z vm h) hal s4
    cases z4.symm.trans f2
    rw [s8] at f7
    cases f7
  · cases (show h[q.sd]? = some q.SA from G.hd).symm.trans e1
    obtain ⟨cS, -, -, hB, -⟩ := G
    have hB' : vm.findClass "[B" = some q.SA.cls := hB
    rw [hal.findClass] at hB'
    obtain ⟨k1, q1, q2⟩ := Vm.findClass_spec hB'
    obtain ⟨k2, q3, q4⟩ := Vm.findClass_spec e2
    cases q1.symm.trans q3
    have : "[B" = "java/lang/String" := q2.symm.trans q4
    exact absurd this (by decide)
theorem own_wS {Z : State} {a0 : Array Value} (hw : ∀ d ∈ tables_1, d.before a0 Z = true) : ∀ a ∈ Bundle.stringAtoms, a.before a0 Z = true := by
  intro a ha
  simp only [Bundle.stringAtoms, List.mem_cons, List.not_mem_nil, or_false] at ha
  rcases ha with rfl | rfl | rfl | rfl | rfl | rfl | rfl
  · exact (ow hw 3 rfl)
  · exact (ow hw 2 rfl)
  · exact (ow hw 19 rfl)
  · exact (ow hw 20 rfl)
  · exact (ow hw 21 rfl)
  · exact (ow hw 22 rfl)
  · exact (ow hw 23 rfl)
def Q_rmNL (Z : State) (n : Nat) (h0 : Heap) (n0 : Nat) : Option Value → Heap → List Loc → Prop := fun v h L => v = some (.int (Int32.ofNat (2 * n))) ∧ L = [] ∧ h = h0
set_option maxRecDepth 65536 in
set_option maxHeartbeats 40000000 in
theorem rmNL (l : Launch) (Z : State) (a0 : Array Value) (hw : ∀ d ∈ tables_1, d.before a0 Z = true) (ws : List Jvm.Cond) (n : Nat) (h0 : Heap) (n0 : Nat) (O : Old Z n0 h0) (hn : n ≤ 6) :
    MetFree l (⟨"java/lang/StringUTF16", "newBytesLength", "(I)I"⟩ : MethodName) (head1 (Jvm.Cond.code (⟨"java/lang/StringUTF16", "newBytesLength", "(I)I"⟩ : MethodName) jdk_52_method_3_code 1 (some .int) :: ws) ({ frames := 0, cells := 0, slots := 0, locals := 0 } : Room)) (fun a U => a = #[(.int (Int32.ofNat n))] ∧ Z.Warmed39 U.vm ∧ U.heap = h0) (fun _ _ _ _ _ => True) (fun _ U o U' => ∃ v L, o = .returned v ∧ (Q_rmNL Z n h0 n0) v U'.heap L ∧ FrameEnd U o U' L ({ frames := 0, cells := 0, slots := 0, locals := 0 } : Room).cells ({ frames := 0, cells := 0, slots := 0, locals := 0 } : Room).slots) := by
  refine MetFree.of_bodySF (plainFor_of_name pn_0) hisR ?_
  intro p e s m args below meth c s₁ Bd hml0 hP hK
  obtain ⟨rfl, hZ, hh⟩ := hP
  have hx := Bd.exec
  have hby := Bd.bytes
  have hml : c.maxLocals = 1 := hml0
  have hown : s.vm.findClass "java/lang/StringUTF16" = some m.cls := findClass_of_methodNamed Bd.named
  have hnm := (name_of_methodNamed Bd.named Bd.method).1
  have hlk := BodyLoose.notSynchronized Bd
  have X0 : Stand p l e ({ frames := 0, cells := 0, slots := 0, locals := 0 } : Room) s m #[(.int (Int32.ofNat n))] below meth c s₁ [] 0 0 := Stand.of_body Bd
  have e0 : s₁.heap = h0 := by rw [← hh, Bd.state]; rfl
  have N := Fr.nil n0
  obtain ⟨G, hG⟩ : ∃ G : State → JFrame → Prop, G = OwnG p e below s ({ frames := 0, cells := 0, slots := 0, locals := 0 } : Room).cells ({ frames := 0, cells := 0, slots := 0, locals := 0 } : Room).slots (Q_rmNL Z n h0 n0) := ⟨_, rfl⟩
  have gb : ∀ {T T' : State} {g g' : JFrame}, (∀ t, Steps p.tables e below (T'.setTop g') t → Steps p.tables e below (T.setTop g) t) → G T' g' → G T g := by subst hG; exact fun k h => own_by k h
  have go : ∀ {T : State} {locs : List Loc} {cells slots : Nat} {g : JFrame} {v : Option Value}, Stand p l e ({ frames := 0, cells := 0, slots := 0, locals := 0 } : Room) s m #[(.int (Int32.ofNat n))] below meth c T locs cells slots → (meth.sig.returnType = none → v = none) → (∀ fs, (∀ (f : JFrame) (acts : List Action), f.method = m → f.locked = none → f.entered = [] → (doReturn e (T.setTop f) acts v).1 = T.setFrames fs) → Steps p.tables e below (T.setTop g) (T.setFrames fs)) → (Q_rmNL Z n h0 n0) v T.heap locs → cells ≤ ({ frames := 0, cells := 0, slots := 0, locals := 0 } : Room).cells → slots ≤ ({ frames := 0, cells := 0, slots := 0, locals := 0 } : Room).slots → G T g := by subst hG; exact fun X h1 h2 h3 h4 h5 => own_out X hlk h1 h2 h3 h4 h5
  show OwnG p e below s ({ frames := 0, cells := 0, slots := 0, locals := 0 } : Room).cells ({ frames := 0, cells := 0, slots := 0, locals := 0 } : Room).slots (Q_rmNL Z n h0 n0) s₁ (entryFrame m #[(.int (Int32.ofNat n))] 1)
  rw [← hG, ef_rmNL m (Int32.ofNat n)]
  clear hG
  show G s₁ (mkF m 0 #[.val (.int (Int32.ofNat n))] [])
  refine gb (fun _ k => XS.iloadN X0.here hx rfl (hb hby d20_0) rfl (XS.ifYes X0.here hx rfl (pc0 := 1) (pc' := 12) rfl (hb hby d20_1) rfl ((if0 _ _).trans (flt (own_nn (by omega))).2.1) (by decide) (by decide) (XS.iloadN X0.here hx rfl (hb hby d20_12) rfl k))) ?_
  show G s₁ (mkF m 13 #[iv (Int32.ofNat n)] [.int (Int32.ofNat n)])
  refine gb (X0.ldcInt hx hown (mvT hZ (ow hw 95 rfl)) (g := (mkF m 13 #[iv (Int32.ofNat n)] [.int (Int32.ofNat n)])) rfl (hb hby d20_13)) ?_
  show G s₁ (mkF m 15 #[iv (Int32.ofNat n)] [.int 1073741823, .int (Int32.ofNat n)])
  refine gb (fun _ k => XS.icmpYes X0.here hx rfl (pc0 := 15) (pc' := 55) rfl (hb hby d20_15) rfl (tlt (own_lt30 (by omega))).1 (by decide) (by decide) (XS.iloadN X0.here hx rfl (hb hby d20_55) rfl (XS.iconst X0.here hx rfl (hb hby d20_56) (XS.ishl X0.here hx rfl (hb hby d20_57) rfl k)))) ?_
  show G s₁ (mkF m 58 #[iv (Int32.ofNat n)] [.int ((Int32.ofNat n) <<< ((1 : Int32) &&& 31))])
  rw [own_shl hn]
  show G s₁ (mkF m 58 #[iv (Int32.ofNat n)] [.int (Int32.ofNat (2 * n))])
  exact go X0 (v := (some (.int (Int32.ofNat (2 * n))))) (fun h => by rw [Bd.returns] at h; cases h) (fun fs hr => retOut X0 hx Bd.returns rfl (Or.inl ⟨rfl, by simp, _, rfl⟩) (hb hby d20_58) hr) (⟨rfl, rfl, e0⟩) (by decide) (by decide)
def Q_rmNF (Z : State) (n : Nat) (h0 : Heap) (n0 : Nat) : Option Value → Heap → List Loc → Prop := fun v h L => ∃ (b : Addr) (kb : ClassId), v = some (.ref b) ∧ Fr n0 L ∧ Keep h0 h [] ∧ n0 ≤ b ∧ h0.size ≤ b ∧ Arv Z h b kb .byte (Int32.ofNat (2 * n)) (([] : List Int32).map Value.int) (.int (0 : Int32))
set_option maxRecDepth 65536 in
set_option maxHeartbeats 40000000 in
theorem rmNF (l : Launch) (Z : State) (a0 : Array Value) (hw : ∀ d ∈ tables_1, d.before a0 Z = true) (ws : List Jvm.Cond) (n : Nat) (h0 : Heap) (n0 : Nat) (O : Old Z n0 h0) (hn : n ≤ 6) :
    MetFree l (⟨"java/lang/StringUTF16", "newBytesFor", "(I)[B"⟩ : MethodName) (head1 (Jvm.Cond.code (⟨"java/lang/StringUTF16", "newBytesFor", "(I)[B"⟩ : MethodName) jdk_52_method_2_code 1 (some (.array .byte)) :: ws) ({ frames := 1, cells := 1, slots := 12, locals := 12 } : Room)) (fun a U => a = #[(.int (Int32.ofNat n))] ∧ Z.Warmed39 U.vm ∧ U.heap = h0) (fun _ _ _ _ _ => True) (fun _ U o U' => ∃ v L, o = .returned v ∧ (Q_rmNF Z n h0 n0) v U'.heap L ∧ FrameEnd U o U' L ({ frames := 1, cells := 1, slots := 12, locals := 12 } : Room).cells ({ frames := 1, cells := 1, slots := 12, locals := 12 } : Room).slots) := by
  refine MetFree.of_bodySF (plainFor_of_name pn_0) hisR ?_
  intro p e s m args below meth c s₁ Bd hml0 hP hK
  obtain ⟨rfl, hZ, hh⟩ := hP
  have hx := Bd.exec
  have hby := Bd.bytes
  have hml : c.maxLocals = 1 := hml0
  have hown : s.vm.findClass "java/lang/StringUTF16" = some m.cls := findClass_of_methodNamed Bd.named
  have hnm := (name_of_methodNamed Bd.named Bd.method).1
  have hlk := BodyLoose.notSynchronized Bd
  have X0 : Stand p l e ({ frames := 1, cells := 1, slots := 12, locals := 12 } : Room) s m #[(.int (Int32.ofNat n))] below meth c s₁ [] 0 0 := Stand.of_body Bd
  have e0 : s₁.heap = h0 := by rw [← hh, Bd.state]; rfl
  have N := Fr.nil n0
  have K := Keep.refl h0 []
  obtain ⟨G, hG⟩ : ∃ G : State → JFrame → Prop, G = OwnG p e below s ({ frames := 1, cells := 1, slots := 12, locals := 12 } : Room).cells ({ frames := 1, cells := 1, slots := 12, locals := 12 } : Room).slots (Q_rmNF Z n h0 n0) := ⟨_, rfl⟩
  have gb : ∀ {T T' : State} {g g' : JFrame}, (∀ t, Steps p.tables e below (T'.setTop g') t → Steps p.tables e below (T.setTop g) t) → G T' g' → G T g := by subst hG; exact fun k h => own_by k h
  have go : ∀ {T : State} {locs : List Loc} {cells slots : Nat} {g : JFrame} {v : Option Value}, Stand p l e ({ frames := 1, cells := 1, slots := 12, locals := 12 } : Room) s m #[(.int (Int32.ofNat n))] below meth c T locs cells slots → (meth.sig.returnType = none → v = none) → (∀ fs, (∀ (f : JFrame) (acts : List Action), f.method = m → f.locked = none → f.entered = [] → (doReturn e (T.setTop f) acts v).1 = T.setFrames fs) → Steps p.tables e below (T.setTop g) (T.setFrames fs)) → (Q_rmNF Z n h0 n0) v T.heap locs → cells ≤ ({ frames := 1, cells := 1, slots := 12, locals := 12 } : Room).cells → slots ≤ ({ frames := 1, cells := 1, slots := 12, locals := 12 } : Room).slots → G T g := by subst hG; exact fun X h1 h2 h3 h4 h5 => own_out X hlk h1 h2 h3 h4 h5
  show OwnG p e below s ({ frames := 1, cells := 1, slots := 12, locals := 12 } : Room).cells ({ frames := 1, cells := 1, slots := 12, locals := 12 } : Room).slots (Q_rmNF Z n h0 n0) s₁ (entryFrame m #[(.int (Int32.ofNat n))] 1)
  rw [← hG, ef_rmNF m (Int32.ofNat n)]
  clear hG
  show G s₁ (mkF m 0 #[.val (.int (Int32.ofNat n))] [])
  refine gb (fun _ k => XS.iloadN X0.here hx rfl (hb hby d19_0) rfl k) ?_
  show G s₁ (mkF m 1 #[iv (Int32.ofNat n)] [.int (Int32.ofNat n)])
  obtain ⟨_, _, ⟨T1, Lz1, kz1, nz1⟩, -, X1, ⟨Lc1, hQ1, lq1, yq1, zq1⟩, st1⟩ := Jvm.LawKit.callS X0 hx (y := (⟨"java/lang/StringUTF16", "newBytesLength", "(I)I"⟩ : MethodName)) hown (mvT hZ (ow hw 92 rfl)) (mvT hZ (ow hw 93 rfl)) (mvT hZ (ow hw 81 rfl)) (mvT hZ (ow hw 94 rfl)) (by decide) (backOf (W := 0) (rmNL l Z a0 hw [] n h0 n0 O hn) hZ (ow hw 94 rfl) (ow hw 81 rfl) (by decide) (by decide)) (g := (mkF m 1 #[iv (Int32.ofNat n)] [.int (Int32.ofNat n)])) rfl (by rw [hml]; rfl) (argsL := [(.int (Int32.ofNat n))]) (rest := []) (lenOf pd_0 rfl) rfl (by show 2 * 0 + _ ≤ _; exact Nat.le_of_eq rfl) (hb hby d19_1) (fun _ _ => ⟨rfl, e0, (by decide : 0 + 0 ≤ _), (by decide : 0 + 0 ≤ _)⟩)
  dsimp only [Pt.U, Pt.locs, Pt.cells, Pt.slots] at X1 lq1 yq1 zq1 st1 hQ1
  subst lq1 yq1 zq1
  obtain ⟨rfl, rfl, e1⟩ := hQ1
  try rw [List.append_nil] at X1
  refine gb st1 ?_
  show G T1 (mkF m 4 #[iv (Int32.ofNat n)] [.int (Int32.ofNat (2 * n))])
  obtain ⟨T2, h2, kA2, X2, e2, E2, A2, st2⟩ := newP X1 hx hZ (ow hw 19 rfl) e1 (g := (mkF m 4 #[iv (Int32.ofNat n)] [.int (Int32.ofNat (2 * n))])) rfl (hb hby d19_4) rfl (own_nn (by omega)) (cap := 12) (own_cap (by omega) (by decide)) (by decide) (by decide) (by decide)
  obtain ⟨b2, g2⟩ : ∃ z, z = h0.size := ⟨_, rfl⟩
  rw [← g2] at A2 st2
  have g_b2 : n0 ≤ b2 := Nat.le_trans (by have := O.2.1; rw [O.1] at this; exact this) (Nat.le_of_eq g2.symm)
  have sz_b2 : h0.size ≤ b2 := Nat.le_trans K.1 (Nat.le_of_eq g2.symm)
  have O := O.ext E2
  have K := K.ext E2
  have V_b2 : Arv Z h2 b2 kA2 .byte (Int32.ofNat (2 * n)) [] (.int (0 : Int32)) := Arv.new A2 (own_nn (by omega))
  refine gb st2 ?_
  show G T2 (mkF m 6 #[iv (Int32.ofNat n)] [.ref b2])
  exact go X2 (v := (some (.ref b2))) (fun h => by rw [Bd.returns] at h; cases h) (fun fs hr => retOut X2 hx Bd.returns rfl (Or.inr (Or.inr (Or.inr (Or.inr ⟨rfl, rfl, rfl⟩)))) (hb hby d19_6) hr) (by rw [e2]; exact ⟨_, _, rfl, N, K, g_b2, sz_b2, V_b2⟩) (by decide) (by decide)
def Q_rmPU (Z : State) (a1 : Addr) (k1 : ClassId) (xs : List Int32) (n i : Nat) (c0 : Int32) (h0 : Heap) (n0 : Nat) : Option Value → Heap → List Loc → Prop := fun v h L => v = none ∧ Fr n0 L ∧ Keep h0 h [a1] ∧ Arv Z h a1 k1 .byte (Int32.ofNat (2 * n)) ((xs ++ [own_lo c0, own_hi c0]).map Value.int) (.int (0 : Int32))
set_option maxRecDepth 65536 in
set_option maxHeartbeats 40000000 in
theorem rmPU (l : Launch) (Z : State) (a0 : Array Value) (hw : ∀ d ∈ tables_1, d.before a0 Z = true) (ws : List Jvm.Cond) (a1 : Addr) (k1 : ClassId) (xs : List Int32) (n i : Nat) (c0 : Int32) (h0 : Heap) (n0 : Nat) (O : Old Z n0 h0) (S_ad : Sta Z Z.heap "java/lang/StringUTF16" "$assertionsDisabled" "Z" (.int (1 : Int32))) (S_hi : Sta Z Z.heap "java/lang/StringUTF16" "HI_BYTE_SHIFT" "I" (.int (0 : Int32))) (S_lo : Sta Z Z.heap "java/lang/StringUTF16" "LO_BYTE_SHIFT" "I" (.int (8 : Int32))) (V_a1 : Arv Z h0 a1 k1 .byte (Int32.ofNat (2 * n)) (xs.map Value.int) (.int (0 : Int32))) (hx1 : xs.length = 2 * i) (hi : i < n) (hn : n ≤ 6) (g_a1 : n0 ≤ a1) :
    MetFree l (⟨"java/lang/StringUTF16", "putChar", "([BII)V"⟩ : MethodName) (head1 (Jvm.Cond.code (⟨"java/lang/StringUTF16", "putChar", "([BII)V"⟩ : MethodName) jdk_52_method_4_code 3 none :: ws) ({ frames := 0, cells := 0, slots := 0, locals := 0 } : Room)) (fun a U => a = #[(.ref a1), (.int (Int32.ofNat i)), (.int c0)] ∧ Z.Warmed39 U.vm ∧ U.heap = h0) (fun _ _ _ _ _ => True) (fun _ U o U' => ∃ v L, o = .returned v ∧ (Q_rmPU Z a1 k1 xs n i c0 h0 n0) v U'.heap L ∧ FrameEnd U o U' L ({ frames := 0, cells := 0, slots := 0, locals := 0 } : Room).cells ({ frames := 0, cells := 0, slots := 0, locals := 0 } : Room).slots) := by
  refine MetFree.of_bodySF (plainFor_of_name pn_0) hisR ?_
  intro p e s m args below meth c s₁ Bd hml0 hP hK
  obtain ⟨rfl, hZ, hh⟩ := hP
  have hx := Bd.exec
  have hby := Bd.bytes
  have hml : c.maxLocals = 3 := hml0
  have hown : s.vm.findClass "java/lang/StringUTF16" = some m.cls := findClass_of_methodNamed Bd.named
  have hnm := (name_of_methodNamed Bd.named Bd.method).1
  have hlk := BodyLoose.notSynchronized Bd
  have X0 : Stand p l e ({ frames := 0, cells := 0, slots := 0, locals := 0 } : Room) s m #[(.ref a1), (.int (Int32.ofNat i)), (.int c0)] below meth c s₁ [] 0 0 := Stand.of_body Bd
  have e0 : s₁.heap = h0 := by rw [← hh, Bd.state]; rfl
  have N := Fr.nil n0
  have K := Keep.refl h0 [a1]
  obtain ⟨G, hG⟩ : ∃ G : State → JFrame → Prop, G = OwnG p e below s ({ frames := 0, cells := 0, slots := 0, locals := 0 } : Room).cells ({ frames := 0, cells := 0, slots := 0, locals := 0 } : Room).slots (Q_rmPU Z a1 k1 xs n i c0 h0 n0) := ⟨_, rfl⟩
  have gb : ∀ {T T' : State} {g g' : JFrame}, (∀ t, Steps p.tables e below (T'.setTop g') t → Steps p.tables e below (T.setTop g) t) → G T' g' → G T g := by subst hG; exact fun k h => own_by k h
  have go : ∀ {T : State} {locs : List Loc} {cells slots : Nat} {g : JFrame} {v : Option Value}, Stand p l e ({ frames := 0, cells := 0, slots := 0, locals := 0 } : Room) s m #[(.ref a1), (.int (Int32.ofNat i)), (.int c0)] below meth c T locs cells slots → (meth.sig.returnType = none → v = none) → (∀ fs, (∀ (f : JFrame) (acts : List Action), f.method = m → f.locked = none → f.entered = [] → (doReturn e (T.setTop f) acts v).1 = T.setFrames fs) → Steps p.tables e below (T.setTop g) (T.setFrames fs)) → (Q_rmPU Z a1 k1 xs n i c0 h0 n0) v T.heap locs → cells ≤ ({ frames := 0, cells := 0, slots := 0, locals := 0 } : Room).cells → slots ≤ ({ frames := 0, cells := 0, slots := 0, locals := 0 } : Room).slots → G T g := by subst hG; exact fun X h1 h2 h3 h4 h5 => own_out X hlk h1 h2 h3 h4 h5
  show OwnG p e below s ({ frames := 0, cells := 0, slots := 0, locals := 0 } : Room).cells ({ frames := 0, cells := 0, slots := 0, locals := 0 } : Room).slots (Q_rmPU Z a1 k1 xs n i c0 h0 n0) s₁ (entryFrame m #[(.ref a1), (.int (Int32.ofNat i)), (.int c0)] 3)
  rw [← hG, ef_rmPU m a1 (Int32.ofNat i) c0]
  clear hG
  show G s₁ (mkF m 0 #[.val (.ref a1), .val (.int (Int32.ofNat i)), .val (.int c0)] [])
  obtain ⟨T1, X1, e1, st1⟩ := getS2 X0 hx hZ hown (host := "") (Or.inl (ow hw 99 rfl)) Via.refl e0 (S_ad.ext O.2) (g := (mkF m 0 #[rv a1, iv (Int32.ofNat i), iv c0] [])) rfl (hb hby d21_0)
  refine gb st1 ?_
  show G T1 (mkF m 3 #[rv a1, iv (Int32.ofNat i), iv c0] [.int 1])
  refine gb (fun _ k => XS.ifYes X1.here hx rfl (pc0 := 3) (pc' := 28) rfl (hb hby d21_3) rfl ((if0 _ _).trans (feq (by decide : ¬ ((1 : Int32) = (0 : Int32)))).2) (by decide) (by decide) (XS.iloadN X1.here hx rfl (hb hby d21_28) rfl (XS.iconst X1.here hx rfl (hb hby d21_29) (XS.ishl X1.here hx rfl (hb hby d21_30) rfl k)))) ?_
  show G T1 (mkF m 31 #[rv a1, iv (Int32.ofNat i), iv c0] [.int ((Int32.ofNat i) <<< ((1 : Int32) &&& 31))])
  rw [own_shl (i := i) (by omega)]
  show G T1 (mkF m 31 #[rv a1, iv (Int32.ofNat i), iv c0] [.int (Int32.ofNat (2 * i))])
  refine gb (fun _ k => XS.istoreN X1.here hx rfl (hb hby d21_31) rfl (l' := #[rv a1, iv (Int32.ofNat (2 * i)), iv c0]) rfl (XS.aloadN X1.here hx rfl (hb hby d21_32) rfl rfl (XS.iloadN X1.here hx rfl (hb hby d21_33) rfl (XS.iinc X1.here hx rfl (hb hby d21_34) rfl (l' := #[rv a1, iv ((Int32.ofNat (2 * i)) + (1 : Int32)), iv c0]) rfl k)))) ?_
  show G T1 (mkF m 37 #[rv a1, iv ((Int32.ofNat (2 * i)) + (1 : Int32)), iv c0] [.int (Int32.ofNat (2 * i)), .ref a1])
  rw [own_succ32]
  show G T1 (mkF m 37 #[rv a1, iv (Int32.ofNat (2 * i + 1)), iv c0] [.int (Int32.ofNat (2 * i)), .ref a1])
  refine gb (fun _ k => XS.iloadN X1.here hx rfl (hb hby d21_37) rfl k) ?_
  show G T1 (mkF m 38 #[rv a1, iv (Int32.ofNat (2 * i + 1)), iv c0] [.int c0, .int (Int32.ofNat (2 * i)), .ref a1])
  obtain ⟨T2, X2, e2, st2⟩ := getS2 X1 hx hZ hown (host := "") (Or.inl (ow hw 100 rfl)) Via.refl e1 (S_hi.ext O.2) (g := (mkF m 38 #[rv a1, iv (Int32.ofNat (2 * i + 1)), iv c0] [.int c0, .int (Int32.ofNat (2 * i)), .ref a1])) rfl (hb hby d21_38)
  refine gb st2 ?_
  show G T2 (mkF m 41 #[rv a1, iv (Int32.ofNat (2 * i + 1)), iv c0] [.int 0, .int c0, .int (Int32.ofNat (2 * i)), .ref a1])
  refine gb (fun _ k => XS.ishr X2.here hx rfl (hb hby d21_41) rfl (XS.i2b X2.here hx rfl (hb hby d21_42) rfl k)) ?_
  show G T2 (mkF m 43 #[rv a1, iv (Int32.ofNat (2 * i + 1)), iv c0] [.int ((c0 >>> ((0 : Int32) &&& 31)).toInt8.toInt32), .int (Int32.ofNat (2 * i)), .ref a1])
  have V'3 := V_a1
  obtain ⟨cl3, Ar3, qk3, sz3, nn3, hs3, ft3⟩ := V'3
  have hin3 : ¬ ((Int32.ofNat (2 * i)) < 0 ∨ cl3.slots.size ≤ ((Int32.ofNat (2 * i))).toNatClampNeg) := inb_of sz3 (own_in (i := (2 * i)) (n := (2 * n)) (by omega) (by omega))
  obtain ⟨T4, h4, X4, e4, W4, st4⟩ := stB X2 hx hZ e2 Ar3 (j := (Int32.ofNat (2 * i))) hin3 (g := (mkF m 43 #[rv a1, iv (Int32.ofNat (2 * i + 1)), iv c0] [.int ((c0 >>> ((0 : Int32) &&& 31)).toInt8.toInt32), .int (Int32.ofNat (2 * i)), .ref a1])) rfl rfl (hb hby d21_43)
  have V_a1 : Arv Z h4 a1 k1 .byte (Int32.ofNat (2 * n)) ((xs ++ [own_lo c0]).map Value.int) (.int (0 : Int32)) := own_snoc V_a1 (fits_nar_byte _) W4 (by rw [own_tn (n := 2 * i) (by omega), hx1])
  have O := O.wr W4 g_a1
  have K := K.wr W4 (Or.inl (List.mem_of_getElem? (i := 0) rfl))
  have N := Fr.snoc X4 N g_a1
  refine gb st4 ?_
  show G T4 (mkF m 44 #[rv a1, iv (Int32.ofNat (2 * i + 1)), iv c0] [])
  refine gb (fun _ k => XS.aloadN X4.here hx rfl (hb hby d21_44) rfl rfl (XS.iloadN X4.here hx rfl (hb hby d21_45) rfl (XS.iloadN X4.here hx rfl (hb hby d21_46) rfl k))) ?_
  show G T4 (mkF m 47 #[rv a1, iv (Int32.ofNat (2 * i + 1)), iv c0] [.int c0, .int (Int32.ofNat (2 * i + 1)), .ref a1])
  obtain ⟨T5, X5, e5, st5⟩ := getS2 X4 hx hZ hown (host := "") (Or.inl (ow hw 101 rfl)) Via.refl e4 (S_lo.ext O.2) (g := (mkF m 47 #[rv a1, iv (Int32.ofNat (2 * i + 1)), iv c0] [.int c0, .int (Int32.ofNat (2 * i + 1)), .ref a1])) rfl (hb hby d21_47)
  refine gb st5 ?_
  show G T5 (mkF m 50 #[rv a1, iv (Int32.ofNat (2 * i + 1)), iv c0] [.int 8, .int c0, .int (Int32.ofNat (2 * i + 1)), .ref a1])
  refine gb (fun _ k => XS.ishr X5.here hx rfl (hb hby d21_50) rfl (XS.i2b X5.here hx rfl (hb hby d21_51) rfl k)) ?_
  show G T5 (mkF m 52 #[rv a1, iv (Int32.ofNat (2 * i + 1)), iv c0] [.int ((c0 >>> ((8 : Int32) &&& 31)).toInt8.toInt32), .int (Int32.ofNat (2 * i + 1)), .ref a1])
  have V'6 := V_a1
  obtain ⟨cl6, Ar6, qk6, sz6, nn6, hs6, ft6⟩ := V'6
  have hin6 : ¬ ((Int32.ofNat (2 * i + 1)) < 0 ∨ cl6.slots.size ≤ ((Int32.ofNat (2 * i + 1))).toNatClampNeg) := inb_of sz6 (own_in (i := (2 * i + 1)) (n := (2 * n)) (by omega) (by omega))
  obtain ⟨T7, h7, X7, e7, W7, st7⟩ := stB X5 hx hZ e5 Ar6 (j := (Int32.ofNat (2 * i + 1))) hin6 (g := (mkF m 52 #[rv a1, iv (Int32.ofNat (2 * i + 1)), iv c0] [.int ((c0 >>> ((8 : Int32) &&& 31)).toInt8.toInt32), .int (Int32.ofNat (2 * i + 1)), .ref a1])) rfl rfl (hb hby d21_52)
  have V_a1 : Arv Z h7 a1 k1 .byte (Int32.ofNat (2 * n)) (((xs ++ [own_lo c0]) ++ [own_hi c0]).map Value.int) (.int (0 : Int32)) := own_snoc V_a1 (fits_nar_byte _) W7 (by rw [own_tn (n := 2 * i + 1) (by omega), List.length_append, hx1]; rfl)
  have O := O.wr W7 g_a1
  have K := K.wr W7 (Or.inl (List.mem_of_getElem? (i := 0) rfl))
  have N := Fr.snoc X7 N g_a1
  refine gb st7 ?_
  show G T7 (mkF m 53 #[rv a1, iv (Int32.ofNat (2 * i + 1)), iv c0] [])
  exact go X7 (v := none) (fun _ => rfl) (fun fs hr => X7.returnOut hx Bd.returns (hb hby d21_53) hr) (by rw [e7]; exact ⟨rfl, N, K, by rw [List.append_assoc] at V_a1; exact V_a1⟩) (by decide) (by decide)
def Q_rmG (Z : State) (a1 : Addr) (k1 : ClassId) (cs : List Int32) (i : Nat) (h0 : Heap) (n0 : Nat) : Option Value → Heap → List Loc → Prop := fun v h L => v = some (.int (cs.getD i 0)) ∧ L = [] ∧ h = h0
set_option maxRecDepth 65536 in
set_option maxHeartbeats 40000000 in
theorem rmG (l : Launch) (Z : State) (a0 : Array Value) (hw : ∀ d ∈ tables_1, d.before a0 Z = true) (ws : List Jvm.Cond) (a1 : Addr) (k1 : ClassId) (cs : List Int32) (i : Nat) (h0 : Heap) (n0 : Nat) (O : Old Z n0 h0) (S_ad : Sta Z Z.heap "java/lang/StringUTF16" "$assertionsDisabled" "Z" (.int (1 : Int32))) (S_hi : Sta Z Z.heap "java/lang/StringUTF16" "HI_BYTE_SHIFT" "I" (.int (0 : Int32))) (S_lo : Sta Z Z.heap "java/lang/StringUTF16" "LO_BYTE_SHIFT" "I" (.int (8 : Int32))) (V_a1 : Arv Z h0 a1 k1 .byte (Int32.ofNat (2 * cs.length)) ((own_u cs).map Value.int) (.int (0 : Int32))) (hi : i < cs.length) (hR : own_R cs) :
    MetFree l (⟨"java/lang/StringUTF16", "getChar", "([BI)C"⟩ : MethodName) (head1 (Jvm.Cond.code (⟨"java/lang/StringUTF16", "getChar", "([BI)C"⟩ : MethodName) jdk_52_method_5_code 2 (some .char) :: ws) ({ frames := 0, cells := 0, slots := 0, locals := 0 } : Room)) (fun a U => a = #[(.ref a1), (.int (Int32.ofNat i))] ∧ Z.Warmed39 U.vm ∧ U.heap = h0) (fun _ _ _ _ _ => True) (fun _ U o U' => ∃ v L, o = .returned v ∧ (Q_rmG Z a1 k1 cs i h0 n0) v U'.heap L ∧ FrameEnd U o U' L ({ frames := 0, cells := 0, slots := 0, locals := 0 } : Room).cells ({ frames := 0, cells := 0, slots := 0, locals := 0 } : Room).slots) := by
  refine MetFree.of_bodySF (plainFor_of_name pn_0) hisR ?_
  intro p e s m args below meth c s₁ Bd hml0 hP hK
  obtain ⟨rfl, hZ, hh⟩ := hP
  have hx := Bd.exec
  have hby := Bd.bytes
  have hml : c.maxLocals = 2 := hml0
  have hown : s.vm.findClass "java/lang/StringUTF16" = some m.cls := findClass_of_methodNamed Bd.named
  have hnm := (name_of_methodNamed Bd.named Bd.method).1
  have hlk := BodyLoose.notSynchronized Bd
  have X0 : Stand p l e ({ frames := 0, cells := 0, slots := 0, locals := 0 } : Room) s m #[(.ref a1), (.int (Int32.ofNat i))] below meth c s₁ [] 0 0 := Stand.of_body Bd
  have e0 : s₁.heap = h0 := by rw [← hh, Bd.state]; rfl
  have N := Fr.nil n0
  obtain ⟨G, hG⟩ : ∃ G : State → JFrame → Prop, G = OwnG p e below s ({ frames := 0, cells := 0, slots := 0, locals := 0 } : Room).cells ({ frames := 0, cells := 0, slots := 0, locals := 0 } : Room).slots (Q_rmG Z a1 k1 cs i h0 n0) := ⟨_, rfl⟩
  have gb : ∀ {T T' : State} {g g' : JFrame}, (∀ t, Steps p.tables e below (T'.setTop g') t → Steps p.tables e below (T.setTop g) t) → G T' g' → G T g := by subst hG; exact fun k h => own_by k h
  have go : ∀ {T : State} {locs : List Loc} {cells slots : Nat} {g : JFrame} {v : Option Value}, Stand p l e ({ frames := 0, cells := 0, slots := 0, locals := 0 } : Room) s m #[(.ref a1), (.int (Int32.ofNat i))] below meth c T locs cells slots → (meth.sig.returnType = none → v = none) → (∀ fs, (∀ (f : JFrame) (acts : List Action), f.method = m → f.locked = none → f.entered = [] → (doReturn e (T.setTop f) acts v).1 = T.setFrames fs) → Steps p.tables e below (T.setTop g) (T.setFrames fs)) → (Q_rmG Z a1 k1 cs i h0 n0) v T.heap locs → cells ≤ ({ frames := 0, cells := 0, slots := 0, locals := 0 } : Room).cells → slots ≤ ({ frames := 0, cells := 0, slots := 0, locals := 0 } : Room).slots → G T g := by subst hG; exact fun X h1 h2 h3 h4 h5 => own_out X hlk h1 h2 h3 h4 h5
  show OwnG p e below s ({ frames := 0, cells := 0, slots := 0, locals := 0 } : Room).cells ({ frames := 0, cells := 0, slots := 0, locals := 0 } : Room).slots (Q_rmG Z a1 k1 cs i h0 n0) s₁ (entryFrame m #[(.ref a1), (.int (Int32.ofNat i))] 2)
  rw [← hG, ef_rmG m a1 (Int32.ofNat i)]
  clear hG
  show G s₁ (mkF m 0 #[.val (.ref a1), .val (.int (Int32.ofNat i))] [])
  have hr6 := hR.1
  obtain ⟨T1, X1, e1, st1⟩ := getS2 X0 hx hZ hown (host := "") (Or.inl (ow hw 99 rfl)) Via.refl e0 (S_ad.ext O.2) (g := (mkF m 0 #[rv a1, iv (Int32.ofNat i)] [])) rfl (hb hby d22_0)
  refine gb st1 ?_
  show G T1 (mkF m 3 #[rv a1, iv (Int32.ofNat i)] [.int 1])
  refine gb (fun _ k => XS.ifYes X1.here hx rfl (pc0 := 3) (pc' := 28) rfl (hb hby d22_3) rfl ((if0 _ _).trans (feq (by decide : ¬ ((1 : Int32) = (0 : Int32)))).2) (by decide) (by decide) (XS.iloadN X1.here hx rfl (hb hby d22_28) rfl (XS.iconst X1.here hx rfl (hb hby d22_29) (XS.ishl X1.here hx rfl (hb hby d22_30) rfl k)))) ?_
  show G T1 (mkF m 31 #[rv a1, iv (Int32.ofNat i)] [.int ((Int32.ofNat i) <<< ((1 : Int32) &&& 31))])
  rw [own_shl (i := i) (by omega)]
  show G T1 (mkF m 31 #[rv a1, iv (Int32.ofNat i)] [.int (Int32.ofNat (2 * i))])
  refine gb (fun _ k => XS.istoreN X1.here hx rfl (hb hby d22_31) rfl (l' := #[rv a1, iv (Int32.ofNat (2 * i))]) rfl (XS.aloadN X1.here hx rfl (hb hby d22_32) rfl rfl (XS.iloadN X1.here hx rfl (hb hby d22_33) rfl (XS.iinc X1.here hx rfl (hb hby d22_34) rfl (l' := #[rv a1, iv ((Int32.ofNat (2 * i)) + (1 : Int32))]) rfl k)))) ?_
  show G T1 (mkF m 37 #[rv a1, iv ((Int32.ofNat (2 * i)) + (1 : Int32))] [.int (Int32.ofNat (2 * i)), .ref a1])
  rw [own_succ32]
  show G T1 (mkF m 37 #[rv a1, iv (Int32.ofNat (2 * i + 1))] [.int (Int32.ofNat (2 * i)), .ref a1])
  have V'2 := V_a1
  obtain ⟨cl2, Ar2, qk2, sz2, nn2, hs2, ft2⟩ := V'2
  have hin2 : ¬ ((Int32.ofNat (2 * i)) < 0 ∨ cl2.slots.size ≤ ((Int32.ofNat (2 * i))).toNatClampNeg) := inb_of sz2 (own_in (i := (2 * i)) (n := (2 * cs.length)) (by omega) (by omega))
  have hat2 : cl2.slots[((Int32.ofNat (2 * i))).toNatClampNeg]? = some (.int (own_lo (cs.getD i 0))) := hs2.at hin2 (by rw [own_tn (n := (2 * i)) (by omega), own_getD]; exact congrArg Value.int (own_u_lo cs i hi))
  refine gb (X1.baloadBytes hx (j := (Int32.ofNat (2 * i))) (v := (.int (own_lo (cs.getD i 0)))) (by rw [e1]; exact Ar2.1) (State.isArrayOf_alike hZ.alike Ar2.2.1) Ar2.2.2 hin2 hat2 (g := (mkF m 37 #[rv a1, iv (Int32.ofNat (2 * i + 1))] [.int (Int32.ofNat (2 * i)), .ref a1])) rfl rfl (hb hby d22_37)) ?_
  show G T1 (mkF m 38 #[rv a1, iv (Int32.ofNat (2 * i + 1))] [.int (own_lo (cs.getD i 0))])
  refine gb (fun _ k => XS.sipush X1.here hx rfl (hb hby d22_38) (XS.iand X1.here hx rfl (hb hby d22_41) rfl k)) ?_
  show G T1 (mkF m 42 #[rv a1, iv (Int32.ofNat (2 * i + 1))] [.int ((own_lo (cs.getD i 0)) &&& (255 : Int32))])
  obtain ⟨T3, X3, e3, st3⟩ := getS2 X1 hx hZ hown (host := "") (Or.inl (ow hw 100 rfl)) Via.refl e1 (S_hi.ext O.2) (g := (mkF m 42 #[rv a1, iv (Int32.ofNat (2 * i + 1))] [.int ((own_lo (cs.getD i 0)) &&& (255 : Int32))])) rfl (hb hby d22_42)
  refine gb st3 ?_
  show G T3 (mkF m 45 #[rv a1, iv (Int32.ofNat (2 * i + 1))] [.int 0, .int ((own_lo (cs.getD i 0)) &&& (255 : Int32))])
  refine gb (fun _ k => XS.ishl X3.here hx rfl (hb hby d22_45) rfl (XS.aloadN X3.here hx rfl (hb hby d22_46) rfl rfl (XS.iloadN X3.here hx rfl (hb hby d22_47) rfl k))) ?_
  show G T3 (mkF m 48 #[rv a1, iv (Int32.ofNat (2 * i + 1))] [.int (Int32.ofNat (2 * i + 1)), .ref a1, .int (((own_lo (cs.getD i 0)) &&& (255 : Int32)) <<< ((0 : Int32) &&& 31))])
  have V'4 := V_a1
  obtain ⟨cl4, Ar4, qk4, sz4, nn4, hs4, ft4⟩ := V'4
  have hin4 : ¬ ((Int32.ofNat (2 * i + 1)) < 0 ∨ cl4.slots.size ≤ ((Int32.ofNat (2 * i + 1))).toNatClampNeg) := inb_of sz4 (own_in (i := (2 * i + 1)) (n := (2 * cs.length)) (by omega) (by omega))
  have hat4 : cl4.slots[((Int32.ofNat (2 * i + 1))).toNatClampNeg]? = some (.int (own_hi (cs.getD i 0))) := hs4.at hin4 (by rw [own_tn (n := (2 * i + 1)) (by omega), own_getD]; exact congrArg Value.int (own_u_hi cs i hi))
  refine gb (X3.baloadBytes hx (j := (Int32.ofNat (2 * i + 1))) (v := (.int (own_hi (cs.getD i 0)))) (by rw [e3]; exact Ar4.1) (State.isArrayOf_alike hZ.alike Ar4.2.1) Ar4.2.2 hin4 hat4 (g := (mkF m 48 #[rv a1, iv (Int32.ofNat (2 * i + 1))] [.int (Int32.ofNat (2 * i + 1)), .ref a1, .int (((own_lo (cs.getD i 0)) &&& (255 : Int32)) <<< ((0 : Int32) &&& 31))])) rfl rfl (hb hby d22_48)) ?_
  show G T3 (mkF m 49 #[rv a1, iv (Int32.ofNat (2 * i + 1))] [.int (own_hi (cs.getD i 0)), .int (((own_lo (cs.getD i 0)) &&& (255 : Int32)) <<< ((0 : Int32) &&& 31))])
  refine gb (fun _ k => XS.sipush X3.here hx rfl (hb hby d22_49) (XS.iand X3.here hx rfl (hb hby d22_52) rfl k)) ?_
  show G T3 (mkF m 53 #[rv a1, iv (Int32.ofNat (2 * i + 1))] [.int ((own_hi (cs.getD i 0)) &&& (255 : Int32)), .int (((own_lo (cs.getD i 0)) &&& (255 : Int32)) <<< ((0 : Int32) &&& 31))])
  obtain ⟨T5, X5, e5, st5⟩ := getS2 X3 hx hZ hown (host := "") (Or.inl (ow hw 101 rfl)) Via.refl e3 (S_lo.ext O.2) (g := (mkF m 53 #[rv a1, iv (Int32.ofNat (2 * i + 1))] [.int ((own_hi (cs.getD i 0)) &&& (255 : Int32)), .int (((own_lo (cs.getD i 0)) &&& (255 : Int32)) <<< ((0 : Int32) &&& 31))])) rfl (hb hby d22_53)
  refine gb st5 ?_
  show G T5 (mkF m 56 #[rv a1, iv (Int32.ofNat (2 * i + 1))] [.int 8, .int ((own_hi (cs.getD i 0)) &&& (255 : Int32)), .int (((own_lo (cs.getD i 0)) &&& (255 : Int32)) <<< ((0 : Int32) &&& 31))])
  refine gb (fun _ k => XS.ishl X5.here hx rfl (hb hby d22_56) rfl (XS.ior X5.here hx rfl (hb hby d22_57) rfl (XS.i2c X5.here hx rfl (hb hby d22_58) rfl k))) ?_
  show G T5 (mkF m 59 #[rv a1, iv (Int32.ofNat (2 * i + 1))] [.int (((((own_lo (cs.getD i 0)) &&& (255 : Int32)) <<< ((0 : Int32) &&& 31)) ||| (((own_hi (cs.getD i 0)) &&& (255 : Int32)) <<< ((8 : Int32) &&& 31))).toUInt32.toUInt16.toUInt32.toInt32)])
  rw [own_gc (own_rng hR hi)]
  show G T5 (mkF m 59 #[rv a1, iv (Int32.ofNat (2 * i + 1))] [.int (cs.getD i 0)])
  exact go X5 (v := (some (.int (cs.getD i 0)))) (fun h => by rw [Bd.returns] at h; cases h) (fun fs hr => retOut X5 hx Bd.returns (show narrow .char (.int (cs.getD i 0)) = .int (cs.getD i 0) from congrArg Value.int (own_nc16 (own_rng hR hi))) (Or.inl ⟨rfl, by simp, _, rfl⟩) (hb hby d22_59) hr) (⟨rfl, rfl, e5⟩) (by decide) (by decide)
def Q_rmTB (Z : State) (a1 : Addr) (k1 : ClassId) (cs : List Int32) (h0 : Heap) (n0 : Nat) : Option Value → Heap → List Loc → Prop := fun v h L => ∃ (b : Addr) (kb : ClassId), v = some (.ref b) ∧ Fr n0 L ∧ Keep h0 h [] ∧ n0 ≤ b ∧ h0.size ≤ b ∧ Arv Z h b kb .byte (Int32.ofNat (2 * cs.length)) ((own_u cs).map Value.int) (.int (0 : Int32))
set_option maxRecDepth 65536 in
set_option maxHeartbeats 40000000 in
theorem rmTB (l : Launch) (Z : State) (a0 : Array Value) (hw : ∀ d ∈ tables_1, d.before a0 Z = true) (ws : List Jvm.Cond) (a1 : Addr) (k1 : ClassId) (cs : List Int32) (h0 : Heap) (n0 : Nat) (O : Old Z n0 h0) (S_ad : Sta Z Z.heap "java/lang/StringUTF16" "$assertionsDisabled" "Z" (.int (1 : Int32))) (S_hi : Sta Z Z.heap "java/lang/StringUTF16" "HI_BYTE_SHIFT" "I" (.int (0 : Int32))) (S_lo : Sta Z Z.heap "java/lang/StringUTF16" "LO_BYTE_SHIFT" "I" (.int (8 : Int32))) (V_a1 : Arv Z h0 a1 k1 .char (Int32.ofNat cs.length) (cs.map Value.int) (.int (0 : Int32))) (hR : own_R cs) :
    MetFree l (⟨"java/lang/StringUTF16", "toBytes", "([CII)[B"⟩ : MethodName) (head1 (Jvm.Cond.code (⟨"java/lang/StringUTF16", "toBytes", "([CII)[B"⟩ : MethodName) jdk_52_method_14_code 5 (some (.array .byte)) :: ws) ({ frames := 2, cells := 1, slots := 12, locals := 24 } : Room)) (fun a U => a = #[(.ref a1), (.int (0 : Int32)), (.int (Int32.ofNat cs.length))] ∧ Z.Warmed39 U.vm ∧ U.heap = h0) (fun _ _ _ _ _ => True) (fun _ U o U' => ∃ v L, o = .returned v ∧ (Q_rmTB Z a1 k1 cs h0 n0) v U'.heap L ∧ FrameEnd U o U' L ({ frames := 2, cells := 1, slots := 12, locals := 24 } : Room).cells ({ frames := 2, cells := 1, slots := 12, locals := 24 } : Room).slots) := by
  refine MetFree.of_bodySF (plainFor_of_name pn_0) hisR ?_
  intro p e s m args below meth c s₁ Bd hml0 hP hK
  obtain ⟨rfl, hZ, hh⟩ := hP
  have hx := Bd.exec
  have hby := Bd.bytes
  have hml : c.maxLocals = 5 := hml0
  have hown : s.vm.findClass "java/lang/StringUTF16" = some m.cls := findClass_of_methodNamed Bd.named
  have hnm := (name_of_methodNamed Bd.named Bd.method).1
  have hlk := BodyLoose.notSynchronized Bd
  have X0 : Stand p l e ({ frames := 2, cells := 1, slots := 12, locals := 24 } : Room) s m #[(.ref a1), (.int (0 : Int32)), (.int (Int32.ofNat cs.length))] below meth c s₁ [] 0 0 := Stand.of_body Bd
  have e0 : s₁.heap = h0 := by rw [← hh, Bd.state]; rfl
  have N := Fr.nil n0
  have K := Keep.refl h0 []
  obtain ⟨G, hG⟩ : ∃ G : State → JFrame → Prop, G = OwnG p e below s ({ frames := 2, cells := 1, slots := 12, locals := 24 } : Room).cells ({ frames := 2, cells := 1, slots := 12, locals := 24 } : Room).slots (Q_rmTB Z a1 k1 cs h0 n0) := ⟨_, rfl⟩
  have gb : ∀ {T T' : State} {g g' : JFrame}, (∀ t, Steps p.tables e below (T'.setTop g') t → Steps p.tables e below (T.setTop g) t) → G T' g' → G T g := by subst hG; exact fun k h => own_by k h
  have go : ∀ {T : State} {locs : List Loc} {cells slots : Nat} {g : JFrame} {v : Option Value}, Stand p l e ({ frames := 2, cells := 1, slots := 12, locals := 24 } : Room) s m #[(.ref a1), (.int (0 : Int32)), (.int (Int32.ofNat cs.length))] below meth c T locs cells slots → (meth.sig.returnType = none → v = none) → (∀ fs, (∀ (f : JFrame) (acts : List Action), f.method = m → f.locked = none → f.entered = [] → (doReturn e (T.setTop f) acts v).1 = T.setFrames fs) → Steps p.tables e below (T.setTop g) (T.setFrames fs)) → (Q_rmTB Z a1 k1 cs h0 n0) v T.heap locs → cells ≤ ({ frames := 2, cells := 1, slots := 12, locals := 24 } : Room).cells → slots ≤ ({ frames := 2, cells := 1, slots := 12, locals := 24 } : Room).slots → G T g := by subst hG; exact fun X h1 h2 h3 h4 h5 => own_out X hlk h1 h2 h3 h4 h5
  show OwnG p e below s ({ frames := 2, cells := 1, slots := 12, locals := 24 } : Room).cells ({ frames := 2, cells := 1, slots := 12, locals := 24 } : Room).slots (Q_rmTB Z a1 k1 cs h0 n0) s₁ (entryFrame m #[(.ref a1), (.int (0 : Int32)), (.int (Int32.ofNat cs.length))] 5)
  rw [← hG, ef_rmTB m a1 (0 : Int32) (Int32.ofNat cs.length)]
  clear hG
  show G s₁ (mkF m 0 #[.val (.ref a1), .val (.int (0 : Int32)), .val (.int (Int32.ofNat cs.length)), .unset, .unset] [])
  have hr6 := hR.1
  refine gb (fun _ k => XS.iloadN X0.here hx rfl (hb hby d18_0) rfl k) ?_
  show G s₁ (mkF m 1 #[rv a1, iv 0, iv (Int32.ofNat cs.length), .unset, .unset] [.int (Int32.ofNat cs.length)])
  have lt_a1 := V_a1.lt
  have szK := K.1
  obtain ⟨_, _, ⟨T1, Lz1, kz1, nz1⟩, -, X1, ⟨Lc1, hQ1, lq1, yq1, zq1⟩, st1⟩ := Jvm.LawKit.callS X0 hx (y := (⟨"java/lang/StringUTF16", "newBytesFor", "(I)[B"⟩ : MethodName)) hown (mvT hZ (ow hw 89 rfl)) (mvT hZ (ow hw 90 rfl)) (mvT hZ (ow hw 81 rfl)) (mvT hZ (ow hw 91 rfl)) (by decide) (backOf (W := 0) (rmNF l Z a0 hw [] cs.length h0 n0 O hr6) hZ (ow hw 91 rfl) (ow hw 81 rfl) (by decide) (by decide)) (g := (mkF m 1 #[rv a1, iv 0, iv (Int32.ofNat cs.length), .unset, .unset] [.int (Int32.ofNat cs.length)])) rfl (by rw [hml]; rfl) (argsL := [(.int (Int32.ofNat cs.length))]) (rest := []) (lenOf pd_1 rfl) rfl (by show 2 * 0 + _ ≤ _; exact Nat.le_of_eq rfl) (hb hby d18_1) (fun _ _ => ⟨rfl, e0, (by decide : 0 + 1 ≤ _), (by decide : 0 + 12 ≤ _)⟩)
  dsimp only [Pt.U, Pt.locs, Pt.cells, Pt.slots] at X1 lq1 yq1 zq1 st1 hQ1
  subst lq1 yq1 zq1
  obtain ⟨h1, e1⟩ : ∃ z, z = T1.heap := ⟨_, rfl⟩
  rw [← e1] at hQ1
  replace e1 := e1.symm
  obtain ⟨b1, kb1, rfl, Nq1, Kq1, hR1⟩ := hQ1
  have N := Fr.app N Nq1
  have V_a1 := V_a1.keep Kq1 nin0
  obtain ⟨g_b1, sz_b1, V_b1⟩ := hR1
  have O := O.keep Kq1 all0
  have K := K.trans Kq1 all0
  have ne_a1_b1 : a1 ≠ b1 := Nat.ne_of_lt (Nat.lt_of_lt_of_le lt_a1 sz_b1)
  have sz_b1 := Nat.le_trans szK sz_b1
  refine gb st1 ?_
  show G T1 (mkF m 4 #[rv a1, iv 0, iv (Int32.ofNat cs.length), .unset, .unset] [.ref b1])
  refine gb (fun _ k => XS.astoreN X1.here hx rfl (hb hby d18_4) rfl rfl (l' := #[rv a1, iv 0, iv (Int32.ofNat cs.length), rv b1, .unset]) rfl (XS.iconst X1.here hx rfl (hb hby d18_5) (XS.istore X1.here hx rfl (hb hby d18_6) rfl (l' := #[rv a1, iv 0, iv (Int32.ofNat cs.length), rv b1, iv 0]) rfl k))) ?_
  show G T1 (mkF m 8 #[rv a1, iv 0, iv (Int32.ofNat cs.length), rv b1, iv 0] [])
  have LP : ∀ (k i : Nat) (Tq : State) (Lq : List Loc) (hq : Heap) (Xq : Stand p l e ({ frames := 2, cells := 1, slots := 12, locals := 24 } : Room) s m #[(.ref a1), (.int (0 : Int32)), (.int (Int32.ofNat cs.length))] below meth c Tq Lq 1 12) (N : Fr n0 Lq) (eq_ : Tq.heap = hq) (O : Old Z n0 hq) (K : Keep h0 hq []) (V_a1 : Arv Z hq a1 k1 .char (Int32.ofNat cs.length) (cs.map Value.int) (.int (0 : Int32))) (V_b1 : Arv Z hq b1 kb1 .byte (Int32.ofNat (2 * cs.length)) ((own_u (cs.take i)).map Value.int) (.int (0 : Int32)))  (hik : i + k = cs.length) , G Tq (mkF m 8 #[rv a1, iv (Int32.ofNat i), iv (Int32.ofNat cs.length), rv b1, iv (Int32.ofNat i)] []) := by
    intro k
    induction k with
    | zero =>
      intro i Tq Lq hq Xq N eq_ O K V_a1 V_b1  hik 
      show G Tq (mkF m 8 #[rv a1, iv (Int32.ofNat i), iv (Int32.ofNat cs.length), rv b1, iv (Int32.ofNat i)] [])
      refine gb (fun _ k => XS.iload Xq.here hx rfl (hb hby d18_8) rfl (XS.iloadN Xq.here hx rfl (hb hby d18_10) rfl (XS.icmpYes Xq.here hx rfl (pc0 := 11) (pc' := 32) rfl (hb hby d18_11) rfl (flt (own_nlt (by omega) (by omega))).2.1 (by decide) (by decide) (XS.aloadN Xq.here hx rfl (hb hby d18_32) rfl rfl k)))) ?_
      show G Tq (mkF m 33 #[rv a1, iv (Int32.ofNat i), iv (Int32.ofNat cs.length), rv b1, iv (Int32.ofNat i)] [.ref b1])
      exact go Xq (v := (some (.ref b1))) (fun h => by rw [Bd.returns] at h; cases h) (fun fs hr => retOut Xq hx Bd.returns rfl (Or.inr (Or.inr (Or.inr (Or.inr ⟨rfl, rfl, rfl⟩)))) (hb hby d18_33) hr) (by rw [eq_]; exact ⟨_, _, rfl, N, K, g_b1, sz_b1, by rw [show i = cs.length from by omega, List.take_length] at V_b1; exact V_b1⟩) (by decide) (by decide)
    | succ k ih =>
      intro i Tq Lq hq Xq N eq_ O K V_a1 V_b1  hik 
      show G Tq (mkF m 8 #[rv a1, iv (Int32.ofNat i), iv (Int32.ofNat cs.length), rv b1, iv (Int32.ofNat i)] [])
      refine gb (fun _ k => XS.iload Xq.here hx rfl (hb hby d18_8) rfl (XS.iloadN Xq.here hx rfl (hb hby d18_10) rfl (XS.icmpNo Xq.here hx rfl (hb hby d18_11) rfl (tlt (own_in (by omega) (by omega)).2).2.1 (XS.aloadN Xq.here hx rfl (hb hby d18_14) rfl rfl (XS.iload Xq.here hx rfl (hb hby d18_15) rfl (XS.aloadN Xq.here hx rfl (hb hby d18_17) rfl rfl k)))))) ?_
      show G Tq (mkF m 18 #[rv a1, iv (Int32.ofNat i), iv (Int32.ofNat cs.length), rv b1, iv (Int32.ofNat i)] [.ref a1, .int (Int32.ofNat i), .ref b1])
      refine gb (fun _ k => XS.iloadN Xq.here hx rfl (hb hby d18_18) rfl k) ?_
      show G Tq (mkF m 19 #[rv a1, iv (Int32.ofNat i), iv (Int32.ofNat cs.length), rv b1, iv (Int32.ofNat i)] [.int (Int32.ofNat i), .ref a1, .int (Int32.ofNat i), .ref b1])
      have V'2 := V_a1
      obtain ⟨cl2, Ar2, qk2, sz2, nn2, hs2, ft2⟩ := V'2
      have hin2 : ¬ ((Int32.ofNat i) < 0 ∨ cl2.slots.size ≤ ((Int32.ofNat i)).toNatClampNeg) := inb_of sz2 (own_in (i := i) (n := cs.length) (by omega) (by omega))
      have hat2 : cl2.slots[((Int32.ofNat i)).toNatClampNeg]? = some (.int (cs.getD i 0)) := hs2.at hin2 (by rw [own_tn (n := i) (by omega), own_getD])
      refine gb (Xq.caload hx (j := (Int32.ofNat i)) (v := (.int (cs.getD i 0))) (by rw [eq_]; exact Ar2.1) (State.isArrayOf_alike hZ.alike Ar2.2.1) Ar2.2.2 hin2 hat2 (g := (mkF m 19 #[rv a1, iv (Int32.ofNat i), iv (Int32.ofNat cs.length), rv b1, iv (Int32.ofNat i)] [.int (Int32.ofNat i), .ref a1, .int (Int32.ofNat i), .ref b1])) rfl rfl (hb hby d18_19)) ?_
      show G Tq (mkF m 20 #[rv a1, iv (Int32.ofNat i), iv (Int32.ofNat cs.length), rv b1, iv (Int32.ofNat i)] [.int (cs.getD i 0), .int (Int32.ofNat i), .ref b1])
      obtain ⟨_, _, ⟨T3, Lz3, kz3, nz3⟩, -, X3, ⟨Lc3, hQ3, lq3, yq3, zq3⟩, st3⟩ := Jvm.LawKit.callS Xq hx (y := (⟨"java/lang/StringUTF16", "putChar", "([BII)V"⟩ : MethodName)) hown (mvT hZ (ow hw 96 rfl)) (mvT hZ (ow hw 97 rfl)) (mvT hZ (ow hw 81 rfl)) (mvT hZ (ow hw 98 rfl)) (by decide) (backOf (W := 0) (rmPU l Z a0 hw [] b1 kb1 (own_u (cs.take i)) cs.length i (cs.getD i 0) hq n0 O S_ad S_hi S_lo V_b1 (by rw [own_u_len, List.length_take]; omega) (by omega) hr6 g_b1) hZ (ow hw 98 rfl) (ow hw 81 rfl) (by decide) (by decide)) (g := (mkF m 20 #[rv a1, iv (Int32.ofNat i), iv (Int32.ofNat cs.length), rv b1, iv (Int32.ofNat i)] [.int (cs.getD i 0), .int (Int32.ofNat i), .ref b1])) rfl (by rw [hml]; rfl) (argsL := [(.ref b1), (.int (Int32.ofNat i)), (.int (cs.getD i 0))]) (rest := []) (lenOf pd_2 rfl) rfl (by show 2 * 0 + _ ≤ _; exact Nat.le_of_eq rfl) (hb hby d18_20) (fun _ _ => ⟨rfl, eq_, (by decide : 1 + 0 ≤ _), (by decide : 12 + 0 ≤ _)⟩)
      dsimp only [Pt.U, Pt.locs, Pt.cells, Pt.slots] at X3 lq3 yq3 zq3 st3 hQ3
      subst lq3 yq3 zq3
      obtain ⟨h3, e3⟩ : ∃ z, z = T3.heap := ⟨_, rfl⟩
      rw [← e3] at hQ3
      replace e3 := e3.symm
      obtain ⟨rfl, Nq3, Kq3, hR3⟩ := hQ3
      have N := Fr.app N Nq3
      have V_a1 := V_a1.keep Kq3 (ninS ne_a1_b1 nin0)
      have V_b1 := hR3
      have O := O.keep Kq3 (allS g_b1 all0)
      have K := K.trans Kq3 (allS (Or.inr sz_b1) all0)
      rw [own_u1 (by omega)] at V_b1
      refine gb st3 ?_
      show G T3 (mkF m 23 #[rv a1, iv (Int32.ofNat i), iv (Int32.ofNat cs.length), rv b1, iv (Int32.ofNat i)] [])
      refine gb (fun _ k => XS.iinc X3.here hx rfl (hb hby d18_23) rfl (l' := #[rv a1, iv ((Int32.ofNat i) + (1 : Int32)), iv (Int32.ofNat cs.length), rv b1, iv (Int32.ofNat i)]) rfl (XS.iinc X3.here hx rfl (hb hby d18_26) rfl (l' := #[rv a1, iv ((Int32.ofNat i) + (1 : Int32)), iv (Int32.ofNat cs.length), rv b1, iv ((Int32.ofNat i) + (1 : Int32))]) rfl k)) ?_
      show G T3 (mkF m 29 #[rv a1, iv ((Int32.ofNat i) + (1 : Int32)), iv (Int32.ofNat cs.length), rv b1, iv ((Int32.ofNat i) + (1 : Int32))] [])
      rw [own_succ32]
      show G T3 (mkF m 29 #[rv a1, iv (Int32.ofNat (i + 1)), iv (Int32.ofNat cs.length), rv b1, iv (Int32.ofNat (i + 1))] [])
      refine gb (fun _ k => XS.goto X3.here hx rfl (pc0 := 29) (pc' := 8) rfl (hb hby d18_29) (by decide) (by decide) k) ?_
      show G T3 (mkF m 8 #[rv a1, iv (Int32.ofNat (i + 1)), iv (Int32.ofNat cs.length), rv b1, iv (Int32.ofNat (i + 1))] [])
      exact ih (i + 1) _ _ _ X3 N e3 O K V_a1 V_b1  (by omega) 
  exact LP cs.length 0 _ _ _ X1 N e1 O K V_a1 V_b1  (Nat.zero_add _) 
def Q_rmC2 (Z : State) (a1 a2 : Addr) (k1 k2 : ClassId) (cs : List Int32) (h0 : Heap) (n0 : Nat) : Option Value → Heap → List Loc → Prop := fun v h L => v = some (.int (Int32.ofNat (own_kk cs))) ∧ Fr n0 L ∧ Keep h0 h [a2] ∧ Arv Z h a2 k2 .byte (Int32.ofNat cs.length) (((cs.take (own_kk cs)).map own_lb).map Value.int) (.int (0 : Int32))
set_option maxRecDepth 65536 in
set_option maxHeartbeats 40000000 in
theorem rmC2 (l : Launch) (Z : State) (a0 : Array Value) (hw : ∀ d ∈ tables_1, d.before a0 Z = true) (ws : List Jvm.Cond) (a1 a2 : Addr) (k1 k2 : ClassId) (cs : List Int32) (h0 : Heap) (n0 : Nat) (O : Old Z n0 h0) (V_a1 : Arv Z h0 a1 k1 .char (Int32.ofNat cs.length) (cs.map Value.int) (.int (0 : Int32))) (V_a2 : Arv Z h0 a2 k2 .byte (Int32.ofNat cs.length) (([] : List Int32).map Value.int) (.int (0 : Int32))) (g_a2 : n0 ≤ a2) (ne_a1_a2 : a1 ≠ a2) (hR : own_R cs) :
    MetFree l (⟨"java/lang/StringUTF16", "compress", "([CI[BII)I"⟩ : MethodName) (head1 (Jvm.Cond.code (⟨"java/lang/StringUTF16", "compress", "([CI[BII)I"⟩ : MethodName) jdk_52_method_21_code 7 (some .int) :: ws) ({ frames := 0, cells := 0, slots := 0, locals := 0 } : Room)) (fun a U => a = #[(.ref a1), (.int (0 : Int32)), (.ref a2), (.int (0 : Int32)), (.int (Int32.ofNat cs.length))] ∧ Z.Warmed39 U.vm ∧ U.heap = h0) (fun _ _ _ _ _ => True) (fun _ U o U' => ∃ v L, o = .returned v ∧ (Q_rmC2 Z a1 a2 k1 k2 cs h0 n0) v U'.heap L ∧ FrameEnd U o U' L ({ frames := 0, cells := 0, slots := 0, locals := 0 } : Room).cells ({ frames := 0, cells := 0, slots := 0, locals := 0 } : Room).slots) := by
  refine MetFree.of_bodySF (plainFor_of_name pn_0) hisR ?_
  intro p e s m args below meth c s₁ Bd hml0 hP hK
  obtain ⟨rfl, hZ, hh⟩ := hP
  have hx := Bd.exec
  have hby := Bd.bytes
  have hml : c.maxLocals = 7 := hml0
  have hown : s.vm.findClass "java/lang/StringUTF16" = some m.cls := findClass_of_methodNamed Bd.named
  have hnm := (name_of_methodNamed Bd.named Bd.method).1
  have hlk := BodyLoose.notSynchronized Bd
  have X0 : Stand p l e ({ frames := 0, cells := 0, slots := 0, locals := 0 } : Room) s m #[(.ref a1), (.int (0 : Int32)), (.ref a2), (.int (0 : Int32)), (.int (Int32.ofNat cs.length))] below meth c s₁ [] 0 0 := Stand.of_body Bd
  have e0 : s₁.heap = h0 := by rw [← hh, Bd.state]; rfl
  have N := Fr.nil n0
  have K := Keep.refl h0 [a2]
  obtain ⟨G, hG⟩ : ∃ G : State → JFrame → Prop, G = OwnG p e below s ({ frames := 0, cells := 0, slots := 0, locals := 0 } : Room).cells ({ frames := 0, cells := 0, slots := 0, locals := 0 } : Room).slots (Q_rmC2 Z a1 a2 k1 k2 cs h0 n0) := ⟨_, rfl⟩
  have gb : ∀ {T T' : State} {g g' : JFrame}, (∀ t, Steps p.tables e below (T'.setTop g') t → Steps p.tables e below (T.setTop g) t) → G T' g' → G T g := by subst hG; exact fun k h => own_by k h
  have go : ∀ {T : State} {locs : List Loc} {cells slots : Nat} {g : JFrame} {v : Option Value}, Stand p l e ({ frames := 0, cells := 0, slots := 0, locals := 0 } : Room) s m #[(.ref a1), (.int (0 : Int32)), (.ref a2), (.int (0 : Int32)), (.int (Int32.ofNat cs.length))] below meth c T locs cells slots → (meth.sig.returnType = none → v = none) → (∀ fs, (∀ (f : JFrame) (acts : List Action), f.method = m → f.locked = none → f.entered = [] → (doReturn e (T.setTop f) acts v).1 = T.setFrames fs) → Steps p.tables e below (T.setTop g) (T.setFrames fs)) → (Q_rmC2 Z a1 a2 k1 k2 cs h0 n0) v T.heap locs → cells ≤ ({ frames := 0, cells := 0, slots := 0, locals := 0 } : Room).cells → slots ≤ ({ frames := 0, cells := 0, slots := 0, locals := 0 } : Room).slots → G T g := by subst hG; exact fun X h1 h2 h3 h4 h5 => own_out X hlk h1 h2 h3 h4 h5
  show OwnG p e below s ({ frames := 0, cells := 0, slots := 0, locals := 0 } : Room).cells ({ frames := 0, cells := 0, slots := 0, locals := 0 } : Room).slots (Q_rmC2 Z a1 a2 k1 k2 cs h0 n0) s₁ (entryFrame m #[(.ref a1), (.int (0 : Int32)), (.ref a2), (.int (0 : Int32)), (.int (Int32.ofNat cs.length))] 7)
  rw [← hG, ef_rmC2 m a1 (0 : Int32) a2 (0 : Int32) (Int32.ofNat cs.length)]
  clear hG
  show G s₁ (mkF m 0 #[.val (.ref a1), .val (.int (0 : Int32)), .val (.ref a2), .val (.int (0 : Int32)), .val (.int (Int32.ofNat cs.length)), .unset, .unset] [])
  have hr6 := hR.1
  refine gb (fun _ k => XS.iconst X0.here hx rfl (hb hby d17_0) (XS.istore X0.here hx rfl (hb hby d17_1) rfl (l' := #[rv a1, iv 0, rv a2, iv 0, iv (Int32.ofNat cs.length), iv 0, .unset]) rfl k)) ?_
  show G s₁ (mkF m 3 #[rv a1, iv 0, rv a2, iv 0, iv (Int32.ofNat cs.length), iv 0, .unset] [])
  have LP : ∀ (k i : Nat) (Tq : State) (Lq : List Loc) (hq : Heap) (Xq : Stand p l e ({ frames := 0, cells := 0, slots := 0, locals := 0 } : Room) s m #[(.ref a1), (.int (0 : Int32)), (.ref a2), (.int (0 : Int32)), (.int (Int32.ofNat cs.length))] below meth c Tq Lq 0 0) (N : Fr n0 Lq) (eq_ : Tq.heap = hq) (O : Old Z n0 hq) (K : Keep h0 hq [a2]) (V_a1 : Arv Z hq a1 k1 .char (Int32.ofNat cs.length) (cs.map Value.int) (.int (0 : Int32))) (V_a2 : Arv Z hq a2 k2 .byte (Int32.ofNat cs.length) (((cs.take i).map own_lb).map Value.int) (.int (0 : Int32))) (s6 : Slot) (h_s6 : s6 = .unset ∨ ∃ x : Int32, s6 = iv x) (hik : i + k = cs.length) (hp : ∀ j, j < i → ¬ (255 : Int32) < cs.getD j 0), G Tq (mkF m 3 #[rv a1, iv (Int32.ofNat i), rv a2, iv (Int32.ofNat i), iv (Int32.ofNat cs.length), iv (Int32.ofNat i), s6] []) := by
    intro k
    induction k with
    | zero =>
      intro i Tq Lq hq Xq N eq_ O K V_a1 V_a2 s6 h_s6 hik hp
      show G Tq (mkF m 3 #[rv a1, iv (Int32.ofNat i), rv a2, iv (Int32.ofNat i), iv (Int32.ofNat cs.length), iv (Int32.ofNat i), s6] [])
      refine gb (fun _ k => XS.iload Xq.here hx rfl (hb hby d17_3) rfl (XS.iload Xq.here hx rfl (hb hby d17_5) rfl (XS.icmpYes Xq.here hx rfl (pc0 := 7) (pc' := 44) rfl (hb hby d17_7) rfl (flt (own_nlt (by omega) (by omega))).2.1 (by decide) (by decide) (XS.iload Xq.here hx rfl (hb hby d17_44) rfl k)))) ?_
      show G Tq (mkF m 46 #[rv a1, iv (Int32.ofNat i), rv a2, iv (Int32.ofNat i), iv (Int32.ofNat cs.length), iv (Int32.ofNat i), s6] [.int (Int32.ofNat cs.length)])
      exact go Xq (v := (some (.int (Int32.ofNat cs.length)))) (fun h => by rw [Bd.returns] at h; cases h) (fun fs hr => retOut Xq hx Bd.returns rfl (Or.inl ⟨rfl, by simp, _, rfl⟩) (hb hby d17_46) hr) (by rw [eq_]; have q := (show own_kk cs = i from (by rw [own_kk_all cs (fun j hj => hp j (by omega))]; omega)); rw [Q_rmC2, q]; exact ⟨by rw [show cs.length = i from by omega], N, K, V_a2⟩) (by decide) (by decide)
    | succ k ih =>
      intro i Tq Lq hq Xq N eq_ O K V_a1 V_a2 s6 h_s6 hik hp
      rcases h_s6 with rfl | ⟨x_s6, rfl⟩
      · skip
        show G Tq (mkF m 3 #[rv a1, iv (Int32.ofNat i), rv a2, iv (Int32.ofNat i), iv (Int32.ofNat cs.length), iv (Int32.ofNat i), .unset] [])
        refine gb (fun _ k => XS.iload Xq.here hx rfl (hb hby d17_3) rfl (XS.iload Xq.here hx rfl (hb hby d17_5) rfl (XS.icmpNo Xq.here hx rfl (hb hby d17_7) rfl (tlt (own_in (by omega) (by omega)).2).2.1 (XS.aloadN Xq.here hx rfl (hb hby d17_10) rfl rfl (XS.iloadN Xq.here hx rfl (hb hby d17_11) rfl k))))) ?_
        show G Tq (mkF m 12 #[rv a1, iv (Int32.ofNat i), rv a2, iv (Int32.ofNat i), iv (Int32.ofNat cs.length), iv (Int32.ofNat i), .unset] [.int (Int32.ofNat i), .ref a1])
        have V'1 := V_a1
        obtain ⟨cl1, Ar1, qk1, sz1, nn1, hs1, ft1⟩ := V'1
        have hin1 : ¬ ((Int32.ofNat i) < 0 ∨ cl1.slots.size ≤ ((Int32.ofNat i)).toNatClampNeg) := inb_of sz1 (own_in (i := i) (n := cs.length) (by omega) (by omega))
        have hat1 : cl1.slots[((Int32.ofNat i)).toNatClampNeg]? = some (.int (cs.getD i 0)) := hs1.at hin1 (by rw [own_tn (n := i) (by omega), own_getD])
        refine gb (Xq.caload hx (j := (Int32.ofNat i)) (v := (.int (cs.getD i 0))) (by rw [eq_]; exact Ar1.1) (State.isArrayOf_alike hZ.alike Ar1.2.1) Ar1.2.2 hin1 hat1 (g := (mkF m 12 #[rv a1, iv (Int32.ofNat i), rv a2, iv (Int32.ofNat i), iv (Int32.ofNat cs.length), iv (Int32.ofNat i), .unset] [.int (Int32.ofNat i), .ref a1])) rfl rfl (hb hby d17_12)) ?_
        show G Tq (mkF m 13 #[rv a1, iv (Int32.ofNat i), rv a2, iv (Int32.ofNat i), iv (Int32.ofNat cs.length), iv (Int32.ofNat i), .unset] [.int (cs.getD i 0)])
        refine gb (fun _ k => XS.istore Xq.here hx rfl (hb hby d17_13) rfl (l' := #[rv a1, iv (Int32.ofNat i), rv a2, iv (Int32.ofNat i), iv (Int32.ofNat cs.length), iv (Int32.ofNat i), iv (cs.getD i 0)]) rfl (XS.iload Xq.here hx rfl (hb hby d17_15) rfl (XS.sipush Xq.here hx rfl (hb hby d17_17) k))) ?_
        show G Tq (mkF m 20 #[rv a1, iv (Int32.ofNat i), rv a2, iv (Int32.ofNat i), iv (Int32.ofNat cs.length), iv (Int32.ofNat i), iv (cs.getD i 0)] [.int 255, .int (cs.getD i 0)])
        by_cases hc20 : (255 : Int32) < (cs.getD i 0)
        · skip
          refine gb (fun _ k => XS.icmpNo Xq.here hx rfl (hb hby d17_20) rfl (tlt hc20).2.2.2 (XS.iload Xq.here hx rfl (hb hby d17_23) rfl k)) ?_
          show G Tq (mkF m 25 #[rv a1, iv (Int32.ofNat i), rv a2, iv (Int32.ofNat i), iv (Int32.ofNat cs.length), iv (Int32.ofNat i), iv (cs.getD i 0)] [.int (Int32.ofNat i)])
          exact go Xq (v := (some (.int (Int32.ofNat i)))) (fun h => by rw [Bd.returns] at h; cases h) (fun fs hr => retOut Xq hx Bd.returns rfl (Or.inl ⟨rfl, by simp, _, rfl⟩) (hb hby d17_25) hr) (by rw [eq_]; have q := own_kk_at cs i (by omega) hp hc20; rw [Q_rmC2, q]; exact ⟨rfl, N, K, V_a2⟩) (by decide) (by decide)
        · skip
          refine gb (fun _ k => XS.icmpYes Xq.here hx rfl (pc0 := 20) (pc' := 26) rfl (hb hby d17_20) rfl (flt hc20).2.2.2 (by decide) (by decide) (XS.aloadN Xq.here hx rfl (hb hby d17_26) rfl rfl (XS.iloadN Xq.here hx rfl (hb hby d17_27) rfl (XS.iload Xq.here hx rfl (hb hby d17_28) rfl (XS.i2b Xq.here hx rfl (hb hby d17_30) rfl k))))) ?_
          show G Tq (mkF m 31 #[rv a1, iv (Int32.ofNat i), rv a2, iv (Int32.ofNat i), iv (Int32.ofNat cs.length), iv (Int32.ofNat i), iv (cs.getD i 0)] [.int ((cs.getD i 0).toInt8.toInt32), .int (Int32.ofNat i), .ref a2])
          have V'2 := V_a2
          obtain ⟨cl2, Ar2, qk2, sz2, nn2, hs2, ft2⟩ := V'2
          have hin2 : ¬ ((Int32.ofNat i) < 0 ∨ cl2.slots.size ≤ ((Int32.ofNat i)).toNatClampNeg) := inb_of sz2 (own_in (i := i) (n := cs.length) (by omega) (by omega))
          obtain ⟨T3, h3, X3, e3, W3, st3⟩ := stB Xq hx hZ eq_ Ar2 (j := (Int32.ofNat i)) hin2 (g := (mkF m 31 #[rv a1, iv (Int32.ofNat i), rv a2, iv (Int32.ofNat i), iv (Int32.ofNat cs.length), iv (Int32.ofNat i), iv (cs.getD i 0)] [.int ((cs.getD i 0).toInt8.toInt32), .int (Int32.ofNat i), .ref a2])) rfl rfl (hb hby d17_31)
          have V_a2 : Arv Z h3 a2 k2 .byte (Int32.ofNat cs.length) (((cs.take i).map own_lb ++ [own_lb (cs.getD i 0)]).map Value.int) (.int (0 : Int32)) := own_snoc V_a2 (fits_nar_byte _) W3 (by rw [own_tn (n := i) (by omega), List.length_map, List.length_take]; omega)
          have V_a1 := V_a1.other W3 ne_a1_a2
          have O := O.wr W3 g_a2
          have K := K.wr W3 (Or.inl (List.mem_of_getElem? (i := 0) rfl))
          have N := Fr.snoc X3 N g_a2
          refine gb st3 ?_
          show G T3 (mkF m 32 #[rv a1, iv (Int32.ofNat i), rv a2, iv (Int32.ofNat i), iv (Int32.ofNat cs.length), iv (Int32.ofNat i), iv (cs.getD i 0)] [])
          refine gb (fun _ k => XS.iinc X3.here hx rfl (hb hby d17_32) rfl (l' := #[rv a1, iv ((Int32.ofNat i) + (1 : Int32)), rv a2, iv (Int32.ofNat i), iv (Int32.ofNat cs.length), iv (Int32.ofNat i), iv (cs.getD i 0)]) rfl (XS.iinc X3.here hx rfl (hb hby d17_35) rfl (l' := #[rv a1, iv ((Int32.ofNat i) + (1 : Int32)), rv a2, iv ((Int32.ofNat i) + (1 : Int32)), iv (Int32.ofNat cs.length), iv (Int32.ofNat i), iv (cs.getD i 0)]) rfl (XS.iinc X3.here hx rfl (hb hby d17_38) rfl (l' := #[rv a1, iv ((Int32.ofNat i) + (1 : Int32)), rv a2, iv ((Int32.ofNat i) + (1 : Int32)), iv (Int32.ofNat cs.length), iv ((Int32.ofNat i) + (1 : Int32)), iv (cs.getD i 0)]) rfl k))) ?_
          show G T3 (mkF m 41 #[rv a1, iv ((Int32.ofNat i) + (1 : Int32)), rv a2, iv ((Int32.ofNat i) + (1 : Int32)), iv (Int32.ofNat cs.length), iv ((Int32.ofNat i) + (1 : Int32)), iv (cs.getD i 0)] [])
          rw [own_succ32]
          rw [own_l1 (by omega)] at V_a2
          show G T3 (mkF m 41 #[rv a1, iv (Int32.ofNat (i + 1)), rv a2, iv (Int32.ofNat (i + 1)), iv (Int32.ofNat cs.length), iv (Int32.ofNat (i + 1)), iv (cs.getD i 0)] [])
          refine gb (fun _ k => XS.goto X3.here hx rfl (pc0 := 41) (pc' := 3) rfl (hb hby d17_41) (by decide) (by decide) k) ?_
          show G T3 (mkF m 3 #[rv a1, iv (Int32.ofNat (i + 1)), rv a2, iv (Int32.ofNat (i + 1)), iv (Int32.ofNat cs.length), iv (Int32.ofNat (i + 1)), iv (cs.getD i 0)] [])
          exact ih (i + 1) _ _ _ X3 N e3 O K V_a1 V_a2 (.val (.int (cs.getD i 0))) (Or.inr ⟨_, rfl⟩) (by omega) (fun j hj => by rcases Nat.lt_succ_iff_lt_or_eq.mp hj with z | z; exact hp j z; rw [z]; exact hc20)
      · skip
        show G Tq (mkF m 3 #[rv a1, iv (Int32.ofNat i), rv a2, iv (Int32.ofNat i), iv (Int32.ofNat cs.length), iv (Int32.ofNat i), iv x_s6] [])
        refine gb (fun _ k => XS.iload Xq.here hx rfl (hb hby d17_3) rfl (XS.iload Xq.here hx rfl (hb hby d17_5) rfl (XS.icmpNo Xq.here hx rfl (hb hby d17_7) rfl (tlt (own_in (by omega) (by omega)).2).2.1 (XS.aloadN Xq.here hx rfl (hb hby d17_10) rfl rfl (XS.iloadN Xq.here hx rfl (hb hby d17_11) rfl k))))) ?_
        show G Tq (mkF m 12 #[rv a1, iv (Int32.ofNat i), rv a2, iv (Int32.ofNat i), iv (Int32.ofNat cs.length), iv (Int32.ofNat i), iv x_s6] [.int (Int32.ofNat i), .ref a1])
        have V'4 := V_a1
        obtain ⟨cl4, Ar4, qk4, sz4, nn4, hs4, ft4⟩ := V'4
        have hin4 : ¬ ((Int32.ofNat i) < 0 ∨ cl4.slots.size ≤ ((Int32.ofNat i)).toNatClampNeg) := inb_of sz4 (own_in (i := i) (n := cs.length) (by omega) (by omega))
        have hat4 : cl4.slots[((Int32.ofNat i)).toNatClampNeg]? = some (.int (cs.getD i 0)) := hs4.at hin4 (by rw [own_tn (n := i) (by omega), own_getD])
        refine gb (Xq.caload hx (j := (Int32.ofNat i)) (v := (.int (cs.getD i 0))) (by rw [eq_]; exact Ar4.1) (State.isArrayOf_alike hZ.alike Ar4.2.1) Ar4.2.2 hin4 hat4 (g := (mkF m 12 #[rv a1, iv (Int32.ofNat i), rv a2, iv (Int32.ofNat i), iv (Int32.ofNat cs.length), iv (Int32.ofNat i), iv x_s6] [.int (Int32.ofNat i), .ref a1])) rfl rfl (hb hby d17_12)) ?_
        show G Tq (mkF m 13 #[rv a1, iv (Int32.ofNat i), rv a2, iv (Int32.ofNat i), iv (Int32.ofNat cs.length), iv (Int32.ofNat i), iv x_s6] [.int (cs.getD i 0)])
        refine gb (fun _ k => XS.istore Xq.here hx rfl (hb hby d17_13) rfl (l' := #[rv a1, iv (Int32.ofNat i), rv a2, iv (Int32.ofNat i), iv (Int32.ofNat cs.length), iv (Int32.ofNat i), iv (cs.getD i 0)]) rfl (XS.iload Xq.here hx rfl (hb hby d17_15) rfl (XS.sipush Xq.here hx rfl (hb hby d17_17) k))) ?_
        show G Tq (mkF m 20 #[rv a1, iv (Int32.ofNat i), rv a2, iv (Int32.ofNat i), iv (Int32.ofNat cs.length), iv (Int32.ofNat i), iv (cs.getD i 0)] [.int 255, .int (cs.getD i 0)])
        by_cases hc20 : (255 : Int32) < (cs.getD i 0)
        · skip
          refine gb (fun _ k => XS.icmpNo Xq.here hx rfl (hb hby d17_20) rfl (tlt hc20).2.2.2 (XS.iload Xq.here hx rfl (hb hby d17_23) rfl k)) ?_
          show G Tq (mkF m 25 #[rv a1, iv (Int32.ofNat i), rv a2, iv (Int32.ofNat i), iv (Int32.ofNat cs.length), iv (Int32.ofNat i), iv (cs.getD i 0)] [.int (Int32.ofNat i)])
          exact go Xq (v := (some (.int (Int32.ofNat i)))) (fun h => by rw [Bd.returns] at h; cases h) (fun fs hr => retOut Xq hx Bd.returns rfl (Or.inl ⟨rfl, by simp, _, rfl⟩) (hb hby d17_25) hr) (by rw [eq_]; have q := own_kk_at cs i (by omega) hp hc20; rw [Q_rmC2, q]; exact ⟨rfl, N, K, V_a2⟩) (by decide) (by decide)
        · skip
          refine gb (fun _ k => XS.icmpYes Xq.here hx rfl (pc0 := 20) (pc' := 26) rfl (hb hby d17_20) rfl (flt hc20).2.2.2 (by decide) (by decide) (XS.aloadN Xq.here hx rfl (hb hby d17_26) rfl rfl (XS.iloadN Xq.here hx rfl (hb hby d17_27) rfl (XS.iload Xq.here hx rfl (hb hby d17_28) rfl (XS.i2b Xq.here hx rfl (hb hby d17_30) rfl k))))) ?_
          show G Tq (mkF m 31 #[rv a1, iv (Int32.ofNat i), rv a2, iv (Int32.ofNat i), iv (Int32.ofNat cs.length), iv (Int32.ofNat i), iv (cs.getD i 0)] [.int ((cs.getD i 0).toInt8.toInt32), .int (Int32.ofNat i), .ref a2])
          have V'5 := V_a2
          obtain ⟨cl5, Ar5, qk5, sz5, nn5, hs5, ft5⟩ := V'5
          have hin5 : ¬ ((Int32.ofNat i) < 0 ∨ cl5.slots.size ≤ ((Int32.ofNat i)).toNatClampNeg) := inb_of sz5 (own_in (i := i) (n := cs.length) (by omega) (by omega))
          obtain ⟨T6, h6, X6, e6, W6, st6⟩ := stB Xq hx hZ eq_ Ar5 (j := (Int32.ofNat i)) hin5 (g := (mkF m 31 #[rv a1, iv (Int32.ofNat i), rv a2, iv (Int32.ofNat i), iv (Int32.ofNat cs.length), iv (Int32.ofNat i), iv (cs.getD i 0)] [.int ((cs.getD i 0).toInt8.toInt32), .int (Int32.ofNat i), .ref a2])) rfl rfl (hb hby d17_31)
          have V_a2 : Arv Z h6 a2 k2 .byte (Int32.ofNat cs.length) (((cs.take i).map own_lb ++ [own_lb (cs.getD i 0)]).map Value.int) (.int (0 : Int32)) := own_snoc V_a2 (fits_nar_byte _) W6 (by rw [own_tn (n := i) (by omega), List.length_map, List.length_take]; omega)
          have V_a1 := V_a1.other W6 ne_a1_a2
          have O := O.wr W6 g_a2
          have K := K.wr W6 (Or.inl (List.mem_of_getElem? (i := 0) rfl))
          have N := Fr.snoc X6 N g_a2
          refine gb st6 ?_
          show G T6 (mkF m 32 #[rv a1, iv (Int32.ofNat i), rv a2, iv (Int32.ofNat i), iv (Int32.ofNat cs.length), iv (Int32.ofNat i), iv (cs.getD i 0)] [])
          refine gb (fun _ k => XS.iinc X6.here hx rfl (hb hby d17_32) rfl (l' := #[rv a1, iv ((Int32.ofNat i) + (1 : Int32)), rv a2, iv (Int32.ofNat i), iv (Int32.ofNat cs.length), iv (Int32.ofNat i), iv (cs.getD i 0)]) rfl (XS.iinc X6.here hx rfl (hb hby d17_35) rfl (l' := #[rv a1, iv ((Int32.ofNat i) + (1 : Int32)), rv a2, iv ((Int32.ofNat i) + (1 : Int32)), iv (Int32.ofNat cs.length), iv (Int32.ofNat i), iv (cs.getD i 0)]) rfl (XS.iinc X6.here hx rfl (hb hby d17_38) rfl (l' := #[rv a1, iv ((Int32.ofNat i) + (1 : Int32)), rv a2, iv ((Int32.ofNat i) + (1 : Int32)), iv (Int32.ofNat cs.length), iv ((Int32.ofNat i) + (1 : Int32)), iv (cs.getD i 0)]) rfl k))) ?_
          show G T6 (mkF m 41 #[rv a1, iv ((Int32.ofNat i) + (1 : Int32)), rv a2, iv ((Int32.ofNat i) + (1 : Int32)), iv (Int32.ofNat cs.length), iv ((Int32.ofNat i) + (1 : Int32)), iv (cs.getD i 0)] [])
          rw [own_succ32]
          rw [own_l1 (by omega)] at V_a2
          show G T6 (mkF m 41 #[rv a1, iv (Int32.ofNat (i + 1)), rv a2, iv (Int32.ofNat (i + 1)), iv (Int32.ofNat cs.length), iv (Int32.ofNat (i + 1)), iv (cs.getD i 0)] [])
          refine gb (fun _ k => XS.goto X6.here hx rfl (pc0 := 41) (pc' := 3) rfl (hb hby d17_41) (by decide) (by decide) k) ?_
          show G T6 (mkF m 3 #[rv a1, iv (Int32.ofNat (i + 1)), rv a2, iv (Int32.ofNat (i + 1)), iv (Int32.ofNat cs.length), iv (Int32.ofNat (i + 1)), iv (cs.getD i 0)] [])
          exact ih (i + 1) _ _ _ X6 N e6 O K V_a1 V_a2 (.val (.int (cs.getD i 0))) (Or.inr ⟨_, rfl⟩) (by omega) (fun j hj => by rcases Nat.lt_succ_iff_lt_or_eq.mp hj with z | z; exact hp j z; rw [z]; exact hc20)
  exact LP cs.length 0 _ _ _ X0 N e0 O K V_a1 V_a2 .unset (Or.inl rfl) (Nat.zero_add _) (fun j hj => absurd hj (Nat.not_lt_zero _))
def Q_rmC1 (Z : State) (a1 : Addr) (k1 : ClassId) (cs : List Int32) (h0 : Heap) (n0 : Nat) : Option Value → Heap → List Loc → Prop := fun v h L => ∃ (b : Addr) (kb : ClassId), v = some (.ref b) ∧ Fr n0 L ∧ Keep h0 h [] ∧ n0 ≤ b ∧ h0.size ≤ b ∧ Arv Z h b kb .byte (Int32.ofNat (own_enc cs).length) ((own_enc cs).map Value.int) (.int (0 : Int32))
set_option maxRecDepth 65536 in
set_option maxHeartbeats 40000000 in
theorem rmC1 (l : Launch) (Z : State) (a0 : Array Value) (hw : ∀ d ∈ tables_1, d.before a0 Z = true) (ws : List Jvm.Cond) (a1 : Addr) (k1 : ClassId) (cs : List Int32) (h0 : Heap) (n0 : Nat) (O : Old Z n0 h0) (S_ad : Sta Z Z.heap "java/lang/StringUTF16" "$assertionsDisabled" "Z" (.int (1 : Int32))) (S_hi : Sta Z Z.heap "java/lang/StringUTF16" "HI_BYTE_SHIFT" "I" (.int (0 : Int32))) (S_lo : Sta Z Z.heap "java/lang/StringUTF16" "LO_BYTE_SHIFT" "I" (.int (8 : Int32))) (V_a1 : Arv Z h0 a1 k1 .char (Int32.ofNat cs.length) (cs.map Value.int) (.int (0 : Int32))) (hR : own_R cs) :
    MetFree l (⟨"java/lang/StringUTF16", "compress", "([CII)[B"⟩ : MethodName) (head1 (Jvm.Cond.code (⟨"java/lang/StringUTF16", "compress", "([CII)[B"⟩ : MethodName) jdk_52_method_16_code 6 (some (.array .byte)) :: ws) ({ frames := 3, cells := 2, slots := 18, locals := 40 } : Room)) (fun a U => a = #[(.ref a1), (.int (0 : Int32)), (.int (Int32.ofNat cs.length))] ∧ Z.Warmed39 U.vm ∧ U.heap = h0) (fun _ _ _ _ _ => True) (fun _ U o U' => ∃ v L, o = .returned v ∧ (Q_rmC1 Z a1 k1 cs h0 n0) v U'.heap L ∧ FrameEnd U o U' L ({ frames := 3, cells := 2, slots := 18, locals := 40 } : Room).cells ({ frames := 3, cells := 2, slots := 18, locals := 40 } : Room).slots) := by
  refine MetFree.of_bodySF (plainFor_of_name pn_0) hisR ?_
  intro p e s m args below meth c s₁ Bd hml0 hP hK
  obtain ⟨rfl, hZ, hh⟩ := hP
  have hx := Bd.exec
  have hby := Bd.bytes
  have hml : c.maxLocals = 6 := hml0
  have hown : s.vm.findClass "java/lang/StringUTF16" = some m.cls := findClass_of_methodNamed Bd.named
  have hnm := (name_of_methodNamed Bd.named Bd.method).1
  have hlk := BodyLoose.notSynchronized Bd
  have X0 : Stand p l e ({ frames := 3, cells := 2, slots := 18, locals := 40 } : Room) s m #[(.ref a1), (.int (0 : Int32)), (.int (Int32.ofNat cs.length))] below meth c s₁ [] 0 0 := Stand.of_body Bd
  have e0 : s₁.heap = h0 := by rw [← hh, Bd.state]; rfl
  have N := Fr.nil n0
  have K := Keep.refl h0 []
  obtain ⟨G, hG⟩ : ∃ G : State → JFrame → Prop, G = OwnG p e below s ({ frames := 3, cells := 2, slots := 18, locals := 40 } : Room).cells ({ frames := 3, cells := 2, slots := 18, locals := 40 } : Room).slots (Q_rmC1 Z a1 k1 cs h0 n0) := ⟨_, rfl⟩
  have gb : ∀ {T T' : State} {g g' : JFrame}, (∀ t, Steps p.tables e below (T'.setTop g') t → Steps p.tables e below (T.setTop g) t) → G T' g' → G T g := by subst hG; exact fun k h => own_by k h
  have go : ∀ {T : State} {locs : List Loc} {cells slots : Nat} {g : JFrame} {v : Option Value}, Stand p l e ({ frames := 3, cells := 2, slots := 18, locals := 40 } : Room) s m #[(.ref a1), (.int (0 : Int32)), (.int (Int32.ofNat cs.length))] below meth c T locs cells slots → (meth.sig.returnType = none → v = none) → (∀ fs, (∀ (f : JFrame) (acts : List Action), f.method = m → f.locked = none → f.entered = [] → (doReturn e (T.setTop f) acts v).1 = T.setFrames fs) → Steps p.tables e below (T.setTop g) (T.setFrames fs)) → (Q_rmC1 Z a1 k1 cs h0 n0) v T.heap locs → cells ≤ ({ frames := 3, cells := 2, slots := 18, locals := 40 } : Room).cells → slots ≤ ({ frames := 3, cells := 2, slots := 18, locals := 40 } : Room).slots → G T g := by subst hG; exact fun X h1 h2 h3 h4 h5 => own_out X hlk h1 h2 h3 h4 h5
  show OwnG p e below s ({ frames := 3, cells := 2, slots := 18, locals := 40 } : Room).cells ({ frames := 3, cells := 2, slots := 18, locals := 40 } : Room).slots (Q_rmC1 Z a1 k1 cs h0 n0) s₁ (entryFrame m #[(.ref a1), (.int (0 : Int32)), (.int (Int32.ofNat cs.length))] 6)
  rw [← hG, ef_rmC1 m a1 (0 : Int32) (Int32.ofNat cs.length)]
  clear hG
  show G s₁ (mkF m 0 #[.val (.ref a1), .val (.int (0 : Int32)), .val (.int (Int32.ofNat cs.length)), .unset, .unset, .unset] [])
  have hr6 := hR.1
  have hkl := own_kk_le cs
  refine gb (fun _ k => XS.iloadN X0.here hx rfl (hb hby d16_0) rfl k) ?_
  show G s₁ (mkF m 1 #[rv a1, iv 0, iv (Int32.ofNat cs.length), .unset, .unset, .unset] [.int (Int32.ofNat cs.length)])
  obtain ⟨T1, h1, kA1, X1, e1, E1, A1, st1⟩ := newP X0 hx hZ (ow hw 19 rfl) e0 (g := (mkF m 1 #[rv a1, iv 0, iv (Int32.ofNat cs.length), .unset, .unset, .unset] [.int (Int32.ofNat cs.length)])) rfl (hb hby d16_1) rfl (own_nn (by omega)) (cap := 6) (own_cap hr6 (by decide)) (by decide) (by decide) (by decide)
  obtain ⟨b1, g1⟩ : ∃ z, z = h0.size := ⟨_, rfl⟩
  rw [← g1] at A1 st1
  have g_b1 : n0 ≤ b1 := Nat.le_trans (by have := O.2.1; rw [O.1] at this; exact this) (Nat.le_of_eq g1.symm)
  have sz_b1 : h0.size ≤ b1 := Nat.le_trans K.1 (Nat.le_of_eq g1.symm)
  have ne_a1_b1 : a1 ≠ b1 := Nat.ne_of_lt (Nat.lt_of_lt_of_le V_a1.lt (Nat.le_of_eq g1.symm))
  have V_a1 := V_a1.ext E1
  have O := O.ext E1
  have K := K.ext E1
  have V_b1 : Arv Z h1 b1 kA1 .byte (Int32.ofNat cs.length) [] (.int (0 : Int32)) := Arv.new A1 (own_nn (by omega))
  refine gb st1 ?_
  show G T1 (mkF m 3 #[rv a1, iv 0, iv (Int32.ofNat cs.length), .unset, .unset, .unset] [.ref b1])
  refine gb (fun _ k => XS.astoreN X1.here hx rfl (hb hby d16_3) rfl rfl (l' := #[rv a1, iv 0, iv (Int32.ofNat cs.length), rv b1, .unset, .unset]) rfl (XS.aloadN X1.here hx rfl (hb hby d16_4) rfl rfl (XS.iloadN X1.here hx rfl (hb hby d16_5) rfl (XS.aloadN X1.here hx rfl (hb hby d16_6) rfl rfl (XS.iconst X1.here hx rfl (hb hby d16_7) (XS.iloadN X1.here hx rfl (hb hby d16_8) rfl k)))))) ?_
  show G T1 (mkF m 9 #[rv a1, iv 0, iv (Int32.ofNat cs.length), rv b1, .unset, .unset] [.int (Int32.ofNat cs.length), .int 0, .ref b1, .int 0, .ref a1])
  obtain ⟨_, _, ⟨T2, Lz2, kz2, nz2⟩, -, X2, ⟨Lc2, hQ2, lq2, yq2, zq2⟩, st2⟩ := Jvm.LawKit.callS X1 hx (y := (⟨"java/lang/StringUTF16", "compress", "([CI[BII)I"⟩ : MethodName)) hown (mvT hZ (ow hw 83 rfl)) (mvT hZ (ow hw 84 rfl)) (mvT hZ (ow hw 81 rfl)) (mvT hZ (ow hw 85 rfl)) (by decide) (backOf (W := 0) (rmC2 l Z a0 hw [] a1 b1 k1 kA1 cs h1 n0 O V_a1 V_b1 g_b1 ne_a1_b1 hR) hZ (ow hw 85 rfl) (ow hw 81 rfl) (by decide) (by decide)) (g := (mkF m 9 #[rv a1, iv 0, iv (Int32.ofNat cs.length), rv b1, .unset, .unset] [.int (Int32.ofNat cs.length), .int 0, .ref b1, .int 0, .ref a1])) rfl (by rw [hml]; rfl) (argsL := [(.ref a1), (.int (0 : Int32)), (.ref b1), (.int (0 : Int32)), (.int (Int32.ofNat cs.length))]) (rest := []) (lenOf pd_3 rfl) rfl (by show 2 * 0 + _ ≤ _; exact Nat.le_of_eq rfl) (hb hby d16_9) (fun _ _ => ⟨rfl, e1, (by decide : 1 + 0 ≤ _), (by decide : 6 + 0 ≤ _)⟩)
  dsimp only [Pt.U, Pt.locs, Pt.cells, Pt.slots] at X2 lq2 yq2 zq2 st2 hQ2
  subst lq2 yq2 zq2
  obtain ⟨h2, e2⟩ : ∃ z, z = T2.heap := ⟨_, rfl⟩
  rw [← e2] at hQ2
  replace e2 := e2.symm
  obtain ⟨rfl, Nq2, Kq2, hR2⟩ := hQ2
  have N := Fr.app N Nq2
  have V_a1 := V_a1.keep Kq2 (ninS ne_a1_b1 nin0)
  have V_b1 := hR2
  have O := O.keep Kq2 (allS g_b1 all0)
  have K := K.trans Kq2 (allS (Or.inr sz_b1) all0)
  refine gb st2 ?_
  show G T2 (mkF m 12 #[rv a1, iv 0, iv (Int32.ofNat cs.length), rv b1, .unset, .unset] [.int (Int32.ofNat (own_kk cs))])
  refine gb (fun _ k => XS.istore X2.here hx rfl (hb hby d16_12) rfl (l' := #[rv a1, iv 0, iv (Int32.ofNat cs.length), rv b1, iv (Int32.ofNat (own_kk cs)), .unset]) rfl k) ?_
  show G T2 (mkF m 14 #[rv a1, iv 0, iv (Int32.ofNat cs.length), rv b1, iv (Int32.ofNat (own_kk cs)), .unset] [])
  by_cases hL : own_kk cs = cs.length
  · skip
    refine gb (fun _ k => XS.iload X2.here hx rfl (hb hby d16_14) rfl (XS.iloadN X2.here hx rfl (hb hby d16_16) rfl (XS.icmpYes X2.here hx rfl (pc0 := 17) (pc' := 57) rfl (hb hby d16_17) rfl (teq (by rw [hL])).1 (by decide) (by decide) (XS.aloadN X2.here hx rfl (hb hby d16_57) rfl rfl k)))) ?_
    show G T2 (mkF m 58 #[rv a1, iv 0, iv (Int32.ofNat cs.length), rv b1, iv (Int32.ofNat (own_kk cs)), .unset] [.ref b1])
    exact go X2 (v := (some (.ref b1))) (fun h => by rw [Bd.returns] at h; cases h) (fun fs hr => retOut X2 hx Bd.returns rfl (Or.inr (Or.inr (Or.inr (Or.inr ⟨rfl, rfl, rfl⟩)))) (hb hby d16_58) hr) (by rw [e2]; exact ⟨_, _, rfl, N, K, g_b1, sz_b1, own_evL hL V_b1⟩) (by decide) (by decide)
  · skip
    refine gb (fun _ k => XS.iload X2.here hx rfl (hb hby d16_14) rfl (XS.iloadN X2.here hx rfl (hb hby d16_16) rfl (XS.icmpNo X2.here hx rfl (hb hby d16_17) rfl (feq (fun q => hL (own_inj (by omega) (by omega) q))).1 (XS.aloadN X2.here hx rfl (hb hby d16_20) rfl rfl (XS.iloadN X2.here hx rfl (hb hby d16_21) rfl (XS.iloadN X2.here hx rfl (hb hby d16_22) rfl k)))))) ?_
    show G T2 (mkF m 23 #[rv a1, iv 0, iv (Int32.ofNat cs.length), rv b1, iv (Int32.ofNat (own_kk cs)), .unset] [.int (Int32.ofNat cs.length), .int 0, .ref a1])
    have lt_a1 := V_a1.lt
    have lt_b1 := V_b1.lt
    have szK := K.1
    obtain ⟨_, _, ⟨T3, Lz3, kz3, nz3⟩, -, X3, ⟨Lc3, hQ3, lq3, yq3, zq3⟩, st3⟩ := Jvm.LawKit.callS X2 hx (y := (⟨"java/lang/StringUTF16", "toBytes", "([CII)[B"⟩ : MethodName)) hown (mvT hZ (ow hw 86 rfl)) (mvT hZ (ow hw 87 rfl)) (mvT hZ (ow hw 81 rfl)) (mvT hZ (ow hw 88 rfl)) (by decide) (backOf (W := 0) (rmTB l Z a0 hw [] a1 k1 cs h2 n0 O S_ad S_hi S_lo V_a1 hR) hZ (ow hw 88 rfl) (ow hw 81 rfl) (by decide) (by decide)) (g := (mkF m 23 #[rv a1, iv 0, iv (Int32.ofNat cs.length), rv b1, iv (Int32.ofNat (own_kk cs)), .unset] [.int (Int32.ofNat cs.length), .int 0, .ref a1])) rfl (by rw [hml]; rfl) (argsL := [(.ref a1), (.int (0 : Int32)), (.int (Int32.ofNat cs.length))]) (rest := []) (lenOf pd_4 rfl) rfl (by show 2 * 0 + _ ≤ _; exact Nat.le_of_eq rfl) (hb hby d16_23) (fun _ _ => ⟨rfl, e2, (by decide : 1 + 1 ≤ _), (by decide : 6 + 12 ≤ _)⟩)
    dsimp only [Pt.U, Pt.locs, Pt.cells, Pt.slots] at X3 lq3 yq3 zq3 st3 hQ3
    subst lq3 yq3 zq3
    obtain ⟨h3, e3⟩ : ∃ z, z = T3.heap := ⟨_, rfl⟩
    rw [← e3] at hQ3
    replace e3 := e3.symm
    obtain ⟨b3, kb3, rfl, Nq3, Kq3, hR3⟩ := hQ3
    have N := Fr.app N Nq3
    have V_a1 := V_a1.keep Kq3 nin0
    have V_b1 := V_b1.keep Kq3 nin0
    obtain ⟨g_b3, sz_b3, V_b3⟩ := hR3
    have O := O.keep Kq3 all0
    have K := K.trans Kq3 all0
    have ne_a1_b3 : a1 ≠ b3 := Nat.ne_of_lt (Nat.lt_of_lt_of_le lt_a1 sz_b3)
    have ne_b1_b3 : b1 ≠ b3 := Nat.ne_of_lt (Nat.lt_of_lt_of_le lt_b1 sz_b3)
    have sz_b3 := Nat.le_trans szK sz_b3
    refine gb st3 ?_
    show G T3 (mkF m 26 #[rv a1, iv 0, iv (Int32.ofNat cs.length), rv b1, iv (Int32.ofNat (own_kk cs)), .unset] [.ref b3])
    refine gb (fun _ k => XS.astore X3.here hx rfl (hb hby d16_26) rfl rfl (l' := #[rv a1, iv 0, iv (Int32.ofNat cs.length), rv b1, iv (Int32.ofNat (own_kk cs)), rv b3]) rfl (XS.aload X3.here hx rfl (hb hby d16_28) rfl rfl (XS.iload X3.here hx rfl (hb hby d16_30) rfl k))) ?_
    show G T3 (mkF m 32 #[rv a1, iv 0, iv (Int32.ofNat cs.length), rv b1, iv (Int32.ofNat (own_kk cs)), rv b3] [.int (Int32.ofNat (own_kk cs)), .ref b3])
    obtain ⟨_, _, ⟨T4, Lz4, kz4, nz4⟩, -, X4, ⟨Lc4, hQ4, lq4, yq4, zq4⟩, st4⟩ := Jvm.LawKit.callS X3 hx (y := (⟨"java/lang/StringUTF16", "getChar", "([BI)C"⟩ : MethodName)) hown (mvT hZ (ow hw 102 rfl)) (mvT hZ (ow hw 103 rfl)) (mvT hZ (ow hw 81 rfl)) (mvT hZ (ow hw 104 rfl)) (by decide) (backOf (W := 0) (rmG l Z a0 hw [] b3 kb3 cs (own_kk cs) h3 n0 O S_ad S_hi S_lo V_b3 (own_kk_hi cs hL).1 hR) hZ (ow hw 104 rfl) (ow hw 81 rfl) (by decide) (by decide)) (g := (mkF m 32 #[rv a1, iv 0, iv (Int32.ofNat cs.length), rv b1, iv (Int32.ofNat (own_kk cs)), rv b3] [.int (Int32.ofNat (own_kk cs)), .ref b3])) rfl (by rw [hml]; rfl) (argsL := [(.ref b3), (.int (Int32.ofNat (own_kk cs)))]) (rest := []) (lenOf pd_5 rfl) rfl (by show 2 * 0 + _ ≤ _; exact Nat.le_of_eq rfl) (hb hby d16_32) (fun _ _ => ⟨rfl, e3, (by decide : 2 + 0 ≤ _), (by decide : 18 + 0 ≤ _)⟩)
    dsimp only [Pt.U, Pt.locs, Pt.cells, Pt.slots] at X4 lq4 yq4 zq4 st4 hQ4
    subst lq4 yq4 zq4
    obtain ⟨rfl, rfl, e4⟩ := hQ4
    try rw [List.append_nil] at X4
    refine gb st4 ?_
    show G T4 (mkF m 35 #[rv a1, iv 0, iv (Int32.ofNat cs.length), rv b1, iv (Int32.ofNat (own_kk cs)), rv b3] [.int (cs.getD (own_kk cs) 0)])
    refine gb (fun _ k => XS.sipush X4.here hx rfl (hb hby d16_35) (XS.icmpYes X4.here hx rfl (pc0 := 38) (pc' := 54) rfl (hb hby d16_38) rfl (tlt (own_kk_hi cs hL).2).2.2.1 (by decide) (by decide) (XS.aload X4.here hx rfl (hb hby d16_54) rfl rfl k))) ?_
    show G T4 (mkF m 56 #[rv a1, iv 0, iv (Int32.ofNat cs.length), rv b1, iv (Int32.ofNat (own_kk cs)), rv b3] [.ref b3])
    exact go X4 (v := (some (.ref b3))) (fun h => by rw [Bd.returns] at h; cases h) (fun fs hr => retOut X4 hx Bd.returns rfl (Or.inr (Or.inr (Or.inr (Or.inr ⟨rfl, rfl, rfl⟩)))) (hb hby d16_56) hr) (by rw [e4]; exact ⟨_, _, rfl, N, K, g_b3, sz_b3, own_evU hL V_b3⟩) (by decide) (by decide)
def Q_rmCo (Z : State) (a1 : Addr) (k1 : ClassId) (cs : List Int32) (h0 : Heap) (n0 : Nat) : Option Value → Heap → List Loc → Prop := fun v h L => v = some (.int (own_cd cs)) ∧ L = [] ∧ h = h0
set_option maxRecDepth 65536 in
set_option maxHeartbeats 40000000 in
theorem rmCo (l : Launch) (Z : State) (a0 : Array Value) (hw : ∀ d ∈ tables_1, d.before a0 Z = true) (ws : List Jvm.Cond) (a1 : Addr) (k1 : ClassId) (cs : List Int32) (h0 : Heap) (n0 : Nat) (O : Old Z n0 h0) (V_a1 : Arv Z h0 a1 k1 .byte (Int32.ofNat (own_enc cs).length) ((own_enc cs).map Value.int) (.int (0 : Int32))) (hR : own_R cs) (hp : 0 < cs.length) :
    MetFree l (⟨"java/lang/StringUTF16", "coderFromArrayLen", "([BI)B"⟩ : MethodName) (head1 (Jvm.Cond.code (⟨"java/lang/StringUTF16", "coderFromArrayLen", "([BI)B"⟩ : MethodName) jdk_52_method_15_code 2 (some .byte) :: ws) ({ frames := 0, cells := 0, slots := 0, locals := 0 } : Room)) (fun a U => a = #[(.ref a1), (.int (Int32.ofNat cs.length))] ∧ Z.Warmed39 U.vm ∧ U.heap = h0) (fun _ _ _ _ _ => True) (fun _ U o U' => ∃ v L, o = .returned v ∧ (Q_rmCo Z a1 k1 cs h0 n0) v U'.heap L ∧ FrameEnd U o U' L ({ frames := 0, cells := 0, slots := 0, locals := 0 } : Room).cells ({ frames := 0, cells := 0, slots := 0, locals := 0 } : Room).slots) := by
  refine MetFree.of_bodySF (plainFor_of_name pn_0) hisR ?_
  intro p e s m args below meth c s₁ Bd hml0 hP hK
  obtain ⟨rfl, hZ, hh⟩ := hP
  have hx := Bd.exec
  have hby := Bd.bytes
  have hml : c.maxLocals = 2 := hml0
  have hown : s.vm.findClass "java/lang/StringUTF16" = some m.cls := findClass_of_methodNamed Bd.named
  have hnm := (name_of_methodNamed Bd.named Bd.method).1
  have hlk := BodyLoose.notSynchronized Bd
  have X0 : Stand p l e ({ frames := 0, cells := 0, slots := 0, locals := 0 } : Room) s m #[(.ref a1), (.int (Int32.ofNat cs.length))] below meth c s₁ [] 0 0 := Stand.of_body Bd
  have e0 : s₁.heap = h0 := by rw [← hh, Bd.state]; rfl
  have N := Fr.nil n0
  obtain ⟨G, hG⟩ : ∃ G : State → JFrame → Prop, G = OwnG p e below s ({ frames := 0, cells := 0, slots := 0, locals := 0 } : Room).cells ({ frames := 0, cells := 0, slots := 0, locals := 0 } : Room).slots (Q_rmCo Z a1 k1 cs h0 n0) := ⟨_, rfl⟩
  have gb : ∀ {T T' : State} {g g' : JFrame}, (∀ t, Steps p.tables e below (T'.setTop g') t → Steps p.tables e below (T.setTop g) t) → G T' g' → G T g := by subst hG; exact fun k h => own_by k h
  have go : ∀ {T : State} {locs : List Loc} {cells slots : Nat} {g : JFrame} {v : Option Value}, Stand p l e ({ frames := 0, cells := 0, slots := 0, locals := 0 } : Room) s m #[(.ref a1), (.int (Int32.ofNat cs.length))] below meth c T locs cells slots → (meth.sig.returnType = none → v = none) → (∀ fs, (∀ (f : JFrame) (acts : List Action), f.method = m → f.locked = none → f.entered = [] → (doReturn e (T.setTop f) acts v).1 = T.setFrames fs) → Steps p.tables e below (T.setTop g) (T.setFrames fs)) → (Q_rmCo Z a1 k1 cs h0 n0) v T.heap locs → cells ≤ ({ frames := 0, cells := 0, slots := 0, locals := 0 } : Room).cells → slots ≤ ({ frames := 0, cells := 0, slots := 0, locals := 0 } : Room).slots → G T g := by subst hG; exact fun X h1 h2 h3 h4 h5 => own_out X hlk h1 h2 h3 h4 h5
  show OwnG p e below s ({ frames := 0, cells := 0, slots := 0, locals := 0 } : Room).cells ({ frames := 0, cells := 0, slots := 0, locals := 0 } : Room).slots (Q_rmCo Z a1 k1 cs h0 n0) s₁ (entryFrame m #[(.ref a1), (.int (Int32.ofNat cs.length))] 2)
  rw [← hG, ef_rmCo m a1 (Int32.ofNat cs.length)]
  clear hG
  show G s₁ (mkF m 0 #[.val (.ref a1), .val (.int (Int32.ofNat cs.length))] [])
  refine gb (fun _ k => XS.iloadN X0.here hx rfl (hb hby d23_0) rfl (XS.aloadN X0.here hx rfl (hb hby d23_1) rfl rfl k)) ?_
  show G s₁ (mkF m 2 #[rv a1, iv (Int32.ofNat cs.length)] [.ref a1, .int (Int32.ofNat cs.length)])
  have V'1 := V_a1
  obtain ⟨cl1, Ar1, qk1, sz1, nn1, hs1, ft1⟩ := V'1
  refine gb (X0.arraylength hx (by rw [e0]; exact Ar1.1) (State.isArrayOf_alike hZ.alike Ar1.2.1) (g := (mkF m 2 #[rv a1, iv (Int32.ofNat cs.length)] [.ref a1, .int (Int32.ofNat cs.length)])) rfl rfl (hb hby d23_2)) ?_
  rw [len_of sz1 nn1]
  show G s₁ (mkF m 3 #[rv a1, iv (Int32.ofNat cs.length)] [.int (Int32.ofNat (own_enc cs).length), .int (Int32.ofNat cs.length)])
  refine gb (fun _ k => XS.isub X0.here hx rfl (hb hby d23_3) rfl (XS.bipush X0.here hx rfl (hb hby d23_4) (XS.iushr X0.here hx rfl (hb hby d23_6) rfl (XS.i2b X0.here hx rfl (hb hby d23_7) rfl k)))) ?_
  show G s₁ (mkF m 8 #[rv a1, iv (Int32.ofNat cs.length)] [.int (((((Int32.ofNat cs.length) - (Int32.ofNat (own_enc cs).length)).toUInt32 >>> ((31 : Int32) &&& 31).toUInt32).toInt32).toInt8.toInt32)])
  rw [own_co hR hp]
  show G s₁ (mkF m 8 #[rv a1, iv (Int32.ofNat cs.length)] [.int (own_cd cs)])
  exact go X0 (v := (some (.int (own_cd cs)))) (fun h => by rw [Bd.returns] at h; cases h) (fun fs hr => retOut X0 hx Bd.returns (own_cdn cs) (Or.inl ⟨rfl, by simp, _, rfl⟩) (hb hby d23_8) hr) (⟨rfl, rfl, e0⟩) (by decide) (by decide)
def Q_rmS4 (Z : State) (a1 a2 : Addr) (k2 : ClassId) (cs : List Int32) (h0 : Heap) (n0 : Nat) (zc : Int32) : Option Value → Heap → List Loc → Prop := fun v h L => ∃ (b : Addr) (kb : ClassId), v = none ∧ Fr n0 L ∧ Keep h0 h [a1] ∧ Exa Z h a1 "java/lang/String" ∧ Fld Z h a1 "java/lang/String" "coder" "B" (.int (own_cd cs)) ∧ Fld Z h a1 "java/lang/String" "value" "[B" (.ref b) ∧ Arv Z h b kb .byte (Int32.ofNat (own_enc cs).length) ((own_enc cs).map Value.int) (.int (0 : Int32))
set_option maxRecDepth 65536 in
set_option maxHeartbeats 40000000 in
theorem rmS4 (l : Launch) (Z : State) (a0 : Array Value) (hw : ∀ d ∈ tables_1, d.before a0 Z = true) (ws : List Jvm.Cond) (a1 a2 : Addr) (k2 : ClassId) (cs : List Int32) (h0 : Heap) (n0 : Nat) (O : Old Z n0 h0) (hp : 0 < cs.length) (S_ad : Sta Z Z.heap "java/lang/StringUTF16" "$assertionsDisabled" "Z" (.int (1 : Int32))) (S_hi : Sta Z Z.heap "java/lang/StringUTF16" "HI_BYTE_SHIFT" "I" (.int (0 : Int32))) (S_lo : Sta Z Z.heap "java/lang/StringUTF16" "LO_BYTE_SHIFT" "I" (.int (8 : Int32))) (E_a1 : Exa Z h0 a1 "java/lang/String") (F_coder_a1 : Fld Z h0 a1 "java/lang/String" "coder" "B" (.int (0 : Int32))) (F_value_a1 : Fld Z h0 a1 "java/lang/String" "value" "[B" .null) (g_a1 : n0 ≤ a1) (V_a2 : Arv Z h0 a2 k2 .char (Int32.ofNat cs.length) (cs.map Value.int) (.int (0 : Int32))) (ne_a2_a1 : a2 ≠ a1) (hR : own_R cs) (zc : Int32) (S_cs : Sta Z Z.heap "java/lang/String" "COMPACT_STRINGS" "Z" (.int zc)) (hzc : ¬ zc = (0 : Int32)) :
    MetFree l (⟨"java/lang/String", "<init>", "([CIILjava/lang/Void;)V"⟩ : MethodName) (head1 (Jvm.Cond.code (⟨"java/lang/String", "<init>", "([CIILjava/lang/Void;)V"⟩ : MethodName) jdk_42_method_149_code 6 none :: ws) ({ frames := 4, cells := 2, slots := 18, locals := 57 } : Room)) (fun a U => a = #[(.ref a1), (.ref a2), (.int (0 : Int32)), (.int (Int32.ofNat cs.length)), .null] ∧ Z.Warmed39 U.vm ∧ U.heap = h0) (fun _ _ _ _ _ => True) (fun _ U o U' => ∃ v L, o = .returned v ∧ (Q_rmS4 Z a1 a2 k2 cs h0 n0 zc) v U'.heap L ∧ FrameEnd U o U' L ({ frames := 4, cells := 2, slots := 18, locals := 57 } : Room).cells ({ frames := 4, cells := 2, slots := 18, locals := 57 } : Room).slots) := by
  refine MetFree.of_bodySF (plainFor_of_name pn_1) hisR ?_
  intro p e s m args below meth c s₁ Bd hml0 hP hK
  obtain ⟨rfl, hZ, hh⟩ := hP
  have hx := Bd.exec
  have hby := Bd.bytes
  have hml : c.maxLocals = 6 := hml0
  have hown : s.vm.findClass "java/lang/String" = some m.cls := findClass_of_methodNamed Bd.named
  have hnm := (name_of_methodNamed Bd.named Bd.method).1
  have hlk := BodyLoose.notSynchronized Bd
  have X0 : Stand p l e ({ frames := 4, cells := 2, slots := 18, locals := 57 } : Room) s m #[(.ref a1), (.ref a2), (.int (0 : Int32)), (.int (Int32.ofNat cs.length)), .null] below meth c s₁ [] 0 0 := Stand.of_body Bd
  have e0 : s₁.heap = h0 := by rw [← hh, Bd.state]; rfl
  have N := Fr.nil n0
  have K := Keep.refl h0 [a1]
  obtain ⟨G, hG⟩ : ∃ G : State → JFrame → Prop, G = OwnG p e below s ({ frames := 4, cells := 2, slots := 18, locals := 57 } : Room).cells ({ frames := 4, cells := 2, slots := 18, locals := 57 } : Room).slots (Q_rmS4 Z a1 a2 k2 cs h0 n0 zc) := ⟨_, rfl⟩
  have gb : ∀ {T T' : State} {g g' : JFrame}, (∀ t, Steps p.tables e below (T'.setTop g') t → Steps p.tables e below (T.setTop g) t) → G T' g' → G T g := by subst hG; exact fun k h => own_by k h
  have go : ∀ {T : State} {locs : List Loc} {cells slots : Nat} {g : JFrame} {v : Option Value}, Stand p l e ({ frames := 4, cells := 2, slots := 18, locals := 57 } : Room) s m #[(.ref a1), (.ref a2), (.int (0 : Int32)), (.int (Int32.ofNat cs.length)), .null] below meth c T locs cells slots → (meth.sig.returnType = none → v = none) → (∀ fs, (∀ (f : JFrame) (acts : List Action), f.method = m → f.locked = none → f.entered = [] → (doReturn e (T.setTop f) acts v).1 = T.setFrames fs) → Steps p.tables e below (T.setTop g) (T.setFrames fs)) → (Q_rmS4 Z a1 a2 k2 cs h0 n0 zc) v T.heap locs → cells ≤ ({ frames := 4, cells := 2, slots := 18, locals := 57 } : Room).cells → slots ≤ ({ frames := 4, cells := 2, slots := 18, locals := 57 } : Room).slots → G T g := by subst hG; exact fun X h1 h2 h3 h4 h5 => own_out X hlk h1 h2 h3 h4 h5
  show OwnG p e below s ({ frames := 4, cells := 2, slots := 18, locals := 57 } : Room).cells ({ frames := 4, cells := 2, slots := 18, locals := 57 } : Room).slots (Q_rmS4 Z a1 a2 k2 cs h0 n0 zc) s₁ (entryFrame m #[(.ref a1), (.ref a2), (.int (0 : Int32)), (.int (Int32.ofNat cs.length)), .null] 6)
  rw [← hG, ef_rmS4 m a1 a2 (0 : Int32) (Int32.ofNat cs.length)]
  clear hG
  show G s₁ (mkF m 0 #[.val (.ref a1), .val (.ref a2), .val (.int (0 : Int32)), .val (.int (Int32.ofNat cs.length)), .val .null, .unset] [])
  have hr6 := hR.1
  refine gb (fun _ k => XS.aloadN X0.here hx rfl (hb hby d3_0) rfl rfl k) ?_
  show G s₁ (mkF m 1 #[rv a1, rv a2, iv 0, iv (Int32.ofNat cs.length), .val .null, .unset] [.ref a1])
  obtain ⟨T1, X1, e1, st1⟩ := initO X0 hx hZ hown (ow hw 15 rfl) (ow hw 16 rfl) (ow hw 17 rfl) e0 (g := (mkF m 1 #[rv a1, rv a2, iv 0, iv (Int32.ofNat cs.length), .val .null, .unset] [.ref a1])) rfl (by rw [hml]; rfl) rfl (hb hby d3_1) (by decide) (W := 0) (by show 2 * 0 + _ ≤ _; exact Nat.le_of_eq rfl) (by decide)
  refine gb st1 ?_
  show G T1 (mkF m 4 #[rv a1, rv a2, iv 0, iv (Int32.ofNat cs.length), .val .null, .unset] [])
  refine gb (fun _ k => XS.iloadN X1.here hx rfl (hb hby d3_4) rfl (XS.ifYes X1.here hx rfl (pc0 := 5) (pc' := 27) rfl (hb hby d3_5) rfl ((if0 _ _).trans (feq (own_ne0 hp (by omega))).2) (by decide) (by decide) k)) ?_
  show G T1 (mkF m 27 #[rv a1, rv a2, iv 0, iv (Int32.ofNat cs.length), .val .null, .unset] [])
  obtain ⟨T2, X2, e2, st2⟩ := getS2 X1 hx hZ hown (host := "") (Or.inl (ow hw 43 rfl)) Via.refl e1 (S_cs.ext O.2) (g := (mkF m 27 #[rv a1, rv a2, iv 0, iv (Int32.ofNat cs.length), .val .null, .unset] [])) rfl (hb hby d3_27)
  refine gb st2 ?_
  show G T2 (mkF m 30 #[rv a1, rv a2, iv 0, iv (Int32.ofNat cs.length), .val .null, .unset] [.int zc])
  refine gb (fun _ k => XS.ifNo X2.here hx rfl (hb hby d3_30) rfl ((if0 _ _).trans (feq hzc).1) (XS.aloadN X2.here hx rfl (hb hby d3_33) rfl rfl (XS.iloadN X2.here hx rfl (hb hby d3_34) rfl (XS.iloadN X2.here hx rfl (hb hby d3_35) rfl k)))) ?_
  show G T2 (mkF m 36 #[rv a1, rv a2, iv 0, iv (Int32.ofNat cs.length), .val .null, .unset] [.int (Int32.ofNat cs.length), .int 0, .ref a2])
  have lt_a1 := E_a1.lt
  have lt_a2 := V_a2.lt
  have szK := K.1
  obtain ⟨_, _, ⟨T3, Lz3, kz3, nz3⟩, -, X3, ⟨Lc3, hQ3, lq3, yq3, zq3⟩, st3⟩ := Jvm.LawKit.callS X2 hx (y := (⟨"java/lang/StringUTF16", "compress", "([CII)[B"⟩ : MethodName)) hown (mvT hZ (ow hw 79 rfl)) (mvT hZ (ow hw 80 rfl)) (mvT hZ (ow hw 81 rfl)) (mvT hZ (ow hw 82 rfl)) (by decide) (backOf (W := 0) (rmC1 l Z a0 hw [] a2 k2 cs h0 n0 O S_ad S_hi S_lo V_a2 hR) hZ (ow hw 82 rfl) (ow hw 81 rfl) (by decide) (by decide)) (g := (mkF m 36 #[rv a1, rv a2, iv 0, iv (Int32.ofNat cs.length), .val .null, .unset] [.int (Int32.ofNat cs.length), .int 0, .ref a2])) rfl (by rw [hml]; rfl) (argsL := [(.ref a2), (.int (0 : Int32)), (.int (Int32.ofNat cs.length))]) (rest := []) (lenOf pd_4 rfl) rfl (by show 2 * 0 + _ ≤ _; exact Nat.le_of_eq rfl) (hb hby d3_36) (fun _ _ => ⟨rfl, e2, (by decide : 0 + 2 ≤ _), (by decide : 0 + 18 ≤ _)⟩)
  dsimp only [Pt.U, Pt.locs, Pt.cells, Pt.slots] at X3 lq3 yq3 zq3 st3 hQ3
  subst lq3 yq3 zq3
  obtain ⟨h3, e3⟩ : ∃ z, z = T3.heap := ⟨_, rfl⟩
  rw [← e3] at hQ3
  replace e3 := e3.symm
  obtain ⟨b3, kb3, rfl, Nq3, Kq3, hR3⟩ := hQ3
  have N := Fr.app N Nq3
  have E_a1 := E_a1.keep Kq3
  have F_coder_a1 := F_coder_a1.keep Kq3 nin0
  have F_value_a1 := F_value_a1.keep Kq3 nin0
  have V_a2 := V_a2.keep Kq3 nin0
  obtain ⟨g_b3, sz_b3, V_b3⟩ := hR3
  have O := O.keep Kq3 all0
  have K := K.trans Kq3 all0
  have ne_a1_b3 : a1 ≠ b3 := Nat.ne_of_lt (Nat.lt_of_lt_of_le lt_a1 sz_b3)
  have ne_a2_b3 : a2 ≠ b3 := Nat.ne_of_lt (Nat.lt_of_lt_of_le lt_a2 sz_b3)
  have sz_b3 := Nat.le_trans szK sz_b3
  refine gb st3 ?_
  show G T3 (mkF m 39 #[rv a1, rv a2, iv 0, iv (Int32.ofNat cs.length), .val .null, .unset] [.ref b3])
  refine gb (fun _ k => XS.astore X3.here hx rfl (hb hby d3_39) rfl rfl (l' := #[rv a1, rv a2, iv 0, iv (Int32.ofNat cs.length), .val .null, rv b3]) rfl (XS.aloadN X3.here hx rfl (hb hby d3_41) rfl rfl (XS.aload X3.here hx rfl (hb hby d3_42) rfl rfl (XS.iloadN X3.here hx rfl (hb hby d3_44) rfl k)))) ?_
  show G T3 (mkF m 45 #[rv a1, rv a2, iv 0, iv (Int32.ofNat cs.length), .val .null, rv b3] [.int (Int32.ofNat cs.length), .ref b3, .ref a1])
  obtain ⟨_, _, ⟨T4, Lz4, kz4, nz4⟩, -, X4, ⟨Lc4, hQ4, lq4, yq4, zq4⟩, st4⟩ := Jvm.LawKit.callS X3 hx (y := (⟨"java/lang/StringUTF16", "coderFromArrayLen", "([BI)B"⟩ : MethodName)) hown (mvT hZ (ow hw 105 rfl)) (mvT hZ (ow hw 106 rfl)) (mvT hZ (ow hw 81 rfl)) (mvT hZ (ow hw 107 rfl)) (by decide) (backOf (W := 1) (rmCo l Z a0 hw [] b3 kb3 cs h3 n0 O V_b3 hR hp) hZ (ow hw 107 rfl) (ow hw 81 rfl) (by decide) (by decide)) (g := (mkF m 45 #[rv a1, rv a2, iv 0, iv (Int32.ofNat cs.length), .val .null, rv b3] [.int (Int32.ofNat cs.length), .ref b3, .ref a1])) rfl (by rw [hml]; rfl) (argsL := [(.ref b3), (.int (Int32.ofNat cs.length))]) (rest := [(.ref a1)]) (lenOf pd_6 rfl) rfl (by show 2 * 0 + _ ≤ _; exact Nat.le_of_eq rfl) (hb hby d3_45) (fun _ _ => ⟨rfl, e3, (by decide : 2 + 0 ≤ _), (by decide : 18 + 0 ≤ _)⟩)
  dsimp only [Pt.U, Pt.locs, Pt.cells, Pt.slots] at X4 lq4 yq4 zq4 st4 hQ4
  subst lq4 yq4 zq4
  obtain ⟨rfl, rfl, e4⟩ := hQ4
  try rw [List.append_nil] at X4
  refine gb st4 ?_
  show G T4 (mkF m 48 #[rv a1, rv a2, iv 0, iv (Int32.ofNat cs.length), .val .null, rv b3] [.int (own_cd cs), .ref a1])
  obtain ⟨T5, h5, X5, e5, W5, st5⟩ := putFN X4 hx hZ hown (ow hw 25 rfl) Via.refl e4 F_coder_a1 E_a1 (Or.inr ⟨(ow hw 21 rfl), rfl, hnm⟩) (ow hw 2 rfl) (ty := .byte) (v' := (.int (own_cd cs))) (by decide) (own_cdn cs) (own_cdf cs) (g := (mkF m 48 #[rv a1, rv a2, iv 0, iv (Int32.ofNat cs.length), .val .null, rv b3] [.int (own_cd cs), .ref a1])) rfl rfl (hb hby d3_48)
  refine gb st5 ?_
  have F_coder_a1 := F_coder_a1.same W5
  have E_a1 := E_a1.wr W5
  have F_value_a1 := F_value_a1.other W5 (Or.inr (slot_ne (Or.inr (ow hw 20 rfl)) (Or.inr (ow hw 21 rfl)) (by decide) (t := (.array .byte)) (t' := .byte) (by decide) (by decide)))
  have V_a2 := V_a2.other W5 ne_a2_a1
  have V_b3 := V_b3.other W5 (Ne.symm ne_a1_b3)
  have O := O.wr W5 g_a1
  have K := K.wr W5 (Or.inl (List.mem_of_getElem? (i := 0) rfl))
  have N := Fr.snoc X5 N g_a1
  show G T5 (mkF m 51 #[rv a1, rv a2, iv 0, iv (Int32.ofNat cs.length), .val .null, rv b3] [])
  refine gb (fun _ k => XS.aloadN X5.here hx rfl (hb hby d3_51) rfl rfl (XS.aload X5.here hx rfl (hb hby d3_52) rfl rfl k)) ?_
  show G T5 (mkF m 54 #[rv a1, rv a2, iv 0, iv (Int32.ofNat cs.length), .val .null, rv b3] [.ref b3, .ref a1])
  obtain ⟨T6, h6, X6, e6, W6, st6⟩ := putF X5 hx hZ hown (host := "") (Or.inl (ow hw 24 rfl)) Via.refl e5 F_value_a1 E_a1 (Or.inr ⟨(ow hw 20 rfl), rfl, hnm⟩) (ow hw 2 rfl) (ty := (.array .byte)) (by decide) rfl rfl (g := (mkF m 54 #[rv a1, rv a2, iv 0, iv (Int32.ofNat cs.length), .val .null, rv b3] [.ref b3, .ref a1])) rfl rfl (hb hby d3_54)
  refine gb st6 ?_
  have F_value_a1 := F_value_a1.same W6
  have E_a1 := E_a1.wr W6
  have V_a2 := V_a2.other W6 ne_a2_a1
  have V_b3 := V_b3.other W6 (Ne.symm ne_a1_b3)
  have F_coder_a1 := F_coder_a1.other W6 (Or.inr (slot_ne (Or.inr (ow hw 21 rfl)) (Or.inr (ow hw 20 rfl)) (by decide) (t := .byte) (t' := (.array .byte)) (by decide) (by decide)))
  have O := O.wr W6 g_a1
  have K := K.wr W6 (Or.inl (List.mem_of_getElem? (i := 0) rfl))
  have N := Fr.snoc X6 N g_a1
  show G T6 (mkF m 57 #[rv a1, rv a2, iv 0, iv (Int32.ofNat cs.length), .val .null, rv b3] [])
  exact go X6 (v := none) (fun _ => rfl) (fun fs hr => X6.returnOut hx Bd.returns (hb hby d3_57) hr) (by rw [e6]; exact ⟨_, _, rfl, N, K, E_a1, F_coder_a1, F_value_a1, V_b3⟩) (by decide) (by decide)
def Q_rmS4_0 (Z : State) (a1 a2 : Addr) (k2 : ClassId) (h0 : Heap) (n0 : Nat) : Option Value → Heap → List Loc → Prop := fun v h L => ∃ (b : Addr) (kb : ClassId), v = none ∧ Fr n0 L ∧ Keep h0 h [a1] ∧ Exa Z h a1 "java/lang/String" ∧ Fld Z h a1 "java/lang/String" "coder" "B" (.int (0 : Int32)) ∧ Fld Z h a1 "java/lang/String" "value" "[B" (.ref b) ∧ Arv Z h b kb .byte (0 : Int32) [] (.int (0 : Int32))
set_option maxRecDepth 65536 in
set_option maxHeartbeats 40000000 in
theorem rmS4_0 (l : Launch) (Z : State) (a0 : Array Value) (hw : ∀ d ∈ tables_1, d.before a0 Z = true) (ws : List Jvm.Cond) (a1 a2 : Addr) (k2 : ClassId) (h0 : Heap) (n0 : Nat) (O : Old Z n0 h0) (hEL : EW Z a0 [("java/lang/String", 7), ("java/lang/StringLatin1", 151), ("java/lang/StringUTF16", 295)]) (E_a1 : Exa Z h0 a1 "java/lang/String") (F_coder_a1 : Fld Z h0 a1 "java/lang/String" "coder" "B" (.int (0 : Int32))) (F_value_a1 : Fld Z h0 a1 "java/lang/String" "value" "[B" .null) (g_a1 : n0 ≤ a1) (V_a2 : Arv Z h0 a2 k2 .char (0 : Int32) [] (.int (0 : Int32))) (ne_a2_a1 : a2 ≠ a1) :
    MetFree l (⟨"java/lang/String", "<init>", "([CIILjava/lang/Void;)V"⟩ : MethodName) (head1 (Jvm.Cond.code (⟨"java/lang/String", "<init>", "([CIILjava/lang/Void;)V"⟩ : MethodName) jdk_42_method_149_code 6 none :: ws) ({ frames := 1, cells := 4, slots := 8, locals := 12 } : Room)) (fun a U => a = #[(.ref a1), (.ref a2), (.int (0 : Int32)), (.int (0 : Int32)), .null] ∧ Z.Warmed39 U.vm ∧ U.heap = h0 ∧ CHv Z [("java/lang/String", 7), ("java/lang/StringLatin1", 151), ("java/lang/StringUTF16", 295)] U.vm h0) (fun _ _ _ _ _ => True) (fun _ U o U' => ∃ v L, o = .returned v ∧ (Q_rmS4_0 Z a1 a2 k2 h0 n0) v U'.heap L ∧ CHr Z [("java/lang/String", 7), ("java/lang/StringLatin1", 151), ("java/lang/StringUTF16", 295)] U.vm U.heap U'.vm U'.heap ∧ ReturnedEndW U o U' L ({ frames := 1, cells := 4, slots := 8, locals := 12 } : Room).cells ({ frames := 1, cells := 4, slots := 8, locals := 12 } : Room).slots) := by
  refine MetFree.of_bodySF (plainFor_of_name pn_1) hisR ?_
  intro p e s m args below meth c s₁ Bd hml0 hP hK
  obtain ⟨rfl, hZ, hh, hHC⟩ := hP
  have hx := Bd.exec
  have hby := Bd.bytes
  have hml : c.maxLocals = 6 := hml0
  have hown : s.vm.findClass "java/lang/String" = some m.cls := findClass_of_methodNamed Bd.named
  have hnm := (name_of_methodNamed Bd.named Bd.method).1
  have hlk := BodyLoose.notSynchronized Bd
  have X0 : Stand p l e ({ frames := 1, cells := 4, slots := 8, locals := 12 } : Room) (s.setVm s.vm) m #[(.ref a1), (.ref a2), (.int (0 : Int32)), (.int (0 : Int32)), .null] below meth c s₁ [] 0 0 := Stand.of_body Bd
  have e0 : s₁.heap = h0 := by rw [← hh, Bd.state]; rfl
  have N := Fr.nil n0
  have hS : s.Since s.vm h0.size := (State.WarmedH.refl s).since _
  have hk := Nat.le_refl h0.size
  have HR : CHr Z [("java/lang/String", 7), ("java/lang/StringLatin1", 151), ("java/lang/StringUTF16", 295)] s.vm h0 s.vm h0 := CHr.refl hHC
  have K := Keep.refl h0 [a1]
  obtain ⟨G, hG⟩ : ∃ G : State → JFrame → Prop, G = OwnGH p e below s Z [("java/lang/String", 7), ("java/lang/StringLatin1", 151), ("java/lang/StringUTF16", 295)] ({ frames := 1, cells := 4, slots := 8, locals := 12 } : Room).cells ({ frames := 1, cells := 4, slots := 8, locals := 12 } : Room).slots (Q_rmS4_0 Z a1 a2 k2 h0 n0) := ⟨_, rfl⟩
  have gb : ∀ {T T' : State} {g g' : JFrame}, (∀ t, Steps p.tables e below (T'.setTop g') t → Steps p.tables e below (T.setTop g) t) → G T' g' → G T g := by subst hG; exact fun k h => own_byH k h
  have go : ∀ {T : State} {locs : List Loc} {cells slots : Nat} {g : JFrame} {v : Option Value} {vm : Vm} {k : Nat}, Stand p l e ({ frames := 1, cells := 4, slots := 8, locals := 12 } : Room) (s.setVm vm) m #[(.ref a1), (.ref a2), (.int (0 : Int32)), (.int (0 : Int32)), .null] below meth c T locs cells slots → s.Since vm k → k ≤ T.heap.size → CHr Z [("java/lang/String", 7), ("java/lang/StringLatin1", 151), ("java/lang/StringUTF16", 295)] s.vm h0 vm T.heap → Z.Warmed39 vm → (meth.sig.returnType = none → v = none) → (∀ fs, (∀ (f : JFrame) (acts : List Action), f.method = m → f.locked = none → f.entered = [] → (doReturn e (T.setTop f) acts v).1 = T.setFrames fs) → Steps p.tables e below (T.setTop g) (T.setFrames fs)) → (Q_rmS4_0 Z a1 a2 k2 h0 n0) v T.heap locs → cells ≤ ({ frames := 1, cells := 4, slots := 8, locals := 12 } : Room).cells → slots ≤ ({ frames := 1, cells := 4, slots := 8, locals := 12 } : Room).slots → G T g := by subst hG; exact fun X a b c' d h1 h2 h3 h4 h5 => own_outH X hh hEL a b c' d hlk h1 h2 h3 h4 h5
  show OwnGH p e below s Z [("java/lang/String", 7), ("java/lang/StringLatin1", 151), ("java/lang/StringUTF16", 295)] ({ frames := 1, cells := 4, slots := 8, locals := 12 } : Room).cells ({ frames := 1, cells := 4, slots := 8, locals := 12 } : Room).slots (Q_rmS4_0 Z a1 a2 k2 h0 n0) s₁ (entryFrame m #[(.ref a1), (.ref a2), (.int (0 : Int32)), (.int (0 : Int32)), .null] 6)
  rw [← hG, ef_rmS4_0 m a1 a2 (0 : Int32) (0 : Int32)]
  clear hG
  show G s₁ (mkF m 0 #[.val (.ref a1), .val (.ref a2), .val (.int (0 : Int32)), .val (.int (0 : Int32)), .val .null, .unset] [])
  have Sf_a1 : Safe Z [("java/lang/String", 7), ("java/lang/StringLatin1", 151), ("java/lang/StringUTF16", 295)] s.vm h0 a1 := own_safe0 hZ.alike E_a1 F_value_a1
  refine gb (fun _ k => XS.aloadN X0.here hx rfl (hb hby d3_0) rfl rfl k) ?_
  show G s₁ (mkF m 1 #[rv a1, rv a2, iv 0, iv 0, .val .null, .unset] [.ref a1])
  obtain ⟨T1, X1, e1, st1⟩ := initO X0 hx hZ hown (ow hw 15 rfl) (ow hw 16 rfl) (ow hw 17 rfl) e0 (g := (mkF m 1 #[rv a1, rv a2, iv 0, iv 0, .val .null, .unset] [.ref a1])) rfl (by rw [hml]; rfl) rfl (hb hby d3_1) (by decide) (W := 0) (by show 2 * 0 + _ ≤ _; exact Nat.le_of_eq rfl) (by decide)
  refine gb st1 ?_
  show G T1 (mkF m 4 #[rv a1, rv a2, iv 0, iv 0, .val .null, .unset] [])
  refine gb (fun _ k => XS.iloadN X1.here hx rfl (hb hby d3_4) rfl (XS.ifNo X1.here hx rfl (hb hby d3_5) rfl ((if0 _ _).trans (teq (by decide : (0 : Int32) = (0 : Int32))).2) (XS.aloadN X1.here hx rfl (hb hby d3_8) rfl rfl k))) ?_
  show G T1 (mkF m 9 #[rv a1, rv a2, iv 0, iv 0, .val .null, .unset] [.ref a1])
  have lt_a1 := E_a1.lt
  have lt_a2 := V_a2.lt
  obtain ⟨b2, T2, h2, kn2, bb2, kb2, X2, e2, E2, hS, hk2, hZ, hown, E_b2, F_coder_b2, F_value_b2, V_bb2, -, -, hC2, -, hne2, st2⟩ := ldcCH X1 hx hZ hown (ow hw 18 rfl) (own_wS hw) e1 hS hk hEL (List.mem_of_getElem? (i := 0) rfl) HR.1 (z := (0 : Int32)) ⟨by decide, rfl⟩ (by decide) rfl (g := (mkF m 9 #[rv a1, rv a2, iv 0, iv 0, .val .null, .unset] [.ref a1])) rfl (hb hby d3_9) (n := 0) (by decide) (by decide) (by decide) (by decide)
  have Sf_a1 := hC2.safe lt_a1 Sf_a1
  have HR := HR.trans hC2
  have E_a1 := E_a1.ext E2
  have F_coder_a1 := F_coder_a1.ext E2
  have F_value_a1 := F_value_a1.ext E2
  have V_a2 := V_a2.ext E2
  have O := O.ext E2
  have hk := Nat.le_trans hk E2.1
  have K := K.ext E2
  have hk := hk2
  have ne_a1_b2 := (hne2 a1 Sf_a1).1
  have ne_a1_bb2 := (hne2 a1 Sf_a1).2
  have ne_a2_b2 := (hne2 a2 (Safe.arv hZ.alike V_a2 (by decide))).1
  have ne_a2_bb2 := (hne2 a2 (Safe.arv hZ.alike V_a2 (by decide))).2
  have V_bb2 : Arv Z h2 bb2 kb2 .byte (0 : Int32) [] (.int (0 : Int32)) := V_bb2
  refine gb st2 ?_
  show G T2 (mkF m 11 #[rv a1, rv a2, iv 0, iv 0, .val .null, .unset] [.ref b2, .ref a1])
  obtain ⟨T3, X3, e3, st3⟩ := getF X2 hx hZ hown (host := "") (Or.inl (ow hw 24 rfl)) Via.refl e2 F_value_b2 (g := (mkF m 11 #[rv a1, rv a2, iv 0, iv 0, .val .null, .unset] [.ref b2, .ref a1])) rfl rfl (hb hby d3_11)
  refine gb st3 ?_
  show G T3 (mkF m 14 #[rv a1, rv a2, iv 0, iv 0, .val .null, .unset] [.ref bb2, .ref a1])
  have Sw4 : Safe Z [("java/lang/String", 7), ("java/lang/StringLatin1", 151), ("java/lang/StringUTF16", 295)] _ _ a1 := Sf_a1
  obtain ⟨T4, h4, X4, e4, W4, st4⟩ := putF X3 hx hZ hown (host := "") (Or.inl (ow hw 24 rfl)) Via.refl e3 F_value_a1 E_a1 (Or.inr ⟨(ow hw 20 rfl), rfl, hnm⟩) (ow hw 2 rfl) (ty := (.array .byte)) (by decide) rfl rfl (g := (mkF m 14 #[rv a1, rv a2, iv 0, iv 0, .val .null, .unset] [.ref bb2, .ref a1])) rfl rfl (hb hby d3_14)
  refine gb st4 ?_
  have F_value_a1 := F_value_a1.same W4
  have Sf_a1 := Safe.wr W4 Sw4 HR.1 Sf_a1
  have HR := HR.trans (CHr.wr W4 Sw4 HR.1)
  have E_a1 := E_a1.wr W4
  have F_coder_a1 := F_coder_a1.other W4 (Or.inr (slot_ne (Or.inr (ow hw 21 rfl)) (Or.inr (ow hw 20 rfl)) (by decide) (t := .byte) (t' := (.array .byte)) (by decide) (by decide)))
  have V_a2 := V_a2.other W4 ne_a2_a1
  have E_b2 := E_b2.wr W4
  have F_coder_b2 := F_coder_b2.other W4 (Or.inl (Ne.symm ne_a1_b2))
  have F_value_b2 := F_value_b2.other W4 (Or.inl (Ne.symm ne_a1_b2))
  have V_bb2 := V_bb2.other W4 (Ne.symm ne_a1_bb2)
  have O := O.wr W4 g_a1
  have hk := Nat.le_trans hk (Keep.of_wr W4).1
  have K := K.wr W4 (Or.inl (List.mem_of_getElem? (i := 0) rfl))
  have N := Fr.snoc X4 N g_a1
  show G T4 (mkF m 17 #[rv a1, rv a2, iv 0, iv 0, .val .null, .unset] [])
  refine gb (fun _ k => XS.aloadN X4.here hx rfl (hb hby d3_17) rfl rfl k) ?_
  show G T4 (mkF m 18 #[rv a1, rv a2, iv 0, iv 0, .val .null, .unset] [.ref a1])
  have lt_a1 := E_a1.lt
  have lt_a2 := V_a2.lt
  have lt_b2 := E_b2.lt
  have lt_bb2 := V_bb2.lt
  obtain ⟨b5, T5, h5, kn5, bb5, kb5, X5, e5, E5, hS, hk5, hZ, hown, E_b5, F_coder_b5, F_value_b5, V_bb5, -, -, hC5, -, hne5, st5⟩ := ldcCH X4 hx hZ hown (ow hw 18 rfl) (own_wS hw) e4 hS hk hEL (List.mem_of_getElem? (i := 0) rfl) HR.1 (z := (0 : Int32)) ⟨by decide, rfl⟩ (by decide) rfl (g := (mkF m 18 #[rv a1, rv a2, iv 0, iv 0, .val .null, .unset] [.ref a1])) rfl (hb hby d3_18) (n := 0) (by decide) (by decide) (by decide) (by decide)
  have Sf_a1 := hC5.safe lt_a1 Sf_a1
  have HR := HR.trans hC5
  have E_a1 := E_a1.ext E5
  have F_coder_a1 := F_coder_a1.ext E5
  have V_a2 := V_a2.ext E5
  have E_b2 := E_b2.ext E5
  have F_coder_b2 := F_coder_b2.ext E5
  have F_value_b2 := F_value_b2.ext E5
  have V_bb2 := V_bb2.ext E5
  have F_value_a1 := F_value_a1.ext E5
  have O := O.ext E5
  have hk := Nat.le_trans hk E5.1
  have K := K.ext E5
  have hk := hk5
  have ne_a1_b5 := (hne5 a1 Sf_a1).1
  have ne_a1_bb5 := (hne5 a1 Sf_a1).2
  have ne_a2_b5 := (hne5 a2 (Safe.arv hZ.alike V_a2 (by decide))).1
  have ne_a2_bb5 := (hne5 a2 (Safe.arv hZ.alike V_a2 (by decide))).2
  have V_bb5 : Arv Z h5 bb5 kb5 .byte (0 : Int32) [] (.int (0 : Int32)) := V_bb5
  refine gb st5 ?_
  show G T5 (mkF m 20 #[rv a1, rv a2, iv 0, iv 0, .val .null, .unset] [.ref b5, .ref a1])
  obtain ⟨T6, X6, e6, st6⟩ := getF X5 hx hZ hown (host := "") (Or.inl (ow hw 25 rfl)) Via.refl e5 F_coder_b5 (g := (mkF m 20 #[rv a1, rv a2, iv 0, iv 0, .val .null, .unset] [.ref b5, .ref a1])) rfl rfl (hb hby d3_20)
  refine gb st6 ?_
  show G T6 (mkF m 23 #[rv a1, rv a2, iv 0, iv 0, .val .null, .unset] [.int 0, .ref a1])
  have Sw7 : Safe Z [("java/lang/String", 7), ("java/lang/StringLatin1", 151), ("java/lang/StringUTF16", 295)] _ _ a1 := Sf_a1
  obtain ⟨T7, h7, X7, e7, W7, st7⟩ := putFN X6 hx hZ hown (ow hw 25 rfl) Via.refl e6 F_coder_a1 E_a1 (Or.inr ⟨(ow hw 21 rfl), rfl, hnm⟩) (ow hw 2 rfl) (ty := .byte) (v' := (.int (0 : Int32))) (by decide) rfl (by decide) (g := (mkF m 23 #[rv a1, rv a2, iv 0, iv 0, .val .null, .unset] [.int 0, .ref a1])) rfl rfl (hb hby d3_23)
  refine gb st7 ?_
  have F_coder_a1 := F_coder_a1.same W7
  have Sf_a1 := Safe.wr W7 Sw7 HR.1 Sf_a1
  have HR := HR.trans (CHr.wr W7 Sw7 HR.1)
  have E_a1 := E_a1.wr W7
  have V_a2 := V_a2.other W7 ne_a2_a1
  have E_b2 := E_b2.wr W7
  have F_coder_b2 := F_coder_b2.other W7 (Or.inl (Ne.symm ne_a1_b2))
  have F_value_b2 := F_value_b2.other W7 (Or.inl (Ne.symm ne_a1_b2))
  have V_bb2 := V_bb2.other W7 (Ne.symm ne_a1_bb2)
  have F_value_a1 := F_value_a1.other W7 (Or.inr (slot_ne (Or.inr (ow hw 20 rfl)) (Or.inr (ow hw 21 rfl)) (by decide) (t := (.array .byte)) (t' := .byte) (by decide) (by decide)))
  have E_b5 := E_b5.wr W7
  have F_coder_b5 := F_coder_b5.other W7 (Or.inl (Ne.symm ne_a1_b5))
  have F_value_b5 := F_value_b5.other W7 (Or.inl (Ne.symm ne_a1_b5))
  have V_bb5 := V_bb5.other W7 (Ne.symm ne_a1_bb5)
  have O := O.wr W7 g_a1
  have hk := Nat.le_trans hk (Keep.of_wr W7).1
  have K := K.wr W7 (Or.inl (List.mem_of_getElem? (i := 0) rfl))
  have N := Fr.snoc X7 N g_a1
  show G T7 (mkF m 26 #[rv a1, rv a2, iv 0, iv 0, .val .null, .unset] [])
  exact go X7 hS (Nat.le_trans hk (Nat.le_of_eq (congrArg Array.size e7.symm))) (by rw [e7]; exact HR) hZ (v := none) (fun _ => rfl) (fun fs hr => X7.returnOut hx Bd.returns (hb hby d3_26) hr) (by rw [e7]; exact ⟨_, _, rfl, N, K, E_a1, F_coder_a1, F_value_a1, V_bb2⟩) (by decide) (by decide)
def Q_rmS1_0 (Z : State) (a1 a2 : Addr) (k2 : ClassId) (h0 : Heap) (n0 : Nat) : Option Value → Heap → List Loc → Prop := fun v h L => ∃ (b : Addr) (kb : ClassId), v = none ∧ Fr n0 L ∧ Keep h0 h [a1] ∧ Exa Z h a1 "java/lang/String" ∧ Fld Z h a1 "java/lang/String" "coder" "B" (.int (0 : Int32)) ∧ Fld Z h a1 "java/lang/String" "value" "[B" (.ref b) ∧ Arv Z h b kb .byte (0 : Int32) [] (.int (0 : Int32))
set_option maxRecDepth 65536 in
set_option maxHeartbeats 40000000 in
theorem rmS1_0 (l : Launch) (Z : State) (a0 : Array Value) (hw : ∀ d ∈ tables_1, d.before a0 Z = true) (ws : List Jvm.Cond) (a1 a2 : Addr) (k2 : ClassId) (h0 : Heap) (n0 : Nat) (O : Old Z n0 h0) (hEL : EW Z a0 [("java/lang/String", 7), ("java/lang/StringLatin1", 151), ("java/lang/StringUTF16", 295)]) (E_a1 : Exa Z h0 a1 "java/lang/String") (F_coder_a1 : Fld Z h0 a1 "java/lang/String" "coder" "B" (.int (0 : Int32))) (F_value_a1 : Fld Z h0 a1 "java/lang/String" "value" "[B" .null) (g_a1 : n0 ≤ a1) (V_a2 : Arv Z h0 a2 k2 .char (0 : Int32) [] (.int (0 : Int32))) (ne_a2_a1 : a2 ≠ a1) :
    MetFree l (⟨"java/lang/String", "<init>", "([C)V"⟩ : MethodName) (head1 (Jvm.Cond.code (⟨"java/lang/String", "<init>", "([C)V"⟩ : MethodName) jdk_42_method_3_code 2 none :: ws) ({ frames := 2, cells := 4, slots := 8, locals := 29 } : Room)) (fun a U => a = #[(.ref a1), (.ref a2)] ∧ Z.Warmed39 U.vm ∧ U.heap = h0 ∧ CHv Z [("java/lang/String", 7), ("java/lang/StringLatin1", 151), ("java/lang/StringUTF16", 295)] U.vm h0) (fun _ _ _ _ _ => True) (fun _ U o U' => ∃ v L, o = .returned v ∧ (Q_rmS1_0 Z a1 a2 k2 h0 n0) v U'.heap L ∧ CHr Z [("java/lang/String", 7), ("java/lang/StringLatin1", 151), ("java/lang/StringUTF16", 295)] U.vm U.heap U'.vm U'.heap ∧ ReturnedEndW U o U' L ({ frames := 2, cells := 4, slots := 8, locals := 29 } : Room).cells ({ frames := 2, cells := 4, slots := 8, locals := 29 } : Room).slots) := by
  refine MetFree.of_bodySF (plainFor_of_name pn_1) hisR ?_
  intro p e s m args below meth c s₁ Bd hml0 hP hK
  obtain ⟨rfl, hZ, hh, hHC⟩ := hP
  have hx := Bd.exec
  have hby := Bd.bytes
  have hml : c.maxLocals = 2 := hml0
  have hown : s.vm.findClass "java/lang/String" = some m.cls := findClass_of_methodNamed Bd.named
  have hnm := (name_of_methodNamed Bd.named Bd.method).1
  have hlk := BodyLoose.notSynchronized Bd
  have X0 : Stand p l e ({ frames := 2, cells := 4, slots := 8, locals := 29 } : Room) (s.setVm s.vm) m #[(.ref a1), (.ref a2)] below meth c s₁ [] 0 0 := Stand.of_body Bd
  have e0 : s₁.heap = h0 := by rw [← hh, Bd.state]; rfl
  have N := Fr.nil n0
  have hS : s.Since s.vm h0.size := (State.WarmedH.refl s).since _
  have hk := Nat.le_refl h0.size
  have HR : CHr Z [("java/lang/String", 7), ("java/lang/StringLatin1", 151), ("java/lang/StringUTF16", 295)] s.vm h0 s.vm h0 := CHr.refl hHC
  have K := Keep.refl h0 [a1]
  obtain ⟨G, hG⟩ : ∃ G : State → JFrame → Prop, G = OwnGH p e below s Z [("java/lang/String", 7), ("java/lang/StringLatin1", 151), ("java/lang/StringUTF16", 295)] ({ frames := 2, cells := 4, slots := 8, locals := 29 } : Room).cells ({ frames := 2, cells := 4, slots := 8, locals := 29 } : Room).slots (Q_rmS1_0 Z a1 a2 k2 h0 n0) := ⟨_, rfl⟩
  have gb : ∀ {T T' : State} {g g' : JFrame}, (∀ t, Steps p.tables e below (T'.setTop g') t → Steps p.tables e below (T.setTop g) t) → G T' g' → G T g := by subst hG; exact fun k h => own_byH k h
  have go : ∀ {T : State} {locs : List Loc} {cells slots : Nat} {g : JFrame} {v : Option Value} {vm : Vm} {k : Nat}, Stand p l e ({ frames := 2, cells := 4, slots := 8, locals := 29 } : Room) (s.setVm vm) m #[(.ref a1), (.ref a2)] below meth c T locs cells slots → s.Since vm k → k ≤ T.heap.size → CHr Z [("java/lang/String", 7), ("java/lang/StringLatin1", 151), ("java/lang/StringUTF16", 295)] s.vm h0 vm T.heap → Z.Warmed39 vm → (meth.sig.returnType = none → v = none) → (∀ fs, (∀ (f : JFrame) (acts : List Action), f.method = m → f.locked = none → f.entered = [] → (doReturn e (T.setTop f) acts v).1 = T.setFrames fs) → Steps p.tables e below (T.setTop g) (T.setFrames fs)) → (Q_rmS1_0 Z a1 a2 k2 h0 n0) v T.heap locs → cells ≤ ({ frames := 2, cells := 4, slots := 8, locals := 29 } : Room).cells → slots ≤ ({ frames := 2, cells := 4, slots := 8, locals := 29 } : Room).slots → G T g := by subst hG; exact fun X a b c' d h1 h2 h3 h4 h5 => own_outH X hh hEL a b c' d hlk h1 h2 h3 h4 h5
  show OwnGH p e below s Z [("java/lang/String", 7), ("java/lang/StringLatin1", 151), ("java/lang/StringUTF16", 295)] ({ frames := 2, cells := 4, slots := 8, locals := 29 } : Room).cells ({ frames := 2, cells := 4, slots := 8, locals := 29 } : Room).slots (Q_rmS1_0 Z a1 a2 k2 h0 n0) s₁ (entryFrame m #[(.ref a1), (.ref a2)] 2)
  rw [← hG, ef_rmS1_0 m a1 a2]
  clear hG
  show G s₁ (mkF m 0 #[.val (.ref a1), .val (.ref a2)] [])
  have Sf_a1 : Safe Z [("java/lang/String", 7), ("java/lang/StringLatin1", 151), ("java/lang/StringUTF16", 295)] s.vm h0 a1 := own_safe0 hZ.alike E_a1 F_value_a1
  refine gb (fun _ k => XS.aloadN X0.here hx rfl (hb hby d2_0) rfl rfl (XS.aloadN X0.here hx rfl (hb hby d2_1) rfl rfl (XS.iconst X0.here hx rfl (hb hby d2_2) (XS.aloadN X0.here hx rfl (hb hby d2_3) rfl rfl k)))) ?_
  show G s₁ (mkF m 4 #[rv a1, rv a2] [.ref a2, .int 0, .ref a2, .ref a1])
  have V'1 := V_a2
  obtain ⟨cl1, Ar1, qk1, sz1, nn1, hs1, ft1⟩ := V'1
  refine gb (X0.arraylength hx (by rw [e0]; exact Ar1.1) (State.isArrayOf_alike hZ.alike Ar1.2.1) (g := (mkF m 4 #[rv a1, rv a2] [.ref a2, .int 0, .ref a2, .ref a1])) rfl rfl (hb hby d2_4)) ?_
  rw [len_of sz1 nn1]
  show G s₁ (mkF m 5 #[rv a1, rv a2] [.int 0, .int 0, .ref a2, .ref a1])
  refine gb (fun _ k => XS.aconstNull X0.here hx rfl (hb hby d2_5) k) ?_
  show G s₁ (mkF m 6 #[rv a1, rv a2] [.null, .int 0, .int 0, .ref a2, .ref a1])
  have ltS_a1 := E_a1.lt
  obtain ⟨_, _, ⟨T2, Lz2, kz2, nz2⟩, -, X2, hS2, hg2, ⟨Lc2, hQ2, lq2, yq2, zq2, hC2⟩, st2⟩ := X0.specialBackS hx (y := (⟨"java/lang/String", "<init>", "([CIILjava/lang/Void;)V"⟩ : MethodName)) rfl hown (mvT hZ (ow hw 11 rfl)) (mvT hZ (ow hw 12 rfl)) (mvT hZ (ow hw 14 rfl)) (by decide) (backOfSH (W := 0) (rmS4_0 l Z a0 hw [] a1 a2 k2 h0 n0 O hEL E_a1 F_coder_a1 F_value_a1 g_a1 V_a2 ne_a2_a1) hZ (ow hw 14 rfl) (ow hw 3 rfl) (by decide) (by decide) hEL HR.1) (g := (mkF m 6 #[rv a1, rv a2] [.null, .int 0, .int 0, .ref a2, .ref a1])) rfl (by rw [hml]; rfl) (Steps.refl _) (a := a1) (argsL := [(.ref a2), (.int (0 : Int32)), (.int (0 : Int32)), .null]) (rest := []) (lenOf pd_7 rfl) rfl (by show 2 * 0 + _ ≤ _; exact Nat.le_of_eq rfl) (hb hby d2_6) (fun _ _ => ⟨rfl, e0, (by decide : 0 + 4 ≤ _), (by decide : 0 + 8 ≤ _)⟩)
  dsimp only [Pt.U, Pt.locs, Pt.cells, Pt.slots] at X2 lq2 yq2 zq2 st2 hQ2 hS2 hg2 hC2
  subst lq2 yq2 zq2
  obtain ⟨X2, hS, hZ, hown⟩ := rebS hS (Nat.le_trans hk (Nat.le_of_eq (congrArg Array.size e0.symm))) X2 hS2 hg2 hZ hown
  obtain ⟨h2, e2⟩ : ∃ z, z = T2.heap := ⟨_, rfl⟩
  rw [← e2] at hQ2 hC2
  replace e2 := e2.symm
  obtain ⟨b2, kb2, rfl, Nq2, Kq2, hR2⟩ := hQ2
  have N := Fr.app N Nq2
  have Sf_a1 := hC2.safe ltS_a1 Sf_a1
  have HR := HR.trans hC2
  have E_a1 := E_a1.keep Kq2
  have V_a2 := V_a2.keep Kq2 (ninS ne_a2_a1 nin0)
  have hk := Nat.le_trans hk Kq2.1
  have hk : T2.heap.size ≤ h2.size := by rw [e2]; exact Nat.le_refl _
  obtain ⟨E_a1, Fc2, Fv2, Vb2⟩ := hR2
  have O := O.keep Kq2 (allS g_a1 all0)
  have K := K.trans Kq2 (allS (Or.inl (List.mem_of_getElem? (i := 0) rfl)) all0)
  refine gb (fun _ k => st2.trans k) ?_
  show G T2 (mkF m 9 #[rv a1, rv a2] [])
  exact go X2 hS (Nat.le_trans hk (Nat.le_of_eq (congrArg Array.size e2.symm))) (by rw [e2]; exact HR) hZ (v := none) (fun _ => rfl) (fun fs hr => X2.returnOut hx Bd.returns (hb hby d2_9) hr) (by rw [e2]; exact ⟨_, _, rfl, N, K, E_a1, Fc2, Fv2, Vb2⟩) (by decide) (by decide)
def Q_rmS1 (Z : State) (a1 a2 : Addr) (k2 : ClassId) (cs : List Int32) (h0 : Heap) (n0 : Nat) (zc : Int32) : Option Value → Heap → List Loc → Prop := fun v h L => ∃ (b : Addr) (kb : ClassId), v = none ∧ Fr n0 L ∧ Keep h0 h [a1] ∧ Exa Z h a1 "java/lang/String" ∧ Fld Z h a1 "java/lang/String" "coder" "B" (.int (own_cd cs)) ∧ Fld Z h a1 "java/lang/String" "value" "[B" (.ref b) ∧ Arv Z h b kb .byte (Int32.ofNat (own_enc cs).length) ((own_enc cs).map Value.int) (.int (0 : Int32))
set_option maxRecDepth 65536 in
set_option maxHeartbeats 40000000 in
theorem rmS1 (l : Launch) (Z : State) (a0 : Array Value) (hw : ∀ d ∈ tables_1, d.before a0 Z = true) (ws : List Jvm.Cond) (a1 a2 : Addr) (k2 : ClassId) (cs : List Int32) (h0 : Heap) (n0 : Nat) (O : Old Z n0 h0) (hEL : EW Z a0 [("java/lang/String", 7), ("java/lang/StringLatin1", 151), ("java/lang/StringUTF16", 295)]) (S_ad : Sta Z Z.heap "java/lang/StringUTF16" "$assertionsDisabled" "Z" (.int (1 : Int32))) (S_hi : Sta Z Z.heap "java/lang/StringUTF16" "HI_BYTE_SHIFT" "I" (.int (0 : Int32))) (S_lo : Sta Z Z.heap "java/lang/StringUTF16" "LO_BYTE_SHIFT" "I" (.int (8 : Int32))) (E_a1 : Exa Z h0 a1 "java/lang/String") (F_coder_a1 : Fld Z h0 a1 "java/lang/String" "coder" "B" (.int (0 : Int32))) (F_value_a1 : Fld Z h0 a1 "java/lang/String" "value" "[B" .null) (g_a1 : n0 ≤ a1) (V_a2 : Arv Z h0 a2 k2 .char (Int32.ofNat cs.length) (cs.map Value.int) (.int (0 : Int32))) (ne_a2_a1 : a2 ≠ a1) (hR : own_R cs) (zc : Int32) (S_cs : Sta Z Z.heap "java/lang/String" "COMPACT_STRINGS" "Z" (.int zc)) (hzc : ¬ zc = (0 : Int32)) :
    MetFree l (⟨"java/lang/String", "<init>", "([C)V"⟩ : MethodName) (head1 (Jvm.Cond.code (⟨"java/lang/String", "<init>", "([C)V"⟩ : MethodName) jdk_42_method_3_code 2 none :: ws) ({ frames := 5, cells := 4, slots := 18, locals := 74 } : Room)) (fun a U => a = #[(.ref a1), (.ref a2)] ∧ Z.Warmed39 U.vm ∧ U.heap = h0 ∧ CHv Z [("java/lang/String", 7), ("java/lang/StringLatin1", 151), ("java/lang/StringUTF16", 295)] U.vm h0) (fun _ _ _ _ _ => True) (fun _ U o U' => ∃ v L, o = .returned v ∧ (Q_rmS1 Z a1 a2 k2 cs h0 n0 zc) v U'.heap L ∧ CHr Z [("java/lang/String", 7), ("java/lang/StringLatin1", 151), ("java/lang/StringUTF16", 295)] U.vm U.heap U'.vm U'.heap ∧ ReturnedEndW U o U' L ({ frames := 5, cells := 4, slots := 18, locals := 74 } : Room).cells ({ frames := 5, cells := 4, slots := 18, locals := 74 } : Room).slots) := by
  refine MetFree.of_bodySF (plainFor_of_name pn_1) hisR ?_
  intro p e s m args below meth c s₁ Bd hml0 hP hK
  obtain ⟨rfl, hZ, hh, hHC⟩ := hP
  have hx := Bd.exec
  have hby := Bd.bytes
  have hml : c.maxLocals = 2 := hml0
  have hown : s.vm.findClass "java/lang/String" = some m.cls := findClass_of_methodNamed Bd.named
  have hnm := (name_of_methodNamed Bd.named Bd.method).1
  have hlk := BodyLoose.notSynchronized Bd
  have X0 : Stand p l e ({ frames := 5, cells := 4, slots := 18, locals := 74 } : Room) (s.setVm s.vm) m #[(.ref a1), (.ref a2)] below meth c s₁ [] 0 0 := Stand.of_body Bd
  have e0 : s₁.heap = h0 := by rw [← hh, Bd.state]; rfl
  have N := Fr.nil n0
  have hS : s.Since s.vm h0.size := (State.WarmedH.refl s).since _
  have hk := Nat.le_refl h0.size
  have HR : CHr Z [("java/lang/String", 7), ("java/lang/StringLatin1", 151), ("java/lang/StringUTF16", 295)] s.vm h0 s.vm h0 := CHr.refl hHC
  have K := Keep.refl h0 [a1]
  obtain ⟨G, hG⟩ : ∃ G : State → JFrame → Prop, G = OwnGH p e below s Z [("java/lang/String", 7), ("java/lang/StringLatin1", 151), ("java/lang/StringUTF16", 295)] ({ frames := 5, cells := 4, slots := 18, locals := 74 } : Room).cells ({ frames := 5, cells := 4, slots := 18, locals := 74 } : Room).slots (Q_rmS1 Z a1 a2 k2 cs h0 n0 zc) := ⟨_, rfl⟩
  have gb : ∀ {T T' : State} {g g' : JFrame}, (∀ t, Steps p.tables e below (T'.setTop g') t → Steps p.tables e below (T.setTop g) t) → G T' g' → G T g := by subst hG; exact fun k h => own_byH k h
  have go : ∀ {T : State} {locs : List Loc} {cells slots : Nat} {g : JFrame} {v : Option Value} {vm : Vm} {k : Nat}, Stand p l e ({ frames := 5, cells := 4, slots := 18, locals := 74 } : Room) (s.setVm vm) m #[(.ref a1), (.ref a2)] below meth c T locs cells slots → s.Since vm k → k ≤ T.heap.size → CHr Z [("java/lang/String", 7), ("java/lang/StringLatin1", 151), ("java/lang/StringUTF16", 295)] s.vm h0 vm T.heap → Z.Warmed39 vm → (meth.sig.returnType = none → v = none) → (∀ fs, (∀ (f : JFrame) (acts : List Action), f.method = m → f.locked = none → f.entered = [] → (doReturn e (T.setTop f) acts v).1 = T.setFrames fs) → Steps p.tables e below (T.setTop g) (T.setFrames fs)) → (Q_rmS1 Z a1 a2 k2 cs h0 n0 zc) v T.heap locs → cells ≤ ({ frames := 5, cells := 4, slots := 18, locals := 74 } : Room).cells → slots ≤ ({ frames := 5, cells := 4, slots := 18, locals := 74 } : Room).slots → G T g := by subst hG; exact fun X a b c' d h1 h2 h3 h4 h5 => own_outH X hh hEL a b c' d hlk h1 h2 h3 h4 h5
  show OwnGH p e below s Z [("java/lang/String", 7), ("java/lang/StringLatin1", 151), ("java/lang/StringUTF16", 295)] ({ frames := 5, cells := 4, slots := 18, locals := 74 } : Room).cells ({ frames := 5, cells := 4, slots := 18, locals := 74 } : Room).slots (Q_rmS1 Z a1 a2 k2 cs h0 n0 zc) s₁ (entryFrame m #[(.ref a1), (.ref a2)] 2)
  rw [← hG, ef_rmS1 m a1 a2]
  clear hG
  show G s₁ (mkF m 0 #[.val (.ref a1), .val (.ref a2)] [])
  have Sf_a1 : Safe Z [("java/lang/String", 7), ("java/lang/StringLatin1", 151), ("java/lang/StringUTF16", 295)] s.vm h0 a1 := own_safe0 hZ.alike E_a1 F_value_a1
  refine gb (fun _ k => XS.aloadN X0.here hx rfl (hb hby d2_0) rfl rfl (XS.aloadN X0.here hx rfl (hb hby d2_1) rfl rfl (XS.iconst X0.here hx rfl (hb hby d2_2) (XS.aloadN X0.here hx rfl (hb hby d2_3) rfl rfl k)))) ?_
  show G s₁ (mkF m 4 #[rv a1, rv a2] [.ref a2, .int 0, .ref a2, .ref a1])
  have V'1 := V_a2
  obtain ⟨cl1, Ar1, qk1, sz1, nn1, hs1, ft1⟩ := V'1
  refine gb (X0.arraylength hx (by rw [e0]; exact Ar1.1) (State.isArrayOf_alike hZ.alike Ar1.2.1) (g := (mkF m 4 #[rv a1, rv a2] [.ref a2, .int 0, .ref a2, .ref a1])) rfl rfl (hb hby d2_4)) ?_
  rw [len_of sz1 nn1]
  show G s₁ (mkF m 5 #[rv a1, rv a2] [.int (Int32.ofNat cs.length), .int 0, .ref a2, .ref a1])
  refine gb (fun _ k => XS.aconstNull X0.here hx rfl (hb hby d2_5) k) ?_
  show G s₁ (mkF m 6 #[rv a1, rv a2] [.null, .int (Int32.ofNat cs.length), .int 0, .ref a2, .ref a1])
  by_cases hcs : cs = []
  · skip
    rw [show Int32.ofNat cs.length = (0 : Int32) from by rw [hcs]; rfl]
    show G s₁ (mkF m 6 #[rv a1, rv a2] [.null, .int 0, .int 0, .ref a2, .ref a1])
    have V_a2 : Arv Z h0 a2 k2 .char (0 : Int32) [] (.int (0 : Int32)) := by rw [hcs] at V_a2; exact V_a2
    have ltS_a1 := E_a1.lt
    obtain ⟨_, _, ⟨T2, Lz2, kz2, nz2⟩, -, X2, hS2, hg2, ⟨Lc2, hQ2, lq2, yq2, zq2, hC2⟩, st2⟩ := X0.specialBackS hx (y := (⟨"java/lang/String", "<init>", "([CIILjava/lang/Void;)V"⟩ : MethodName)) rfl hown (mvT hZ (ow hw 11 rfl)) (mvT hZ (ow hw 12 rfl)) (mvT hZ (ow hw 14 rfl)) (by decide) (backOfSH (W := 0) (rmS4_0 l Z a0 hw [] a1 a2 k2 h0 n0 O hEL E_a1 F_coder_a1 F_value_a1 g_a1 V_a2 ne_a2_a1) hZ (ow hw 14 rfl) (ow hw 3 rfl) (by decide) (by decide) hEL HR.1) (g := (mkF m 6 #[rv a1, rv a2] [.null, .int 0, .int 0, .ref a2, .ref a1])) rfl (by rw [hml]; rfl) (Steps.refl _) (a := a1) (argsL := [(.ref a2), (.int (0 : Int32)), (.int (0 : Int32)), .null]) (rest := []) (lenOf pd_7 rfl) rfl (by show 2 * 0 + _ ≤ _; exact Nat.le_of_eq rfl) (hb hby d2_6) (fun _ _ => ⟨rfl, e0, (by decide : 0 + 4 ≤ _), (by decide : 0 + 8 ≤ _)⟩)
    dsimp only [Pt.U, Pt.locs, Pt.cells, Pt.slots] at X2 lq2 yq2 zq2 st2 hQ2 hS2 hg2 hC2
    subst lq2 yq2 zq2
    obtain ⟨X2, hS, hZ, hown⟩ := rebS hS (Nat.le_trans hk (Nat.le_of_eq (congrArg Array.size e0.symm))) X2 hS2 hg2 hZ hown
    obtain ⟨h2, e2⟩ : ∃ z, z = T2.heap := ⟨_, rfl⟩
    rw [← e2] at hQ2 hC2
    replace e2 := e2.symm
    obtain ⟨b2, kb2, rfl, Nq2, Kq2, hR2⟩ := hQ2
    have N := Fr.app N Nq2
    have Sf_a1 := hC2.safe ltS_a1 Sf_a1
    have HR := HR.trans hC2
    have E_a1 := E_a1.keep Kq2
    have V_a2 := V_a2.keep Kq2 (ninS ne_a2_a1 nin0)
    have hk := Nat.le_trans hk Kq2.1
    have hk : T2.heap.size ≤ h2.size := by rw [e2]; exact Nat.le_refl _
    obtain ⟨E_a1, Fc2, Fv2, Vb2⟩ := hR2
    have O := O.keep Kq2 (allS g_a1 all0)
    have K := K.trans Kq2 (allS (Or.inl (List.mem_of_getElem? (i := 0) rfl)) all0)
    refine gb (fun _ k => st2.trans k) ?_
    show G T2 (mkF m 9 #[rv a1, rv a2] [])
    exact go X2 hS (Nat.le_trans hk (Nat.le_of_eq (congrArg Array.size e2.symm))) (by rw [e2]; exact HR) hZ (v := none) (fun _ => rfl) (fun fs hr => X2.returnOut hx Bd.returns (hb hby d2_9) hr) (by rw [e2]; exact ⟨_, _, rfl, N, K, E_a1, by rw [hcs]; exact Fc2, Fv2, by rw [hcs]; exact Vb2⟩) (by decide) (by decide)
  · skip
    have Sk3 : ∀ x ∈ [a1], Safe Z [("java/lang/String", 7), ("java/lang/StringLatin1", 151), ("java/lang/StringUTF16", 295)] _ _ x := (sfS Sf_a1 sf0)
    obtain ⟨_, _, ⟨T3, Lz3, kz3, nz3⟩, -, X3, ⟨Lc3, hQ3, lq3, yq3, zq3⟩, st3⟩ := X0.specialBack hx (y := (⟨"java/lang/String", "<init>", "([CIILjava/lang/Void;)V"⟩ : MethodName)) rfl hown (mvT hZ (ow hw 11 rfl)) (mvT hZ (ow hw 12 rfl)) (mvT hZ (ow hw 14 rfl)) (by decide) (backOf (W := 0) (rmS4 l Z a0 hw [] a1 a2 k2 cs h0 n0 O (own_pos hcs) S_ad S_hi S_lo E_a1 F_coder_a1 F_value_a1 g_a1 V_a2 ne_a2_a1 hR zc S_cs hzc) hZ (ow hw 14 rfl) (ow hw 3 rfl) (by decide) (by decide)) (g := (mkF m 6 #[rv a1, rv a2] [.null, .int (Int32.ofNat cs.length), .int 0, .ref a2, .ref a1])) rfl (by rw [hml]; rfl) (Steps.refl _) (a := a1) (argsL := [(.ref a2), (.int (0 : Int32)), (.int (Int32.ofNat cs.length)), .null]) (rest := []) (lenOf pd_7 rfl) rfl (by show 2 * 0 + _ ≤ _; exact Nat.le_of_eq rfl) (hb hby d2_6) (fun _ _ => ⟨rfl, e0, (by decide : 0 + 2 ≤ _), (by decide : 0 + 18 ≤ _)⟩)
    dsimp only [Pt.U, Pt.locs, Pt.cells, Pt.slots] at X3 lq3 yq3 zq3 st3 hQ3
    subst lq3 yq3 zq3
    obtain ⟨h3, e3⟩ : ∃ z, z = T3.heap := ⟨_, rfl⟩
    rw [← e3] at hQ3
    replace e3 := e3.symm
    obtain ⟨b3, kb3, rfl, Nq3, Kq3, hR3⟩ := hQ3
    have N := Fr.app N Nq3
    have Sf_a1 := Safe.keep Kq3 Sk3 HR.1 Sf_a1
    have HR := HR.trans (CHr.keep Kq3 Sk3 HR.1)
    have E_a1 := E_a1.keep Kq3
    have V_a2 := V_a2.keep Kq3 (ninS ne_a2_a1 nin0)
    have hk := Nat.le_trans hk Kq3.1
    obtain ⟨E_a1, Fc3, Fv3, Vb3⟩ := hR3
    have O := O.keep Kq3 (allS g_a1 all0)
    have K := K.trans Kq3 (allS (Or.inl (List.mem_of_getElem? (i := 0) rfl)) all0)
    refine gb (fun _ k => st3.trans k) ?_
    show G T3 (mkF m 9 #[rv a1, rv a2] [])
    exact go X3 hS (Nat.le_trans hk (Nat.le_of_eq (congrArg Array.size e3.symm))) (by rw [e3]; exact HR) hZ (v := none) (fun _ => rfl) (fun fs hr => X3.returnOut hx Bd.returns (hb hby d2_9) hr) (by rw [e3]; exact ⟨_, _, rfl, N, K, E_a1, Fc3, Fv3, Vb3⟩) (by decide) (by decide)
theorem own_or {n k : Nat} (hn : n ≤ 6) (hk : k ≤ 6) : ¬ ((Int32.ofNat n ||| (0 : Int32)) ||| Int32.ofNat k) < 0 := by
  rcases own_7 hn with rfl | rfl | rfl | rfl | rfl | rfl | rfl <;> rcases own_7 hk with rfl | rfl | rfl | rfl | rfl | rfl | rfl <;> decide
theorem own_sub0 (x : Int32) : x - (0 : Int32) = x := Int32.sub_zero x
theorem own_0add (x : Int32) : (0 : Int32) + x = x := Int32.zero_add x
theorem own_map_getD (cs : List Int32) (i : Nat) (h : i < cs.length) : (cs.map own_lb).getD i 0 = own_lb (cs.getD i 0) := by
  simp only [List.getD_eq_getElem?_getD, List.getElem?_map, List.getElem?_eq_getElem h]; rfl
/-- what System.arraycopy leaves of a fresh array -/
theorem own_cpy {xs : List Int32} {t : Nat} (ht : t ≤ xs.length) : ((List.replicate t (Value.int 0)).take 0 ++ ((List.range t).map fun i => (xs.map Value.int).getD (0 + i) (.int (0 : Int32))) ++ (List.replicate t (Value.int 0)).drop (0 + t)) = (xs.take t).map Value.int := by
  have e1 : (List.replicate t (Value.int 0)).drop (0 + t) = [] := by simp
  rw [e1, List.append_nil]
  show ((List.range t).map fun i => (xs.map Value.int).getD (0 + i) (.int (0 : Int32))) = (xs.take t).map Value.int
  apply List.ext_getElem
  · simp; omega
  · intro i h1 h2
    have hi : i < t := by simpa using h1
    simp [List.getD_eq_getElem?_getD, show i < xs.length by omega]
abbrev own_hs (c : Int32) : Prop := ¬ c < (55296 : Int32) ∧ c < (56320 : Int32)
abbrev own_lw (c : Int32) : Prop := ¬ c < (56320 : Int32) ∧ c < (57344 : Int32)
def own_tcp (c d : Int32) : Int32 := ((c <<< ((10 : Int32) &&& 31)) + d) + (-56613888 : Int32)
def own_cpt (cs : List Int32) (i : Nat) : Int32 := if own_hs (cs.getD i 0) ∧ i + 1 < cs.length ∧ own_lw (cs.getD (i + 1) 0) then own_tcp (cs.getD i 0) (cs.getD (i + 1) 0) else cs.getD i 0
theorem own_cptL {cs : List Int32} {i : Nat} (h : ¬ (255 : Int32) < cs.getD i 0) : own_cpt cs i = cs.getD i 0 := by
  unfold own_cpt
  rw [if_neg]
  rintro ⟨⟨q, -⟩, -⟩
  have a1 : (255 : Int32).toInt = 255 := rfl
  have a2 : (55296 : Int32).toInt = 55296 := rfl
  rw [Int32.lt_iff_toInt_lt] at h q
  omega
def own_sz (p : Int32) : Int32 := if p < (128 : Int32) then (1 : Int32) else if p < (2048 : Int32) then (2 : Int32) else if p < (65536 : Int32) then (3 : Int32) else (4 : Int32)
def own_cc (p : Int32) : Int32 := if p < (65536 : Int32) then (1 : Int32) else (2 : Int32)
def Q_rmCd (Z : State) (a1 : Addr) (cs : List Int32) (h0 : Heap) (n0 : Nat) (zc : Int32) : Option Value → Heap → List Loc → Prop := fun v h L => v = some (.int (own_cd cs)) ∧ L = [] ∧ h = h0
set_option maxRecDepth 65536 in
set_option maxHeartbeats 40000000 in
theorem rmCd (l : Launch) (Z : State) (a0 : Array Value) (hw : ∀ d ∈ tables_1, d.before a0 Z = true) (ws : List Jvm.Cond) (a1 : Addr) (cs : List Int32) (h0 : Heap) (n0 : Nat) (O : Old Z n0 h0) (F_coder_a1 : Fld Z h0 a1 "java/lang/String" "coder" "B" (.int (own_cd cs))) (zc : Int32) (S_cs : Sta Z Z.heap "java/lang/String" "COMPACT_STRINGS" "Z" (.int zc)) (hzc : ¬ zc = (0 : Int32)) :
    MetFree l (⟨"java/lang/String", "coder", "()B"⟩ : MethodName) (head1 (Jvm.Cond.code (⟨"java/lang/String", "coder", "()B"⟩ : MethodName) jdk_42_method_152_code 1 (some .byte) :: ws) ({ frames := 0, cells := 0, slots := 0, locals := 0 } : Room)) (fun a U => a = #[(.ref a1)] ∧ Z.Warmed39 U.vm ∧ U.heap = h0) (fun _ _ _ _ _ => True) (fun _ U o U' => ∃ v L, o = .returned v ∧ (Q_rmCd Z a1 cs h0 n0 zc) v U'.heap L ∧ FrameEnd U o U' L ({ frames := 0, cells := 0, slots := 0, locals := 0 } : Room).cells ({ frames := 0, cells := 0, slots := 0, locals := 0 } : Room).slots) := by
  refine MetFree.of_bodySF (plainFor_of_name pn_1) hisR ?_
  intro p e s m args below meth c s₁ Bd hml0 hP hK
  obtain ⟨rfl, hZ, hh⟩ := hP
  have hx := Bd.exec
  have hby := Bd.bytes
  have hml : c.maxLocals = 1 := hml0
  have hown : s.vm.findClass "java/lang/String" = some m.cls := findClass_of_methodNamed Bd.named
  have hnm := (name_of_methodNamed Bd.named Bd.method).1
  have hlk := BodyLoose.notSynchronized Bd
  have X0 : Stand p l e ({ frames := 0, cells := 0, slots := 0, locals := 0 } : Room) s m #[(.ref a1)] below meth c s₁ [] 0 0 := Stand.of_body Bd
  have e0 : s₁.heap = h0 := by rw [← hh, Bd.state]; rfl
  have N := Fr.nil n0
  obtain ⟨G, hG⟩ : ∃ G : State → JFrame → Prop, G = OwnG p e below s ({ frames := 0, cells := 0, slots := 0, locals := 0 } : Room).cells ({ frames := 0, cells := 0, slots := 0, locals := 0 } : Room).slots (Q_rmCd Z a1 cs h0 n0 zc) := ⟨_, rfl⟩
  have gb : ∀ {T T' : State} {g g' : JFrame}, (∀ t, Steps p.tables e below (T'.setTop g') t → Steps p.tables e below (T.setTop g) t) → G T' g' → G T g := by subst hG; exact fun k h => own_by k h
  have go : ∀ {T : State} {locs : List Loc} {cells slots : Nat} {g : JFrame} {v : Option Value}, Stand p l e ({ frames := 0, cells := 0, slots := 0, locals := 0 } : Room) s m #[(.ref a1)] below meth c T locs cells slots → (meth.sig.returnType = none → v = none) → (∀ fs, (∀ (f : JFrame) (acts : List Action), f.method = m → f.locked = none → f.entered = [] → (doReturn e (T.setTop f) acts v).1 = T.setFrames fs) → Steps p.tables e below (T.setTop g) (T.setFrames fs)) → (Q_rmCd Z a1 cs h0 n0 zc) v T.heap locs → cells ≤ ({ frames := 0, cells := 0, slots := 0, locals := 0 } : Room).cells → slots ≤ ({ frames := 0, cells := 0, slots := 0, locals := 0 } : Room).slots → G T g := by subst hG; exact fun X h1 h2 h3 h4 h5 => own_out X hlk h1 h2 h3 h4 h5
  show OwnG p e below s ({ frames := 0, cells := 0, slots := 0, locals := 0 } : Room).cells ({ frames := 0, cells := 0, slots := 0, locals := 0 } : Room).slots (Q_rmCd Z a1 cs h0 n0 zc) s₁ (entryFrame m #[(.ref a1)] 1)
  rw [← hG, ef_rmCd m a1]
  clear hG
  show G s₁ (mkF m 0 #[.val (.ref a1)] [])
  obtain ⟨T1, X1, e1, st1⟩ := getS2 X0 hx hZ hown (host := "") (Or.inl (ow hw 43 rfl)) Via.refl e0 (S_cs.ext O.2) (g := (mkF m 0 #[rv a1] [])) rfl (hb hby d8_0)
  refine gb st1 ?_
  show G T1 (mkF m 3 #[rv a1] [.int zc])
  refine gb (fun _ k => XS.ifNo X1.here hx rfl (hb hby d8_3) rfl ((if0 _ _).trans (feq hzc).1) (XS.aloadN X1.here hx rfl (hb hby d8_6) rfl rfl k)) ?_
  show G T1 (mkF m 7 #[rv a1] [.ref a1])
  obtain ⟨T2, X2, e2, st2⟩ := getF X1 hx hZ hown (host := "") (Or.inl (ow hw 25 rfl)) Via.refl e1 F_coder_a1 (g := (mkF m 7 #[rv a1] [.ref a1])) rfl rfl (hb hby d8_7)
  refine gb st2 ?_
  show G T2 (mkF m 10 #[rv a1] [.int (own_cd cs)])
  refine gb (fun _ k => XS.goto X2.here hx rfl (pc0 := 10) (pc' := 14) rfl (hb hby d8_10) (by decide) (by decide) k) ?_
  show G T2 (mkF m 14 #[rv a1] [.int (own_cd cs)])
  exact go X2 (v := (some (.int (own_cd cs)))) (fun h => by rw [Bd.returns] at h; cases h) (fun fs hr => retOut X2 hx Bd.returns (own_cdn cs) (Or.inl ⟨rfl, by simp, _, rfl⟩) (hb hby d8_14) hr) (⟨rfl, rfl, e2⟩) (by decide) (by decide)
def Q_rmLn (Z : State) (a1 a2 : Addr) (k2 : ClassId) (cs : List Int32) (h0 : Heap) (n0 : Nat) (zc : Int32) : Option Value → Heap → List Loc → Prop := fun v h L => v = some (.int (Int32.ofNat cs.length)) ∧ L = [] ∧ h = h0
set_option maxRecDepth 65536 in
set_option maxHeartbeats 40000000 in
theorem rmLn (l : Launch) (Z : State) (a0 : Array Value) (hw : ∀ d ∈ tables_1, d.before a0 Z = true) (ws : List Jvm.Cond) (a1 a2 : Addr) (k2 : ClassId) (cs : List Int32) (h0 : Heap) (n0 : Nat) (O : Old Z n0 h0) (E_a1 : Exa Z h0 a1 "java/lang/String") (F_coder_a1 : Fld Z h0 a1 "java/lang/String" "coder" "B" (.int (own_cd cs))) (F_value_a1 : Fld Z h0 a1 "java/lang/String" "value" "[B" (.ref a2)) (V_a2 : Arv Z h0 a2 k2 .byte (Int32.ofNat (own_enc cs).length) ((own_enc cs).map Value.int) (.int (0 : Int32))) (zc : Int32) (S_cs : Sta Z Z.heap "java/lang/String" "COMPACT_STRINGS" "Z" (.int zc)) (hzc : ¬ zc = (0 : Int32)) (hR : own_R cs) :
    MetFree l (⟨"java/lang/String", "length", "()I"⟩ : MethodName) (head1 (Jvm.Cond.code (⟨"java/lang/String", "length", "()I"⟩ : MethodName) jdk_42_method_54_code 1 (some .int) :: ws) ({ frames := 1, cells := 0, slots := 0, locals := 13 } : Room)) (fun a U => a = #[(.ref a1)] ∧ Z.Warmed39 U.vm ∧ U.heap = h0) (fun _ _ _ _ _ => True) (fun _ U o U' => ∃ v L, o = .returned v ∧ (Q_rmLn Z a1 a2 k2 cs h0 n0 zc) v U'.heap L ∧ FrameEnd U o U' L ({ frames := 1, cells := 0, slots := 0, locals := 13 } : Room).cells ({ frames := 1, cells := 0, slots := 0, locals := 13 } : Room).slots) := by
  refine MetFree.of_bodySF (plainFor_of_name pn_1) hisR ?_
  intro p e s m args below meth c s₁ Bd hml0 hP hK
  obtain ⟨rfl, hZ, hh⟩ := hP
  have hx := Bd.exec
  have hby := Bd.bytes
  have hml : c.maxLocals = 1 := hml0
  have hown : s.vm.findClass "java/lang/String" = some m.cls := findClass_of_methodNamed Bd.named
  have hnm := (name_of_methodNamed Bd.named Bd.method).1
  have hlk := BodyLoose.notSynchronized Bd
  have X0 : Stand p l e ({ frames := 1, cells := 0, slots := 0, locals := 13 } : Room) s m #[(.ref a1)] below meth c s₁ [] 0 0 := Stand.of_body Bd
  have e0 : s₁.heap = h0 := by rw [← hh, Bd.state]; rfl
  have N := Fr.nil n0
  obtain ⟨G, hG⟩ : ∃ G : State → JFrame → Prop, G = OwnG p e below s ({ frames := 1, cells := 0, slots := 0, locals := 13 } : Room).cells ({ frames := 1, cells := 0, slots := 0, locals := 13 } : Room).slots (Q_rmLn Z a1 a2 k2 cs h0 n0 zc) := ⟨_, rfl⟩
  have gb : ∀ {T T' : State} {g g' : JFrame}, (∀ t, Steps p.tables e below (T'.setTop g') t → Steps p.tables e below (T.setTop g) t) → G T' g' → G T g := by subst hG; exact fun k h => own_by k h
  have go : ∀ {T : State} {locs : List Loc} {cells slots : Nat} {g : JFrame} {v : Option Value}, Stand p l e ({ frames := 1, cells := 0, slots := 0, locals := 13 } : Room) s m #[(.ref a1)] below meth c T locs cells slots → (meth.sig.returnType = none → v = none) → (∀ fs, (∀ (f : JFrame) (acts : List Action), f.method = m → f.locked = none → f.entered = [] → (doReturn e (T.setTop f) acts v).1 = T.setFrames fs) → Steps p.tables e below (T.setTop g) (T.setFrames fs)) → (Q_rmLn Z a1 a2 k2 cs h0 n0 zc) v T.heap locs → cells ≤ ({ frames := 1, cells := 0, slots := 0, locals := 13 } : Room).cells → slots ≤ ({ frames := 1, cells := 0, slots := 0, locals := 13 } : Room).slots → G T g := by subst hG; exact fun X h1 h2 h3 h4 h5 => own_out X hlk h1 h2 h3 h4 h5
  show OwnG p e below s ({ frames := 1, cells := 0, slots := 0, locals := 13 } : Room).cells ({ frames := 1, cells := 0, slots := 0, locals := 13 } : Room).slots (Q_rmLn Z a1 a2 k2 cs h0 n0 zc) s₁ (entryFrame m #[(.ref a1)] 1)
  rw [← hG, ef_rmLn m a1]
  clear hG
  show G s₁ (mkF m 0 #[.val (.ref a1)] [])
  refine gb (fun _ k => XS.aloadN X0.here hx rfl (hb hby d7_0) rfl rfl k) ?_
  show G s₁ (mkF m 1 #[rv a1] [.ref a1])
  obtain ⟨T1, X1, e1, st1⟩ := getF X0 hx hZ hown (host := "") (Or.inl (ow hw 24 rfl)) Via.refl e0 F_value_a1 (g := (mkF m 1 #[rv a1] [.ref a1])) rfl rfl (hb hby d7_1)
  refine gb st1 ?_
  show G T1 (mkF m 4 #[rv a1] [.ref a2])
  have V'2 := V_a2
  obtain ⟨cl2, Ar2, qk2, sz2, nn2, hs2, ft2⟩ := V'2
  refine gb (X1.arraylength hx (by rw [e1]; exact Ar2.1) (State.isArrayOf_alike hZ.alike Ar2.2.1) (g := (mkF m 4 #[rv a1] [.ref a2])) rfl rfl (hb hby d7_4)) ?_
  rw [len_of sz2 nn2]
  show G T1 (mkF m 5 #[rv a1] [.int (Int32.ofNat (own_enc cs).length)])
  refine gb (fun _ k => XS.aloadN X1.here hx rfl (hb hby d7_5) rfl rfl k) ?_
  show G T1 (mkF m 6 #[rv a1] [.ref a1, .int (Int32.ofNat (own_enc cs).length)])
  obtain ⟨cq3, kq3, q3a, q3b, q3c⟩ := isOf hZ e1 E_a1
  obtain ⟨_, _, ⟨T3, Lz3, kz3, nz3⟩, -, X3, ⟨Lc3, hQ3, lq3, yq3, zq3⟩, st3⟩ := X1.virtualBack hx (y := (⟨"java/lang/String", "coder", "()B"⟩ : MethodName)) (z := (⟨"java/lang/String", "coder", "()B"⟩ : MethodName)) hown (mvT hZ (ow hw 38 rfl)) (mvT hZ (ow hw 39 rfl)) (notFace_of_selects (args := #[]) (mvT hZ (ow hw 41 rfl))) (mvT hZ (ow hw 41 rfl)) (mvT hZ (ow hw 40 rfl)) (by decide) (backOf (W := 1) (rmCd l Z a0 hw [] a1 cs h0 n0 O F_coder_a1 zc S_cs hzc) hZ (ow hw 42 rfl) (ow hw 3 rfl) (by decide) (by decide)) q3a q3c (g := (mkF m 6 #[rv a1] [.ref a1, .int (Int32.ofNat (own_enc cs).length)])) rfl (by rw [hml]; rfl) (Steps.refl _) (argsL := []) (rest := [(.int (Int32.ofNat (own_enc cs).length))]) (lenOf pd_8 rfl) rfl (by show 2 * 0 + _ ≤ _; exact Nat.le_of_eq rfl) (hb hby d7_6) (fun _ _ => ⟨rfl, e1, (by decide : 0 + 0 ≤ _), (by decide : 0 + 0 ≤ _)⟩)
  dsimp only [Pt.U, Pt.locs, Pt.cells, Pt.slots] at X3 lq3 yq3 zq3 st3 hQ3
  subst lq3 yq3 zq3
  obtain ⟨rfl, rfl, e3⟩ := hQ3
  try rw [List.append_nil] at X3
  refine gb (fun _ k => st3.trans k) ?_
  show G T3 (mkF m 9 #[rv a1] [.int (own_cd cs), .int (Int32.ofNat (own_enc cs).length)])
  refine gb (fun _ k => XS.ishr X3.here hx rfl (hb hby d7_9) rfl k) ?_
  show G T3 (mkF m 10 #[rv a1] [.int ((Int32.ofNat (own_enc cs).length) >>> ((own_cd cs) &&& 31))])
  rw [own_ls hR]
  show G T3 (mkF m 10 #[rv a1] [.int (Int32.ofNat cs.length)])
  exact go X3 (v := (some (.int (Int32.ofNat cs.length)))) (fun h => by rw [Bd.returns] at h; cases h) (fun fs hr => retOut X3 hx Bd.returns rfl (Or.inl ⟨rfl, by simp, _, rfl⟩) (hb hby d7_10) hr) (⟨rfl, rfl, e3⟩) (by decide) (by decide)
def Q_rmILL (Z : State) (a1 : Addr) (cs : List Int32) (h0 : Heap) (n0 : Nat) (zc : Int32) : Option Value → Heap → List Loc → Prop := fun v h L => v = some (.int (1 : Int32)) ∧ L = [] ∧ h = h0
set_option maxRecDepth 65536 in
set_option maxHeartbeats 40000000 in
theorem rmILL (l : Launch) (Z : State) (a0 : Array Value) (hw : ∀ d ∈ tables_1, d.before a0 Z = true) (ws : List Jvm.Cond) (a1 : Addr) (cs : List Int32) (h0 : Heap) (n0 : Nat) (O : Old Z n0 h0) (F_coder_a1 : Fld Z h0 a1 "java/lang/String" "coder" "B" (.int (own_cd cs))) (zc : Int32) (S_cs : Sta Z Z.heap "java/lang/String" "COMPACT_STRINGS" "Z" (.int zc)) (hzc : ¬ zc = (0 : Int32)) (hL : own_kk cs = cs.length) :
    MetFree l (⟨"java/lang/String", "isLatin1", "()Z"⟩ : MethodName) (head1 (Jvm.Cond.code (⟨"java/lang/String", "isLatin1", "()Z"⟩ : MethodName) jdk_42_method_154_code 1 (some .boolean) :: ws) ({ frames := 0, cells := 0, slots := 0, locals := 0 } : Room)) (fun a U => a = #[(.ref a1)] ∧ Z.Warmed39 U.vm ∧ U.heap = h0) (fun _ _ _ _ _ => True) (fun _ U o U' => ∃ v L, o = .returned v ∧ (Q_rmILL Z a1 cs h0 n0 zc) v U'.heap L ∧ FrameEnd U o U' L ({ frames := 0, cells := 0, slots := 0, locals := 0 } : Room).cells ({ frames := 0, cells := 0, slots := 0, locals := 0 } : Room).slots) := by
  refine MetFree.of_bodySF (plainFor_of_name pn_1) hisR ?_
  intro p e s m args below meth c s₁ Bd hml0 hP hK
  obtain ⟨rfl, hZ, hh⟩ := hP
  have hx := Bd.exec
  have hby := Bd.bytes
  have hml : c.maxLocals = 1 := hml0
  have hown : s.vm.findClass "java/lang/String" = some m.cls := findClass_of_methodNamed Bd.named
  have hnm := (name_of_methodNamed Bd.named Bd.method).1
  have hlk := BodyLoose.notSynchronized Bd
  have X0 : Stand p l e ({ frames := 0, cells := 0, slots := 0, locals := 0 } : Room) s m #[(.ref a1)] below meth c s₁ [] 0 0 := Stand.of_body Bd
  have e0 : s₁.heap = h0 := by rw [← hh, Bd.state]; rfl
  have N := Fr.nil n0
  obtain ⟨G, hG⟩ : ∃ G : State → JFrame → Prop, G = OwnG p e below s ({ frames := 0, cells := 0, slots := 0, locals := 0 } : Room).cells ({ frames := 0, cells := 0, slots := 0, locals := 0 } : Room).slots (Q_rmILL Z a1 cs h0 n0 zc) := ⟨_, rfl⟩
  have gb : ∀ {T T' : State} {g g' : JFrame}, (∀ t, Steps p.tables e below (T'.setTop g') t → Steps p.tables e below (T.setTop g) t) → G T' g' → G T g := by subst hG; exact fun k h => own_by k h
  have go : ∀ {T : State} {locs : List Loc} {cells slots : Nat} {g : JFrame} {v : Option Value}, Stand p l e ({ frames := 0, cells := 0, slots := 0, locals := 0 } : Room) s m #[(.ref a1)] below meth c T locs cells slots → (meth.sig.returnType = none → v = none) → (∀ fs, (∀ (f : JFrame) (acts : List Action), f.method = m → f.locked = none → f.entered = [] → (doReturn e (T.setTop f) acts v).1 = T.setFrames fs) → Steps p.tables e below (T.setTop g) (T.setFrames fs)) → (Q_rmILL Z a1 cs h0 n0 zc) v T.heap locs → cells ≤ ({ frames := 0, cells := 0, slots := 0, locals := 0 } : Room).cells → slots ≤ ({ frames := 0, cells := 0, slots := 0, locals := 0 } : Room).slots → G T g := by subst hG; exact fun X h1 h2 h3 h4 h5 => own_out X hlk h1 h2 h3 h4 h5
  show OwnG p e below s ({ frames := 0, cells := 0, slots := 0, locals := 0 } : Room).cells ({ frames := 0, cells := 0, slots := 0, locals := 0 } : Room).slots (Q_rmILL Z a1 cs h0 n0 zc) s₁ (entryFrame m #[(.ref a1)] 1)
  rw [← hG, ef_rmILL m a1]
  clear hG
  show G s₁ (mkF m 0 #[.val (.ref a1)] [])
  obtain ⟨T1, X1, e1, st1⟩ := getS2 X0 hx hZ hown (host := "") (Or.inl (ow hw 43 rfl)) Via.refl e0 (S_cs.ext O.2) (g := (mkF m 0 #[rv a1] [])) rfl (hb hby d26_0)
  refine gb st1 ?_
  show G T1 (mkF m 3 #[rv a1] [.int zc])
  refine gb (fun _ k => XS.ifNo X1.here hx rfl (hb hby d26_3) rfl ((if0 _ _).trans (feq hzc).1) (XS.aloadN X1.here hx rfl (hb hby d26_6) rfl rfl k)) ?_
  show G T1 (mkF m 7 #[rv a1] [.ref a1])
  obtain ⟨T2, X2, e2, st2⟩ := getF X1 hx hZ hown (host := "") (Or.inl (ow hw 25 rfl)) Via.refl e1 F_coder_a1 (g := (mkF m 7 #[rv a1] [.ref a1])) rfl rfl (hb hby d26_7)
  refine gb st2 ?_
  show G T2 (mkF m 10 #[rv a1] [.int (own_cd cs)])
  refine gb (fun _ k => XS.ifNo X2.here hx rfl (hb hby d26_10) rfl ((if0 _ _).trans (teq (own_cL hL)).2) (XS.iconst X2.here hx rfl (hb hby d26_13) (XS.goto X2.here hx rfl (pc0 := 14) (pc' := 18) rfl (hb hby d26_14) (by decide) (by decide) k))) ?_
  show G T2 (mkF m 18 #[rv a1] [.int 1])
  exact go X2 (v := (some (.int (1 : Int32)))) (fun h => by rw [Bd.returns] at h; cases h) (fun fs hr => retOut X2 hx Bd.returns rfl (Or.inl ⟨rfl, by simp, _, rfl⟩) (hb hby d26_18) hr) (⟨rfl, rfl, e2⟩) (by decide) (by decide)
def Q_rmILU (Z : State) (a1 : Addr) (cs : List Int32) (h0 : Heap) (n0 : Nat) (zc : Int32) : Option Value → Heap → List Loc → Prop := fun v h L => v = some (.int (0 : Int32)) ∧ L = [] ∧ h = h0
set_option maxRecDepth 65536 in
set_option maxHeartbeats 40000000 in
theorem rmILU (l : Launch) (Z : State) (a0 : Array Value) (hw : ∀ d ∈ tables_1, d.before a0 Z = true) (ws : List Jvm.Cond) (a1 : Addr) (cs : List Int32) (h0 : Heap) (n0 : Nat) (O : Old Z n0 h0) (F_coder_a1 : Fld Z h0 a1 "java/lang/String" "coder" "B" (.int (own_cd cs))) (zc : Int32) (S_cs : Sta Z Z.heap "java/lang/String" "COMPACT_STRINGS" "Z" (.int zc)) (hzc : ¬ zc = (0 : Int32)) (hL : ¬ own_kk cs = cs.length) :
    MetFree l (⟨"java/lang/String", "isLatin1", "()Z"⟩ : MethodName) (head1 (Jvm.Cond.code (⟨"java/lang/String", "isLatin1", "()Z"⟩ : MethodName) jdk_42_method_154_code 1 (some .boolean) :: ws) ({ frames := 0, cells := 0, slots := 0, locals := 0 } : Room)) (fun a U => a = #[(.ref a1)] ∧ Z.Warmed39 U.vm ∧ U.heap = h0) (fun _ _ _ _ _ => True) (fun _ U o U' => ∃ v L, o = .returned v ∧ (Q_rmILU Z a1 cs h0 n0 zc) v U'.heap L ∧ FrameEnd U o U' L ({ frames := 0, cells := 0, slots := 0, locals := 0 } : Room).cells ({ frames := 0, cells := 0, slots := 0, locals := 0 } : Room).slots) := by
  refine MetFree.of_bodySF (plainFor_of_name pn_1) hisR ?_
  intro p e s m args below meth c s₁ Bd hml0 hP hK
  obtain ⟨rfl, hZ, hh⟩ := hP
  have hx := Bd.exec
  have hby := Bd.bytes
  have hml : c.maxLocals = 1 := hml0
  have hown : s.vm.findClass "java/lang/String" = some m.cls := findClass_of_methodNamed Bd.named
  have hnm := (name_of_methodNamed Bd.named Bd.method).1
  have hlk := BodyLoose.notSynchronized Bd
  have X0 : Stand p l e ({ frames := 0, cells := 0, slots := 0, locals := 0 } : Room) s m #[(.ref a1)] below meth c s₁ [] 0 0 := Stand.of_body Bd
  have e0 : s₁.heap = h0 := by rw [← hh, Bd.state]; rfl
  have N := Fr.nil n0
  obtain ⟨G, hG⟩ : ∃ G : State → JFrame → Prop, G = OwnG p e below s ({ frames := 0, cells := 0, slots := 0, locals := 0 } : Room).cells ({ frames := 0, cells := 0, slots := 0, locals := 0 } : Room).slots (Q_rmILU Z a1 cs h0 n0 zc) := ⟨_, rfl⟩
  have gb : ∀ {T T' : State} {g g' : JFrame}, (∀ t, Steps p.tables e below (T'.setTop g') t → Steps p.tables e below (T.setTop g) t) → G T' g' → G T g := by subst hG; exact fun k h => own_by k h
  have go : ∀ {T : State} {locs : List Loc} {cells slots : Nat} {g : JFrame} {v : Option Value}, Stand p l e ({ frames := 0, cells := 0, slots := 0, locals := 0 } : Room) s m #[(.ref a1)] below meth c T locs cells slots → (meth.sig.returnType = none → v = none) → (∀ fs, (∀ (f : JFrame) (acts : List Action), f.method = m → f.locked = none → f.entered = [] → (doReturn e (T.setTop f) acts v).1 = T.setFrames fs) → Steps p.tables e below (T.setTop g) (T.setFrames fs)) → (Q_rmILU Z a1 cs h0 n0 zc) v T.heap locs → cells ≤ ({ frames := 0, cells := 0, slots := 0, locals := 0 } : Room).cells → slots ≤ ({ frames := 0, cells := 0, slots := 0, locals := 0 } : Room).slots → G T g := by subst hG; exact fun X h1 h2 h3 h4 h5 => own_out X hlk h1 h2 h3 h4 h5
  show OwnG p e below s ({ frames := 0, cells := 0, slots := 0, locals := 0 } : Room).cells ({ frames := 0, cells := 0, slots := 0, locals := 0 } : Room).slots (Q_rmILU Z a1 cs h0 n0 zc) s₁ (entryFrame m #[(.ref a1)] 1)
  rw [← hG, ef_rmILU m a1]
  clear hG
  show G s₁ (mkF m 0 #[.val (.ref a1)] [])
  obtain ⟨T1, X1, e1, st1⟩ := getS2 X0 hx hZ hown (host := "") (Or.inl (ow hw 43 rfl)) Via.refl e0 (S_cs.ext O.2) (g := (mkF m 0 #[rv a1] [])) rfl (hb hby d26_0)
  refine gb st1 ?_
  show G T1 (mkF m 3 #[rv a1] [.int zc])
  refine gb (fun _ k => XS.ifNo X1.here hx rfl (hb hby d26_3) rfl ((if0 _ _).trans (feq hzc).1) (XS.aloadN X1.here hx rfl (hb hby d26_6) rfl rfl k)) ?_
  show G T1 (mkF m 7 #[rv a1] [.ref a1])
  obtain ⟨T2, X2, e2, st2⟩ := getF X1 hx hZ hown (host := "") (Or.inl (ow hw 25 rfl)) Via.refl e1 F_coder_a1 (g := (mkF m 7 #[rv a1] [.ref a1])) rfl rfl (hb hby d26_7)
  refine gb st2 ?_
  show G T2 (mkF m 10 #[rv a1] [.int (own_cd cs)])
  refine gb (fun _ k => XS.ifYes X2.here hx rfl (pc0 := 10) (pc' := 17) rfl (hb hby d26_10) rfl ((if0 _ _).trans (feq (by rw [own_cU hL]; decide)).2) (by decide) (by decide) (XS.iconst X2.here hx rfl (hb hby d26_17) k)) ?_
  show G T2 (mkF m 18 #[rv a1] [.int 0])
  exact go X2 (v := (some (.int (0 : Int32)))) (fun h => by rw [Bd.returns] at h; cases h) (fun fs hr => retOut X2 hx Bd.returns rfl (Or.inl ⟨rfl, by simp, _, rfl⟩) (hb hby d26_18) hr) (⟨rfl, rfl, e2⟩) (by decide) (by decide)
def Q_rmPX (Z : State) (p0 p1 : Int32) (sf : Value) (h0 : Heap) (n0 : Nat) : Option Value → Heap → List Loc → Prop := fun v h L => v = some (.int p0) ∧ L = [] ∧ h = h0
set_option maxRecDepth 65536 in
set_option maxHeartbeats 40000000 in
theorem rmPX (l : Launch) (Z : State) (a0 : Array Value) (hw : ∀ d ∈ tables_1, d.before a0 Z = true) (ws : List Jvm.Cond) (p0 p1 : Int32) (sf : Value) (hr_sf : sf.isRef = true) (h0 : Heap) (n0 : Nat) (O : Old Z n0 h0) (hp0 : ¬ p0 < (0 : Int32)) (hp1 : p0 < p1) :
    MetFree l (⟨"jdk/internal/util/Preconditions", "checkIndex", "(IILjava/util/function/BiFunction;)I"⟩ : MethodName) (head1 (Jvm.Cond.code (⟨"jdk/internal/util/Preconditions", "checkIndex", "(IILjava/util/function/BiFunction;)I"⟩ : MethodName) jdk_41_method_11_code 3 (some .int) :: ws) ({ frames := 0, cells := 0, slots := 0, locals := 0 } : Room)) (fun a U => a = #[(.int p0), (.int p1), sf] ∧ Z.Warmed39 U.vm ∧ U.heap = h0) (fun _ _ _ _ _ => True) (fun _ U o U' => ∃ v L, o = .returned v ∧ (Q_rmPX Z p0 p1 sf h0 n0) v U'.heap L ∧ FrameEnd U o U' L ({ frames := 0, cells := 0, slots := 0, locals := 0 } : Room).cells ({ frames := 0, cells := 0, slots := 0, locals := 0 } : Room).slots) := by
  refine MetFree.of_bodySF (plainFor_of_name pn_2) hisR ?_
  intro p e s m args below meth c s₁ Bd hml0 hP hK
  obtain ⟨rfl, hZ, hh⟩ := hP
  have hx := Bd.exec
  have hby := Bd.bytes
  have hml : c.maxLocals = 3 := hml0
  have hown : s.vm.findClass "jdk/internal/util/Preconditions" = some m.cls := findClass_of_methodNamed Bd.named
  have hnm := (name_of_methodNamed Bd.named Bd.method).1
  have hlk := BodyLoose.notSynchronized Bd
  have X0 : Stand p l e ({ frames := 0, cells := 0, slots := 0, locals := 0 } : Room) s m #[(.int p0), (.int p1), sf] below meth c s₁ [] 0 0 := Stand.of_body Bd
  have e0 : s₁.heap = h0 := by rw [← hh, Bd.state]; rfl
  have N := Fr.nil n0
  obtain ⟨G, hG⟩ : ∃ G : State → JFrame → Prop, G = OwnG p e below s ({ frames := 0, cells := 0, slots := 0, locals := 0 } : Room).cells ({ frames := 0, cells := 0, slots := 0, locals := 0 } : Room).slots (Q_rmPX Z p0 p1 sf h0 n0) := ⟨_, rfl⟩
  have gb : ∀ {T T' : State} {g g' : JFrame}, (∀ t, Steps p.tables e below (T'.setTop g') t → Steps p.tables e below (T.setTop g) t) → G T' g' → G T g := by subst hG; exact fun k h => own_by k h
  have go : ∀ {T : State} {locs : List Loc} {cells slots : Nat} {g : JFrame} {v : Option Value}, Stand p l e ({ frames := 0, cells := 0, slots := 0, locals := 0 } : Room) s m #[(.int p0), (.int p1), sf] below meth c T locs cells slots → (meth.sig.returnType = none → v = none) → (∀ fs, (∀ (f : JFrame) (acts : List Action), f.method = m → f.locked = none → f.entered = [] → (doReturn e (T.setTop f) acts v).1 = T.setFrames fs) → Steps p.tables e below (T.setTop g) (T.setFrames fs)) → (Q_rmPX Z p0 p1 sf h0 n0) v T.heap locs → cells ≤ ({ frames := 0, cells := 0, slots := 0, locals := 0 } : Room).cells → slots ≤ ({ frames := 0, cells := 0, slots := 0, locals := 0 } : Room).slots → G T g := by subst hG; exact fun X h1 h2 h3 h4 h5 => own_out X hlk h1 h2 h3 h4 h5
  show OwnG p e below s ({ frames := 0, cells := 0, slots := 0, locals := 0 } : Room).cells ({ frames := 0, cells := 0, slots := 0, locals := 0 } : Room).slots (Q_rmPX Z p0 p1 sf h0 n0) s₁ (entryFrame m #[(.int p0), (.int p1), sf] 3)
  rw [← hG, ef_rmPX m p0 p1 sf hr_sf]
  clear hG
  show G s₁ (mkF m 0 #[.val (.int p0), .val (.int p1), .val sf] [])
  refine gb (fun _ k => XS.iloadN X0.here hx rfl (hb hby d28_0) rfl (XS.ifNo X0.here hx rfl (hb hby d28_1) rfl ((if0 _ _).trans (flt hp0).1) (XS.iloadN X0.here hx rfl (hb hby d28_4) rfl (XS.iloadN X0.here hx rfl (hb hby d28_5) rfl (XS.icmpYes X0.here hx rfl (pc0 := 6) (pc' := 16) rfl (hb hby d28_6) rfl (tlt hp1).1 (by decide) (by decide) (XS.iloadN X0.here hx rfl (hb hby d28_16) rfl k)))))) ?_
  show G s₁ (mkF m 17 #[iv p0, iv p1, .val sf] [.int p0])
  exact go X0 (v := (some (.int p0))) (fun h => by rw [Bd.returns] at h; cases h) (fun fs hr => retOut X0 hx Bd.returns rfl (Or.inl ⟨rfl, by simp, _, rfl⟩) (hb hby d28_17) hr) (⟨rfl, rfl, e0⟩) (by decide) (by decide)
def Q_rmSX (Z : State) (p0 p1 : Int32) (sf : Value) (h0 : Heap) (n0 : Nat) : Option Value → Heap → List Loc → Prop := fun v h L => v = none ∧ L = [] ∧ h = h0
set_option maxRecDepth 65536 in
set_option maxHeartbeats 40000000 in
theorem rmSX (l : Launch) (Z : State) (a0 : Array Value) (hw : ∀ d ∈ tables_1, d.before a0 Z = true) (ws : List Jvm.Cond) (p0 p1 : Int32) (sf : Value) (hr_sf : sf.isRef = true) (S_sf : Sta Z Z.heap "jdk/internal/util/Preconditions" "SIOOBE_FORMATTER" "Ljava/util/function/BiFunction;" sf) (h0 : Heap) (n0 : Nat) (O : Old Z n0 h0) (hp0 : ¬ p0 < (0 : Int32)) (hp1 : p0 < p1) :
    MetFree l (⟨"java/lang/String", "checkIndex", "(II)V"⟩ : MethodName) (head1 (Jvm.Cond.code (⟨"java/lang/String", "checkIndex", "(II)V"⟩ : MethodName) jdk_42_method_155_code 2 none :: ws) ({ frames := 1, cells := 0, slots := 0, locals := 14 } : Room)) (fun a U => a = #[(.int p0), (.int p1)] ∧ Z.Warmed39 U.vm ∧ U.heap = h0) (fun _ _ _ _ _ => True) (fun _ U o U' => ∃ v L, o = .returned v ∧ (Q_rmSX Z p0 p1 sf h0 n0) v U'.heap L ∧ FrameEnd U o U' L ({ frames := 1, cells := 0, slots := 0, locals := 14 } : Room).cells ({ frames := 1, cells := 0, slots := 0, locals := 14 } : Room).slots) := by
  refine MetFree.of_bodySF (plainFor_of_name pn_1) hisR ?_
  intro p e s m args below meth c s₁ Bd hml0 hP hK
  obtain ⟨rfl, hZ, hh⟩ := hP
  have hx := Bd.exec
  have hby := Bd.bytes
  have hml : c.maxLocals = 2 := hml0
  have hown : s.vm.findClass "java/lang/String" = some m.cls := findClass_of_methodNamed Bd.named
  have hnm := (name_of_methodNamed Bd.named Bd.method).1
  have hlk := BodyLoose.notSynchronized Bd
  have X0 : Stand p l e ({ frames := 1, cells := 0, slots := 0, locals := 14 } : Room) s m #[(.int p0), (.int p1)] below meth c s₁ [] 0 0 := Stand.of_body Bd
  have e0 : s₁.heap = h0 := by rw [← hh, Bd.state]; rfl
  have N := Fr.nil n0
  obtain ⟨G, hG⟩ : ∃ G : State → JFrame → Prop, G = OwnG p e below s ({ frames := 1, cells := 0, slots := 0, locals := 14 } : Room).cells ({ frames := 1, cells := 0, slots := 0, locals := 14 } : Room).slots (Q_rmSX Z p0 p1 sf h0 n0) := ⟨_, rfl⟩
  have gb : ∀ {T T' : State} {g g' : JFrame}, (∀ t, Steps p.tables e below (T'.setTop g') t → Steps p.tables e below (T.setTop g) t) → G T' g' → G T g := by subst hG; exact fun k h => own_by k h
  have go : ∀ {T : State} {locs : List Loc} {cells slots : Nat} {g : JFrame} {v : Option Value}, Stand p l e ({ frames := 1, cells := 0, slots := 0, locals := 14 } : Room) s m #[(.int p0), (.int p1)] below meth c T locs cells slots → (meth.sig.returnType = none → v = none) → (∀ fs, (∀ (f : JFrame) (acts : List Action), f.method = m → f.locked = none → f.entered = [] → (doReturn e (T.setTop f) acts v).1 = T.setFrames fs) → Steps p.tables e below (T.setTop g) (T.setFrames fs)) → (Q_rmSX Z p0 p1 sf h0 n0) v T.heap locs → cells ≤ ({ frames := 1, cells := 0, slots := 0, locals := 14 } : Room).cells → slots ≤ ({ frames := 1, cells := 0, slots := 0, locals := 14 } : Room).slots → G T g := by subst hG; exact fun X h1 h2 h3 h4 h5 => own_out X hlk h1 h2 h3 h4 h5
  show OwnG p e below s ({ frames := 1, cells := 0, slots := 0, locals := 14 } : Room).cells ({ frames := 1, cells := 0, slots := 0, locals := 14 } : Room).slots (Q_rmSX Z p0 p1 sf h0 n0) s₁ (entryFrame m #[(.int p0), (.int p1)] 2)
  rw [← hG, ef_rmSX m p0 p1]
  clear hG
  show G s₁ (mkF m 0 #[.val (.int p0), .val (.int p1)] [])
  refine gb (fun _ k => XS.iloadN X0.here hx rfl (hb hby d27_0) rfl (XS.iloadN X0.here hx rfl (hb hby d27_1) rfl k)) ?_
  show G s₁ (mkF m 2 #[iv p0, iv p1] [.int p1, .int p0])
  obtain ⟨T1, X1, e1, st1⟩ := getS2 X0 hx hZ hown (host := "") (Or.inl (ow hw 53 rfl)) Via.refl e0 (S_sf.ext O.2) (g := (mkF m 2 #[iv p0, iv p1] [.int p1, .int p0])) rfl (hb hby d27_2)
  refine gb st1 ?_
  show G T1 (mkF m 5 #[iv p0, iv p1] [sf, .int p1, .int p0])
  obtain ⟨_, _, ⟨T2, Lz2, kz2, nz2⟩, -, X2, ⟨Lc2, hQ2, lq2, yq2, zq2⟩, st2⟩ := Jvm.LawKit.callS X1 hx (y := (⟨"jdk/internal/util/Preconditions", "checkIndex", "(IILjava/util/function/BiFunction;)I"⟩ : MethodName)) hown (mvT hZ (ow hw 124 rfl)) (mvT hZ (ow hw 125 rfl)) (mvT hZ (ow hw 54 rfl)) (mvT hZ (ow hw 126 rfl)) (by decide) (backOf (W := 0) (rmPX l Z a0 hw [] p0 p1 sf hr_sf h0 n0 O hp0 hp1) hZ (ow hw 126 rfl) (ow hw 54 rfl) (by decide) (by decide)) (g := (mkF m 5 #[iv p0, iv p1] [sf, .int p1, .int p0])) rfl (by rw [hml]; rfl) (argsL := [(.int p0), (.int p1), sf]) (rest := []) (lenOf pd_9 rfl) rfl (by show 2 * 0 + _ ≤ _; exact Nat.le_of_eq rfl) (hb hby d27_5) (fun _ _ => ⟨rfl, e1, (by decide : 0 + 0 ≤ _), (by decide : 0 + 0 ≤ _)⟩)
  dsimp only [Pt.U, Pt.locs, Pt.cells, Pt.slots] at X2 lq2 yq2 zq2 st2 hQ2
  subst lq2 yq2 zq2
  obtain ⟨rfl, rfl, e2⟩ := hQ2
  try rw [List.append_nil] at X2
  refine gb st2 ?_
  show G T2 (mkF m 8 #[iv p0, iv p1] [.int p0])
  refine gb (fun _ k => XS.pop X2.here hx rfl (hb hby d27_8) rfl rfl k) ?_
  show G T2 (mkF m 9 #[iv p0, iv p1] [])
  exact go X2 (v := none) (fun _ => rfl) (fun fs hr => X2.returnOut hx Bd.returns (hb hby d27_9) hr) (⟨rfl, rfl, e2⟩) (by decide) (by decide)
def Q_rmFT (Z : State) (p1 p2 : Int32) (sf : Value) (h0 : Heap) (n0 : Nat) : Option Value → Heap → List Loc → Prop := fun v h L => v = some (.int (0 : Int32)) ∧ L = [] ∧ h = h0
set_option maxRecDepth 65536 in
set_option maxHeartbeats 40000000 in
theorem rmFT (l : Launch) (Z : State) (a0 : Array Value) (hw : ∀ d ∈ tables_1, d.before a0 Z = true) (ws : List Jvm.Cond) (p1 p2 : Int32) (sf : Value) (hr_sf : sf.isRef = true) (h0 : Heap) (n0 : Nat) (O : Old Z n0 h0) (hp0 : ¬ p1 < (0 : Int32)) (hp1 : ¬ p2 < p1) :
    MetFree l (⟨"jdk/internal/util/Preconditions", "checkFromToIndex", "(IIILjava/util/function/BiFunction;)I"⟩ : MethodName) (head1 (Jvm.Cond.code (⟨"jdk/internal/util/Preconditions", "checkFromToIndex", "(IIILjava/util/function/BiFunction;)I"⟩ : MethodName) jdk_41_method_12_code 4 (some .int) :: ws) ({ frames := 0, cells := 0, slots := 0, locals := 0 } : Room)) (fun a U => a = #[(.int (0 : Int32)), (.int p1), (.int p2), sf] ∧ Z.Warmed39 U.vm ∧ U.heap = h0) (fun _ _ _ _ _ => True) (fun _ U o U' => ∃ v L, o = .returned v ∧ (Q_rmFT Z p1 p2 sf h0 n0) v U'.heap L ∧ FrameEnd U o U' L ({ frames := 0, cells := 0, slots := 0, locals := 0 } : Room).cells ({ frames := 0, cells := 0, slots := 0, locals := 0 } : Room).slots) := by
  refine MetFree.of_bodySF (plainFor_of_name pn_2) hisR ?_
  intro p e s m args below meth c s₁ Bd hml0 hP hK
  obtain ⟨rfl, hZ, hh⟩ := hP
  have hx := Bd.exec
  have hby := Bd.bytes
  have hml : c.maxLocals = 4 := hml0
  have hown : s.vm.findClass "jdk/internal/util/Preconditions" = some m.cls := findClass_of_methodNamed Bd.named
  have hnm := (name_of_methodNamed Bd.named Bd.method).1
  have hlk := BodyLoose.notSynchronized Bd
  have X0 : Stand p l e ({ frames := 0, cells := 0, slots := 0, locals := 0 } : Room) s m #[(.int (0 : Int32)), (.int p1), (.int p2), sf] below meth c s₁ [] 0 0 := Stand.of_body Bd
  have e0 : s₁.heap = h0 := by rw [← hh, Bd.state]; rfl
  have N := Fr.nil n0
  obtain ⟨G, hG⟩ : ∃ G : State → JFrame → Prop, G = OwnG p e below s ({ frames := 0, cells := 0, slots := 0, locals := 0 } : Room).cells ({ frames := 0, cells := 0, slots := 0, locals := 0 } : Room).slots (Q_rmFT Z p1 p2 sf h0 n0) := ⟨_, rfl⟩
  have gb : ∀ {T T' : State} {g g' : JFrame}, (∀ t, Steps p.tables e below (T'.setTop g') t → Steps p.tables e below (T.setTop g) t) → G T' g' → G T g := by subst hG; exact fun k h => own_by k h
  have go : ∀ {T : State} {locs : List Loc} {cells slots : Nat} {g : JFrame} {v : Option Value}, Stand p l e ({ frames := 0, cells := 0, slots := 0, locals := 0 } : Room) s m #[(.int (0 : Int32)), (.int p1), (.int p2), sf] below meth c T locs cells slots → (meth.sig.returnType = none → v = none) → (∀ fs, (∀ (f : JFrame) (acts : List Action), f.method = m → f.locked = none → f.entered = [] → (doReturn e (T.setTop f) acts v).1 = T.setFrames fs) → Steps p.tables e below (T.setTop g) (T.setFrames fs)) → (Q_rmFT Z p1 p2 sf h0 n0) v T.heap locs → cells ≤ ({ frames := 0, cells := 0, slots := 0, locals := 0 } : Room).cells → slots ≤ ({ frames := 0, cells := 0, slots := 0, locals := 0 } : Room).slots → G T g := by subst hG; exact fun X h1 h2 h3 h4 h5 => own_out X hlk h1 h2 h3 h4 h5
  show OwnG p e below s ({ frames := 0, cells := 0, slots := 0, locals := 0 } : Room).cells ({ frames := 0, cells := 0, slots := 0, locals := 0 } : Room).slots (Q_rmFT Z p1 p2 sf h0 n0) s₁ (entryFrame m #[(.int (0 : Int32)), (.int p1), (.int p2), sf] 4)
  rw [← hG, ef_rmFT m (0 : Int32) p1 p2 sf hr_sf]
  clear hG
  show G s₁ (mkF m 0 #[.val (.int (0 : Int32)), .val (.int p1), .val (.int p2), .val sf] [])
  refine gb (fun _ k => XS.iloadN X0.here hx rfl (hb hby d11_0) rfl (XS.ifNo X0.here hx rfl (hb hby d11_1) rfl ((if0 _ _).trans (flt (by decide : ¬ ((0 : Int32) < (0 : Int32)))).1) (XS.iloadN X0.here hx rfl (hb hby d11_4) rfl (XS.iloadN X0.here hx rfl (hb hby d11_5) rfl (XS.icmpNo X0.here hx rfl (hb hby d11_6) rfl (flt hp0).2.2.1 (XS.iloadN X0.here hx rfl (hb hby d11_9) rfl k)))))) ?_
  show G s₁ (mkF m 10 #[iv 0, iv p1, iv p2, .val sf] [.int p1])
  refine gb (fun _ k => XS.iloadN X0.here hx rfl (hb hby d11_10) rfl (XS.icmpYes X0.here hx rfl (pc0 := 11) (pc' := 22) rfl (hb hby d11_11) rfl (flt hp1).2.2.2 (by decide) (by decide) (XS.iloadN X0.here hx rfl (hb hby d11_22) rfl k))) ?_
  show G s₁ (mkF m 23 #[iv 0, iv p1, iv p2, .val sf] [.int 0])
  exact go X0 (v := (some (.int (0 : Int32)))) (fun h => by rw [Bd.returns] at h; cases h) (fun fs hr => retOut X0 hx Bd.returns rfl (Or.inl ⟨rfl, by simp, _, rfl⟩) (hb hby d11_23) hr) (⟨rfl, rfl, e0⟩) (by decide) (by decide)
def Q_rmBE (Z : State) (p1 p2 : Int32) (sf : Value) (h0 : Heap) (n0 : Nat) : Option Value → Heap → List Loc → Prop := fun v h L => v = none ∧ L = [] ∧ h = h0
set_option maxRecDepth 65536 in
set_option maxHeartbeats 40000000 in
theorem rmBE (l : Launch) (Z : State) (a0 : Array Value) (hw : ∀ d ∈ tables_1, d.before a0 Z = true) (ws : List Jvm.Cond) (p1 p2 : Int32) (sf : Value) (hr_sf : sf.isRef = true) (S_sf : Sta Z Z.heap "jdk/internal/util/Preconditions" "SIOOBE_FORMATTER" "Ljava/util/function/BiFunction;" sf) (h0 : Heap) (n0 : Nat) (O : Old Z n0 h0) (hp0 : ¬ p1 < (0 : Int32)) (hp1 : ¬ p2 < p1) :
    MetFree l (⟨"java/lang/String", "checkBoundsBeginEnd", "(III)V"⟩ : MethodName) (head1 (Jvm.Cond.code (⟨"java/lang/String", "checkBoundsBeginEnd", "(III)V"⟩ : MethodName) jdk_42_method_158_code 3 none :: ws) ({ frames := 1, cells := 0, slots := 0, locals := 15 } : Room)) (fun a U => a = #[(.int (0 : Int32)), (.int p1), (.int p2)] ∧ Z.Warmed39 U.vm ∧ U.heap = h0) (fun _ _ _ _ _ => True) (fun _ U o U' => ∃ v L, o = .returned v ∧ (Q_rmBE Z p1 p2 sf h0 n0) v U'.heap L ∧ FrameEnd U o U' L ({ frames := 1, cells := 0, slots := 0, locals := 15 } : Room).cells ({ frames := 1, cells := 0, slots := 0, locals := 15 } : Room).slots) := by
  refine MetFree.of_bodySF (plainFor_of_name pn_1) hisR ?_
  intro p e s m args below meth c s₁ Bd hml0 hP hK
  obtain ⟨rfl, hZ, hh⟩ := hP
  have hx := Bd.exec
  have hby := Bd.bytes
  have hml : c.maxLocals = 3 := hml0
  have hown : s.vm.findClass "java/lang/String" = some m.cls := findClass_of_methodNamed Bd.named
  have hnm := (name_of_methodNamed Bd.named Bd.method).1
  have hlk := BodyLoose.notSynchronized Bd
  have X0 : Stand p l e ({ frames := 1, cells := 0, slots := 0, locals := 15 } : Room) s m #[(.int (0 : Int32)), (.int p1), (.int p2)] below meth c s₁ [] 0 0 := Stand.of_body Bd
  have e0 : s₁.heap = h0 := by rw [← hh, Bd.state]; rfl
  have N := Fr.nil n0
  obtain ⟨G, hG⟩ : ∃ G : State → JFrame → Prop, G = OwnG p e below s ({ frames := 1, cells := 0, slots := 0, locals := 15 } : Room).cells ({ frames := 1, cells := 0, slots := 0, locals := 15 } : Room).slots (Q_rmBE Z p1 p2 sf h0 n0) := ⟨_, rfl⟩
  have gb : ∀ {T T' : State} {g g' : JFrame}, (∀ t, Steps p.tables e below (T'.setTop g') t → Steps p.tables e below (T.setTop g) t) → G T' g' → G T g := by subst hG; exact fun k h => own_by k h
  have go : ∀ {T : State} {locs : List Loc} {cells slots : Nat} {g : JFrame} {v : Option Value}, Stand p l e ({ frames := 1, cells := 0, slots := 0, locals := 15 } : Room) s m #[(.int (0 : Int32)), (.int p1), (.int p2)] below meth c T locs cells slots → (meth.sig.returnType = none → v = none) → (∀ fs, (∀ (f : JFrame) (acts : List Action), f.method = m → f.locked = none → f.entered = [] → (doReturn e (T.setTop f) acts v).1 = T.setFrames fs) → Steps p.tables e below (T.setTop g) (T.setFrames fs)) → (Q_rmBE Z p1 p2 sf h0 n0) v T.heap locs → cells ≤ ({ frames := 1, cells := 0, slots := 0, locals := 15 } : Room).cells → slots ≤ ({ frames := 1, cells := 0, slots := 0, locals := 15 } : Room).slots → G T g := by subst hG; exact fun X h1 h2 h3 h4 h5 => own_out X hlk h1 h2 h3 h4 h5
  show OwnG p e below s ({ frames := 1, cells := 0, slots := 0, locals := 15 } : Room).cells ({ frames := 1, cells := 0, slots := 0, locals := 15 } : Room).slots (Q_rmBE Z p1 p2 sf h0 n0) s₁ (entryFrame m #[(.int (0 : Int32)), (.int p1), (.int p2)] 3)
  rw [← hG, ef_rmBE m (0 : Int32) p1 p2]
  clear hG
  show G s₁ (mkF m 0 #[.val (.int (0 : Int32)), .val (.int p1), .val (.int p2)] [])
  refine gb (fun _ k => XS.iloadN X0.here hx rfl (hb hby d10_0) rfl (XS.iloadN X0.here hx rfl (hb hby d10_1) rfl (XS.iloadN X0.here hx rfl (hb hby d10_2) rfl k))) ?_
  show G s₁ (mkF m 3 #[iv 0, iv p1, iv p2] [.int p2, .int p1, .int 0])
  obtain ⟨T1, X1, e1, st1⟩ := getS2 X0 hx hZ hown (host := "") (Or.inl (ow hw 53 rfl)) Via.refl e0 (S_sf.ext O.2) (g := (mkF m 3 #[iv 0, iv p1, iv p2] [.int p2, .int p1, .int 0])) rfl (hb hby d10_3)
  refine gb st1 ?_
  show G T1 (mkF m 6 #[iv 0, iv p1, iv p2] [sf, .int p2, .int p1, .int 0])
  obtain ⟨_, _, ⟨T2, Lz2, kz2, nz2⟩, -, X2, ⟨Lc2, hQ2, lq2, yq2, zq2⟩, st2⟩ := Jvm.LawKit.callS X1 hx (y := (⟨"jdk/internal/util/Preconditions", "checkFromToIndex", "(IIILjava/util/function/BiFunction;)I"⟩ : MethodName)) hown (mvT hZ (ow hw 55 rfl)) (mvT hZ (ow hw 56 rfl)) (mvT hZ (ow hw 54 rfl)) (mvT hZ (ow hw 57 rfl)) (by decide) (backOf (W := 0) (rmFT l Z a0 hw [] p1 p2 sf hr_sf h0 n0 O hp0 hp1) hZ (ow hw 57 rfl) (ow hw 54 rfl) (by decide) (by decide)) (g := (mkF m 6 #[iv 0, iv p1, iv p2] [sf, .int p2, .int p1, .int 0])) rfl (by rw [hml]; rfl) (argsL := [(.int (0 : Int32)), (.int p1), (.int p2), sf]) (rest := []) (lenOf pd_10 rfl) rfl (by show 2 * 0 + _ ≤ _; exact Nat.le_of_eq rfl) (hb hby d10_6) (fun _ _ => ⟨rfl, e1, (by decide : 0 + 0 ≤ _), (by decide : 0 + 0 ≤ _)⟩)
  dsimp only [Pt.U, Pt.locs, Pt.cells, Pt.slots] at X2 lq2 yq2 zq2 st2 hQ2
  subst lq2 yq2 zq2
  obtain ⟨rfl, rfl, e2⟩ := hQ2
  try rw [List.append_nil] at X2
  refine gb st2 ?_
  show G T2 (mkF m 9 #[iv 0, iv p1, iv p2] [.int 0])
  refine gb (fun _ k => XS.pop X2.here hx rfl (hb hby d10_9) rfl rfl k) ?_
  show G T2 (mkF m 10 #[iv 0, iv p1, iv p2] [])
  exact go X2 (v := none) (fun _ => rfl) (fun fs hr => X2.returnOut hx Bd.returns (hb hby d10_10) hr) (⟨rfl, rfl, e2⟩) (by decide) (by decide)
def Q_rmPO (Z : State) (k n : Nat) (sf : Value) (h0 : Heap) (n0 : Nat) : Option Value → Heap → List Loc → Prop := fun v h L => v = some (.int (0 : Int32)) ∧ L = [] ∧ h = h0
set_option maxRecDepth 65536 in
set_option maxHeartbeats 40000000 in
theorem rmPO (l : Launch) (Z : State) (a0 : Array Value) (hw : ∀ d ∈ tables_1, d.before a0 Z = true) (ws : List Jvm.Cond) (k n : Nat) (sf : Value) (hr_sf : sf.isRef = true) (h0 : Heap) (n0 : Nat) (O : Old Z n0 h0) (hn : n ≤ 6) (hk : k ≤ n) :
    MetFree l (⟨"jdk/internal/util/Preconditions", "checkFromIndexSize", "(IIILjava/util/function/BiFunction;)I"⟩ : MethodName) (head1 (Jvm.Cond.code (⟨"jdk/internal/util/Preconditions", "checkFromIndexSize", "(IIILjava/util/function/BiFunction;)I"⟩ : MethodName) jdk_41_method_13_code 4 (some .int) :: ws) ({ frames := 0, cells := 0, slots := 0, locals := 0 } : Room)) (fun a U => a = #[(.int (0 : Int32)), (.int (Int32.ofNat k)), (.int (Int32.ofNat n)), sf] ∧ Z.Warmed39 U.vm ∧ U.heap = h0) (fun _ _ _ _ _ => True) (fun _ U o U' => ∃ v L, o = .returned v ∧ (Q_rmPO Z k n sf h0 n0) v U'.heap L ∧ FrameEnd U o U' L ({ frames := 0, cells := 0, slots := 0, locals := 0 } : Room).cells ({ frames := 0, cells := 0, slots := 0, locals := 0 } : Room).slots) := by
  refine MetFree.of_bodySF (plainFor_of_name pn_2) hisR ?_
  intro p e s m args below meth c s₁ Bd hml0 hP hK
  obtain ⟨rfl, hZ, hh⟩ := hP
  have hx := Bd.exec
  have hby := Bd.bytes
  have hml : c.maxLocals = 4 := hml0
  have hown : s.vm.findClass "jdk/internal/util/Preconditions" = some m.cls := findClass_of_methodNamed Bd.named
  have hnm := (name_of_methodNamed Bd.named Bd.method).1
  have hlk := BodyLoose.notSynchronized Bd
  have X0 : Stand p l e ({ frames := 0, cells := 0, slots := 0, locals := 0 } : Room) s m #[(.int (0 : Int32)), (.int (Int32.ofNat k)), (.int (Int32.ofNat n)), sf] below meth c s₁ [] 0 0 := Stand.of_body Bd
  have e0 : s₁.heap = h0 := by rw [← hh, Bd.state]; rfl
  have N := Fr.nil n0
  obtain ⟨G, hG⟩ : ∃ G : State → JFrame → Prop, G = OwnG p e below s ({ frames := 0, cells := 0, slots := 0, locals := 0 } : Room).cells ({ frames := 0, cells := 0, slots := 0, locals := 0 } : Room).slots (Q_rmPO Z k n sf h0 n0) := ⟨_, rfl⟩
  have gb : ∀ {T T' : State} {g g' : JFrame}, (∀ t, Steps p.tables e below (T'.setTop g') t → Steps p.tables e below (T.setTop g) t) → G T' g' → G T g := by subst hG; exact fun k h => own_by k h
  have go : ∀ {T : State} {locs : List Loc} {cells slots : Nat} {g : JFrame} {v : Option Value}, Stand p l e ({ frames := 0, cells := 0, slots := 0, locals := 0 } : Room) s m #[(.int (0 : Int32)), (.int (Int32.ofNat k)), (.int (Int32.ofNat n)), sf] below meth c T locs cells slots → (meth.sig.returnType = none → v = none) → (∀ fs, (∀ (f : JFrame) (acts : List Action), f.method = m → f.locked = none → f.entered = [] → (doReturn e (T.setTop f) acts v).1 = T.setFrames fs) → Steps p.tables e below (T.setTop g) (T.setFrames fs)) → (Q_rmPO Z k n sf h0 n0) v T.heap locs → cells ≤ ({ frames := 0, cells := 0, slots := 0, locals := 0 } : Room).cells → slots ≤ ({ frames := 0, cells := 0, slots := 0, locals := 0 } : Room).slots → G T g := by subst hG; exact fun X h1 h2 h3 h4 h5 => own_out X hlk h1 h2 h3 h4 h5
  show OwnG p e below s ({ frames := 0, cells := 0, slots := 0, locals := 0 } : Room).cells ({ frames := 0, cells := 0, slots := 0, locals := 0 } : Room).slots (Q_rmPO Z k n sf h0 n0) s₁ (entryFrame m #[(.int (0 : Int32)), (.int (Int32.ofNat k)), (.int (Int32.ofNat n)), sf] 4)
  rw [← hG, ef_rmPO m (0 : Int32) (Int32.ofNat k) (Int32.ofNat n) sf hr_sf]
  clear hG
  show G s₁ (mkF m 0 #[.val (.int (0 : Int32)), .val (.int (Int32.ofNat k)), .val (.int (Int32.ofNat n)), .val sf] [])
  refine gb (fun _ k => XS.iloadN X0.here hx rfl (hb hby d42_0) rfl (XS.iloadN X0.here hx rfl (hb hby d42_1) rfl (XS.ior X0.here hx rfl (hb hby d42_2) rfl (XS.iloadN X0.here hx rfl (hb hby d42_3) rfl (XS.ior X0.here hx rfl (hb hby d42_4) rfl (XS.ifNo X0.here hx rfl (hb hby d42_5) rfl ((if0 _ _).trans (flt (own_or (by omega) (by omega))).1) k)))))) ?_
  show G s₁ (mkF m 8 #[iv 0, iv (Int32.ofNat k), iv (Int32.ofNat n), .val sf] [])
  refine gb (fun _ k => XS.iloadN X0.here hx rfl (hb hby d42_8) rfl (XS.iloadN X0.here hx rfl (hb hby d42_9) rfl (XS.iloadN X0.here hx rfl (hb hby d42_10) rfl (XS.isub X0.here hx rfl (hb hby d42_11) rfl k)))) ?_
  show G s₁ (mkF m 12 #[iv 0, iv (Int32.ofNat k), iv (Int32.ofNat n), .val sf] [.int ((Int32.ofNat n) - (0 : Int32)), .int (Int32.ofNat k)])
  rw [own_sub0]
  show G s₁ (mkF m 12 #[iv 0, iv (Int32.ofNat k), iv (Int32.ofNat n), .val sf] [.int (Int32.ofNat n), .int (Int32.ofNat k)])
  refine gb (fun _ k => XS.icmpYes X0.here hx rfl (pc0 := 12) (pc' := 23) rfl (hb hby d42_12) rfl (flt (own_nlt (by omega) (by omega))).2.2.2 (by decide) (by decide) (XS.iloadN X0.here hx rfl (hb hby d42_23) rfl k)) ?_
  show G s₁ (mkF m 24 #[iv 0, iv (Int32.ofNat k), iv (Int32.ofNat n), .val sf] [.int 0])
  exact go X0 (v := (some (.int (0 : Int32)))) (fun h => by rw [Bd.returns] at h; cases h) (fun fs hr => retOut X0 hx Bd.returns rfl (Or.inl ⟨rfl, by simp, _, rfl⟩) (hb hby d42_24) hr) (⟨rfl, rfl, e0⟩) (by decide) (by decide)
def Q_rmBO (Z : State) (k n : Nat) (sf : Value) (h0 : Heap) (n0 : Nat) : Option Value → Heap → List Loc → Prop := fun v h L => v = some (.int (0 : Int32)) ∧ L = [] ∧ h = h0
set_option maxRecDepth 65536 in
set_option maxHeartbeats 40000000 in
theorem rmBO (l : Launch) (Z : State) (a0 : Array Value) (hw : ∀ d ∈ tables_1, d.before a0 Z = true) (ws : List Jvm.Cond) (k n : Nat) (sf : Value) (hr_sf : sf.isRef = true) (S_sf : Sta Z Z.heap "jdk/internal/util/Preconditions" "SIOOBE_FORMATTER" "Ljava/util/function/BiFunction;" sf) (h0 : Heap) (n0 : Nat) (O : Old Z n0 h0) (hn : n ≤ 6) (hk : k ≤ n) :
    MetFree l (⟨"java/lang/String", "checkBoundsOffCount", "(III)I"⟩ : MethodName) (head1 (Jvm.Cond.code (⟨"java/lang/String", "checkBoundsOffCount", "(III)I"⟩ : MethodName) jdk_42_method_157_code 3 (some .int) :: ws) ({ frames := 1, cells := 0, slots := 0, locals := 15 } : Room)) (fun a U => a = #[(.int (0 : Int32)), (.int (Int32.ofNat k)), (.int (Int32.ofNat n))] ∧ Z.Warmed39 U.vm ∧ U.heap = h0) (fun _ _ _ _ _ => True) (fun _ U o U' => ∃ v L, o = .returned v ∧ (Q_rmBO Z k n sf h0 n0) v U'.heap L ∧ FrameEnd U o U' L ({ frames := 1, cells := 0, slots := 0, locals := 15 } : Room).cells ({ frames := 1, cells := 0, slots := 0, locals := 15 } : Room).slots) := by
  refine MetFree.of_bodySF (plainFor_of_name pn_1) hisR ?_
  intro p e s m args below meth c s₁ Bd hml0 hP hK
  obtain ⟨rfl, hZ, hh⟩ := hP
  have hx := Bd.exec
  have hby := Bd.bytes
  have hml : c.maxLocals = 3 := hml0
  have hown : s.vm.findClass "java/lang/String" = some m.cls := findClass_of_methodNamed Bd.named
  have hnm := (name_of_methodNamed Bd.named Bd.method).1
  have hlk := BodyLoose.notSynchronized Bd
  have X0 : Stand p l e ({ frames := 1, cells := 0, slots := 0, locals := 15 } : Room) s m #[(.int (0 : Int32)), (.int (Int32.ofNat k)), (.int (Int32.ofNat n))] below meth c s₁ [] 0 0 := Stand.of_body Bd
  have e0 : s₁.heap = h0 := by rw [← hh, Bd.state]; rfl
  have N := Fr.nil n0
  obtain ⟨G, hG⟩ : ∃ G : State → JFrame → Prop, G = OwnG p e below s ({ frames := 1, cells := 0, slots := 0, locals := 15 } : Room).cells ({ frames := 1, cells := 0, slots := 0, locals := 15 } : Room).slots (Q_rmBO Z k n sf h0 n0) := ⟨_, rfl⟩
  have gb : ∀ {T T' : State} {g g' : JFrame}, (∀ t, Steps p.tables e below (T'.setTop g') t → Steps p.tables e below (T.setTop g) t) → G T' g' → G T g := by subst hG; exact fun k h => own_by k h
  have go : ∀ {T : State} {locs : List Loc} {cells slots : Nat} {g : JFrame} {v : Option Value}, Stand p l e ({ frames := 1, cells := 0, slots := 0, locals := 15 } : Room) s m #[(.int (0 : Int32)), (.int (Int32.ofNat k)), (.int (Int32.ofNat n))] below meth c T locs cells slots → (meth.sig.returnType = none → v = none) → (∀ fs, (∀ (f : JFrame) (acts : List Action), f.method = m → f.locked = none → f.entered = [] → (doReturn e (T.setTop f) acts v).1 = T.setFrames fs) → Steps p.tables e below (T.setTop g) (T.setFrames fs)) → (Q_rmBO Z k n sf h0 n0) v T.heap locs → cells ≤ ({ frames := 1, cells := 0, slots := 0, locals := 15 } : Room).cells → slots ≤ ({ frames := 1, cells := 0, slots := 0, locals := 15 } : Room).slots → G T g := by subst hG; exact fun X h1 h2 h3 h4 h5 => own_out X hlk h1 h2 h3 h4 h5
  show OwnG p e below s ({ frames := 1, cells := 0, slots := 0, locals := 15 } : Room).cells ({ frames := 1, cells := 0, slots := 0, locals := 15 } : Room).slots (Q_rmBO Z k n sf h0 n0) s₁ (entryFrame m #[(.int (0 : Int32)), (.int (Int32.ofNat k)), (.int (Int32.ofNat n))] 3)
  rw [← hG, ef_rmBO m (0 : Int32) (Int32.ofNat k) (Int32.ofNat n)]
  clear hG
  show G s₁ (mkF m 0 #[.val (.int (0 : Int32)), .val (.int (Int32.ofNat k)), .val (.int (Int32.ofNat n))] [])
  refine gb (fun _ k => XS.iloadN X0.here hx rfl (hb hby d41_0) rfl (XS.iloadN X0.here hx rfl (hb hby d41_1) rfl (XS.iloadN X0.here hx rfl (hb hby d41_2) rfl k))) ?_
  show G s₁ (mkF m 3 #[iv 0, iv (Int32.ofNat k), iv (Int32.ofNat n)] [.int (Int32.ofNat n), .int (Int32.ofNat k), .int 0])
  obtain ⟨T1, X1, e1, st1⟩ := getS2 X0 hx hZ hown (host := "") (Or.inl (ow hw 53 rfl)) Via.refl e0 (S_sf.ext O.2) (g := (mkF m 3 #[iv 0, iv (Int32.ofNat k), iv (Int32.ofNat n)] [.int (Int32.ofNat n), .int (Int32.ofNat k), .int 0])) rfl (hb hby d41_3)
  refine gb st1 ?_
  show G T1 (mkF m 6 #[iv 0, iv (Int32.ofNat k), iv (Int32.ofNat n)] [sf, .int (Int32.ofNat n), .int (Int32.ofNat k), .int 0])
  obtain ⟨_, _, ⟨T2, Lz2, kz2, nz2⟩, -, X2, ⟨Lc2, hQ2, lq2, yq2, zq2⟩, st2⟩ := Jvm.LawKit.callS X1 hx (y := (⟨"jdk/internal/util/Preconditions", "checkFromIndexSize", "(IIILjava/util/function/BiFunction;)I"⟩ : MethodName)) hown (mvT hZ (ow hw 174 rfl)) (mvT hZ (ow hw 175 rfl)) (mvT hZ (ow hw 54 rfl)) (mvT hZ (ow hw 176 rfl)) (by decide) (backOf (W := 0) (rmPO l Z a0 hw [] k n sf hr_sf h0 n0 O hn hk) hZ (ow hw 176 rfl) (ow hw 54 rfl) (by decide) (by decide)) (g := (mkF m 6 #[iv 0, iv (Int32.ofNat k), iv (Int32.ofNat n)] [sf, .int (Int32.ofNat n), .int (Int32.ofNat k), .int 0])) rfl (by rw [hml]; rfl) (argsL := [(.int (0 : Int32)), (.int (Int32.ofNat k)), (.int (Int32.ofNat n)), sf]) (rest := []) (lenOf pd_10 rfl) rfl (by show 2 * 0 + _ ≤ _; exact Nat.le_of_eq rfl) (hb hby d41_6) (fun _ _ => ⟨rfl, e1, (by decide : 0 + 0 ≤ _), (by decide : 0 + 0 ≤ _)⟩)
  dsimp only [Pt.U, Pt.locs, Pt.cells, Pt.slots] at X2 lq2 yq2 zq2 st2 hQ2
  subst lq2 yq2 zq2
  obtain ⟨rfl, rfl, e2⟩ := hQ2
  try rw [List.append_nil] at X2
  refine gb st2 ?_
  show G T2 (mkF m 9 #[iv 0, iv (Int32.ofNat k), iv (Int32.ofNat n)] [.int 0])
  exact go X2 (v := (some (.int (0 : Int32)))) (fun h => by rw [Bd.returns] at h; cases h) (fun fs hr => retOut X2 hx Bd.returns rfl (Or.inl ⟨rfl, by simp, _, rfl⟩) (hb hby d41_9) hr) (⟨rfl, rfl, e2⟩) (by decide) (by decide)
def Q_rmUL (Z : State) (a1 : Addr) (k1 : ClassId) (cs : List Int32) (h0 : Heap) (n0 : Nat) : Option Value → Heap → List Loc → Prop := fun v h L => v = some (.int (Int32.ofNat cs.length)) ∧ L = [] ∧ h = h0
set_option maxRecDepth 65536 in
set_option maxHeartbeats 40000000 in
theorem rmUL (l : Launch) (Z : State) (a0 : Array Value) (hw : ∀ d ∈ tables_1, d.before a0 Z = true) (ws : List Jvm.Cond) (a1 : Addr) (k1 : ClassId) (cs : List Int32) (h0 : Heap) (n0 : Nat) (O : Old Z n0 h0) (V_a1 : Arv Z h0 a1 k1 .byte (Int32.ofNat (2 * cs.length)) ((own_u cs).map Value.int) (.int (0 : Int32))) (hR : own_R cs) :
    MetFree l (⟨"java/lang/StringUTF16", "length", "([B)I"⟩ : MethodName) (head1 (Jvm.Cond.code (⟨"java/lang/StringUTF16", "length", "([B)I"⟩ : MethodName) jdk_52_method_6_code 1 (some .int) :: ws) ({ frames := 0, cells := 0, slots := 0, locals := 0 } : Room)) (fun a U => a = #[(.ref a1)] ∧ Z.Warmed39 U.vm ∧ U.heap = h0) (fun _ _ _ _ _ => True) (fun _ U o U' => ∃ v L, o = .returned v ∧ (Q_rmUL Z a1 k1 cs h0 n0) v U'.heap L ∧ FrameEnd U o U' L ({ frames := 0, cells := 0, slots := 0, locals := 0 } : Room).cells ({ frames := 0, cells := 0, slots := 0, locals := 0 } : Room).slots) := by
  refine MetFree.of_bodySF (plainFor_of_name pn_0) hisR ?_
  intro p e s m args below meth c s₁ Bd hml0 hP hK
  obtain ⟨rfl, hZ, hh⟩ := hP
  have hx := Bd.exec
  have hby := Bd.bytes
  have hml : c.maxLocals = 1 := hml0
  have hown : s.vm.findClass "java/lang/StringUTF16" = some m.cls := findClass_of_methodNamed Bd.named
  have hnm := (name_of_methodNamed Bd.named Bd.method).1
  have hlk := BodyLoose.notSynchronized Bd
  have X0 : Stand p l e ({ frames := 0, cells := 0, slots := 0, locals := 0 } : Room) s m #[(.ref a1)] below meth c s₁ [] 0 0 := Stand.of_body Bd
  have e0 : s₁.heap = h0 := by rw [← hh, Bd.state]; rfl
  have N := Fr.nil n0
  obtain ⟨G, hG⟩ : ∃ G : State → JFrame → Prop, G = OwnG p e below s ({ frames := 0, cells := 0, slots := 0, locals := 0 } : Room).cells ({ frames := 0, cells := 0, slots := 0, locals := 0 } : Room).slots (Q_rmUL Z a1 k1 cs h0 n0) := ⟨_, rfl⟩
  have gb : ∀ {T T' : State} {g g' : JFrame}, (∀ t, Steps p.tables e below (T'.setTop g') t → Steps p.tables e below (T.setTop g) t) → G T' g' → G T g := by subst hG; exact fun k h => own_by k h
  have go : ∀ {T : State} {locs : List Loc} {cells slots : Nat} {g : JFrame} {v : Option Value}, Stand p l e ({ frames := 0, cells := 0, slots := 0, locals := 0 } : Room) s m #[(.ref a1)] below meth c T locs cells slots → (meth.sig.returnType = none → v = none) → (∀ fs, (∀ (f : JFrame) (acts : List Action), f.method = m → f.locked = none → f.entered = [] → (doReturn e (T.setTop f) acts v).1 = T.setFrames fs) → Steps p.tables e below (T.setTop g) (T.setFrames fs)) → (Q_rmUL Z a1 k1 cs h0 n0) v T.heap locs → cells ≤ ({ frames := 0, cells := 0, slots := 0, locals := 0 } : Room).cells → slots ≤ ({ frames := 0, cells := 0, slots := 0, locals := 0 } : Room).slots → G T g := by subst hG; exact fun X h1 h2 h3 h4 h5 => own_out X hlk h1 h2 h3 h4 h5
  show OwnG p e below s ({ frames := 0, cells := 0, slots := 0, locals := 0 } : Room).cells ({ frames := 0, cells := 0, slots := 0, locals := 0 } : Room).slots (Q_rmUL Z a1 k1 cs h0 n0) s₁ (entryFrame m #[(.ref a1)] 1)
  rw [← hG, ef_rmUL m a1]
  clear hG
  show G s₁ (mkF m 0 #[.val (.ref a1)] [])
  refine gb (fun _ k => XS.aloadN X0.here hx rfl (hb hby d40_0) rfl rfl k) ?_
  show G s₁ (mkF m 1 #[rv a1] [.ref a1])
  have V'1 := V_a1
  obtain ⟨cl1, Ar1, qk1, sz1, nn1, hs1, ft1⟩ := V'1
  refine gb (X0.arraylength hx (by rw [e0]; exact Ar1.1) (State.isArrayOf_alike hZ.alike Ar1.2.1) (g := (mkF m 1 #[rv a1] [.ref a1])) rfl rfl (hb hby d40_1)) ?_
  rw [len_of sz1 nn1]
  show G s₁ (mkF m 2 #[rv a1] [.int (Int32.ofNat (2 * cs.length))])
  refine gb (fun _ k => XS.iconst X0.here hx rfl (hb hby d40_2) (XS.ishr X0.here hx rfl (hb hby d40_3) rfl k)) ?_
  show G s₁ (mkF m 4 #[rv a1] [.int ((Int32.ofNat (2 * cs.length)) >>> ((1 : Int32) &&& 31))])
  rw [own_shr hR.1]
  show G s₁ (mkF m 4 #[rv a1] [.int (Int32.ofNat cs.length)])
  exact go X0 (v := (some (.int (Int32.ofNat cs.length)))) (fun h => by rw [Bd.returns] at h; cases h) (fun fs hr => retOut X0 hx Bd.returns rfl (Or.inl ⟨rfl, by simp, _, rfl⟩) (hb hby d40_4) hr) (⟨rfl, rfl, e0⟩) (by decide) (by decide)
def Q_rmUO (Z : State) (k : Nat) (a1 : Addr) (k1 : ClassId) (cs : List Int32) (sf : Value) (h0 : Heap) (n0 : Nat) : Option Value → Heap → List Loc → Prop := fun v h L => v = none ∧ L = [] ∧ h = h0
set_option maxRecDepth 65536 in
set_option maxHeartbeats 40000000 in
theorem rmUO (l : Launch) (Z : State) (a0 : Array Value) (hw : ∀ d ∈ tables_1, d.before a0 Z = true) (ws : List Jvm.Cond) (k : Nat) (a1 : Addr) (k1 : ClassId) (cs : List Int32) (sf : Value) (hr_sf : sf.isRef = true) (S_sf : Sta Z Z.heap "jdk/internal/util/Preconditions" "SIOOBE_FORMATTER" "Ljava/util/function/BiFunction;" sf) (h0 : Heap) (n0 : Nat) (O : Old Z n0 h0) (V_a1 : Arv Z h0 a1 k1 .byte (Int32.ofNat (2 * cs.length)) ((own_u cs).map Value.int) (.int (0 : Int32))) (hR : own_R cs) (hk : k ≤ cs.length) :
    MetFree l (⟨"java/lang/StringUTF16", "checkBoundsOffCount", "(II[B)V"⟩ : MethodName) (head1 (Jvm.Cond.code (⟨"java/lang/StringUTF16", "checkBoundsOffCount", "(II[B)V"⟩ : MethodName) jdk_52_method_94_code 3 none :: ws) ({ frames := 2, cells := 0, slots := 0, locals := 29 } : Room)) (fun a U => a = #[(.int (0 : Int32)), (.int (Int32.ofNat k)), (.ref a1)] ∧ Z.Warmed39 U.vm ∧ U.heap = h0) (fun _ _ _ _ _ => True) (fun _ U o U' => ∃ v L, o = .returned v ∧ (Q_rmUO Z k a1 k1 cs sf h0 n0) v U'.heap L ∧ FrameEnd U o U' L ({ frames := 2, cells := 0, slots := 0, locals := 29 } : Room).cells ({ frames := 2, cells := 0, slots := 0, locals := 29 } : Room).slots) := by
  refine MetFree.of_bodySF (plainFor_of_name pn_0) hisR ?_
  intro p e s m args below meth c s₁ Bd hml0 hP hK
  obtain ⟨rfl, hZ, hh⟩ := hP
  have hx := Bd.exec
  have hby := Bd.bytes
  have hml : c.maxLocals = 3 := hml0
  have hown : s.vm.findClass "java/lang/StringUTF16" = some m.cls := findClass_of_methodNamed Bd.named
  have hnm := (name_of_methodNamed Bd.named Bd.method).1
  have hlk := BodyLoose.notSynchronized Bd
  have X0 : Stand p l e ({ frames := 2, cells := 0, slots := 0, locals := 29 } : Room) s m #[(.int (0 : Int32)), (.int (Int32.ofNat k)), (.ref a1)] below meth c s₁ [] 0 0 := Stand.of_body Bd
  have e0 : s₁.heap = h0 := by rw [← hh, Bd.state]; rfl
  have N := Fr.nil n0
  obtain ⟨G, hG⟩ : ∃ G : State → JFrame → Prop, G = OwnG p e below s ({ frames := 2, cells := 0, slots := 0, locals := 29 } : Room).cells ({ frames := 2, cells := 0, slots := 0, locals := 29 } : Room).slots (Q_rmUO Z k a1 k1 cs sf h0 n0) := ⟨_, rfl⟩
  have gb : ∀ {T T' : State} {g g' : JFrame}, (∀ t, Steps p.tables e below (T'.setTop g') t → Steps p.tables e below (T.setTop g) t) → G T' g' → G T g := by subst hG; exact fun k h => own_by k h
  have go : ∀ {T : State} {locs : List Loc} {cells slots : Nat} {g : JFrame} {v : Option Value}, Stand p l e ({ frames := 2, cells := 0, slots := 0, locals := 29 } : Room) s m #[(.int (0 : Int32)), (.int (Int32.ofNat k)), (.ref a1)] below meth c T locs cells slots → (meth.sig.returnType = none → v = none) → (∀ fs, (∀ (f : JFrame) (acts : List Action), f.method = m → f.locked = none → f.entered = [] → (doReturn e (T.setTop f) acts v).1 = T.setFrames fs) → Steps p.tables e below (T.setTop g) (T.setFrames fs)) → (Q_rmUO Z k a1 k1 cs sf h0 n0) v T.heap locs → cells ≤ ({ frames := 2, cells := 0, slots := 0, locals := 29 } : Room).cells → slots ≤ ({ frames := 2, cells := 0, slots := 0, locals := 29 } : Room).slots → G T g := by subst hG; exact fun X h1 h2 h3 h4 h5 => own_out X hlk h1 h2 h3 h4 h5
  show OwnG p e below s ({ frames := 2, cells := 0, slots := 0, locals := 29 } : Room).cells ({ frames := 2, cells := 0, slots := 0, locals := 29 } : Room).slots (Q_rmUO Z k a1 k1 cs sf h0 n0) s₁ (entryFrame m #[(.int (0 : Int32)), (.int (Int32.ofNat k)), (.ref a1)] 3)
  rw [← hG, ef_rmUO m (0 : Int32) (Int32.ofNat k) a1]
  clear hG
  show G s₁ (mkF m 0 #[.val (.int (0 : Int32)), .val (.int (Int32.ofNat k)), .val (.ref a1)] [])
  refine gb (fun _ k => XS.iloadN X0.here hx rfl (hb hby d39_0) rfl (XS.iloadN X0.here hx rfl (hb hby d39_1) rfl (XS.aloadN X0.here hx rfl (hb hby d39_2) rfl rfl k))) ?_
  show G s₁ (mkF m 3 #[iv 0, iv (Int32.ofNat k), rv a1] [.ref a1, .int (Int32.ofNat k), .int 0])
  obtain ⟨_, _, ⟨T1, Lz1, kz1, nz1⟩, -, X1, ⟨Lc1, hQ1, lq1, yq1, zq1⟩, st1⟩ := Jvm.LawKit.callS X0 hx (y := (⟨"java/lang/StringUTF16", "length", "([B)I"⟩ : MethodName)) hown (mvT hZ (ow hw 168 rfl)) (mvT hZ (ow hw 169 rfl)) (mvT hZ (ow hw 81 rfl)) (mvT hZ (ow hw 170 rfl)) (by decide) (backOf (W := 2) (rmUL l Z a0 hw [] a1 k1 cs h0 n0 O V_a1 hR) hZ (ow hw 170 rfl) (ow hw 81 rfl) (by decide) (by decide)) (g := (mkF m 3 #[iv 0, iv (Int32.ofNat k), rv a1] [.ref a1, .int (Int32.ofNat k), .int 0])) rfl (by rw [hml]; rfl) (argsL := [(.ref a1)]) (rest := [(.int (Int32.ofNat k)), (.int (0 : Int32))]) (lenOf pd_11 rfl) rfl (by show 2 * 0 + _ ≤ _; exact Nat.le_of_eq rfl) (hb hby d39_3) (fun _ _ => ⟨rfl, e0, (by decide : 0 + 0 ≤ _), (by decide : 0 + 0 ≤ _)⟩)
  dsimp only [Pt.U, Pt.locs, Pt.cells, Pt.slots] at X1 lq1 yq1 zq1 st1 hQ1
  subst lq1 yq1 zq1
  obtain ⟨rfl, rfl, e1⟩ := hQ1
  try rw [List.append_nil] at X1
  refine gb st1 ?_
  show G T1 (mkF m 6 #[iv 0, iv (Int32.ofNat k), rv a1] [.int (Int32.ofNat cs.length), .int (Int32.ofNat k), .int 0])
  obtain ⟨_, _, ⟨T2, Lz2, kz2, nz2⟩, -, X2, ⟨Lc2, hQ2, lq2, yq2, zq2⟩, st2⟩ := Jvm.LawKit.callS X1 hx (y := (⟨"java/lang/String", "checkBoundsOffCount", "(III)I"⟩ : MethodName)) hown (mvT hZ (ow hw 171 rfl)) (mvT hZ (ow hw 172 rfl)) (mvT hZ (ow hw 3 rfl)) (mvT hZ (ow hw 173 rfl)) (by decide) (backOf (W := 0) (rmBO l Z a0 hw [] k cs.length sf hr_sf S_sf h0 n0 O hR.1 hk) hZ (ow hw 173 rfl) (ow hw 3 rfl) (by decide) (by decide)) (g := (mkF m 6 #[iv 0, iv (Int32.ofNat k), rv a1] [.int (Int32.ofNat cs.length), .int (Int32.ofNat k), .int 0])) rfl (by rw [hml]; rfl) (argsL := [(.int (0 : Int32)), (.int (Int32.ofNat k)), (.int (Int32.ofNat cs.length))]) (rest := []) (lenOf pd_12 rfl) rfl (by show 2 * 0 + _ ≤ _; exact Nat.le_of_eq rfl) (hb hby d39_6) (fun _ _ => ⟨rfl, e1, (by decide : 0 + 0 ≤ _), (by decide : 0 + 0 ≤ _)⟩)
  dsimp only [Pt.U, Pt.locs, Pt.cells, Pt.slots] at X2 lq2 yq2 zq2 st2 hQ2
  subst lq2 yq2 zq2
  obtain ⟨rfl, rfl, e2⟩ := hQ2
  try rw [List.append_nil] at X2
  refine gb st2 ?_
  show G T2 (mkF m 9 #[iv 0, iv (Int32.ofNat k), rv a1] [.int 0])
  refine gb (fun _ k => XS.pop X2.here hx rfl (hb hby d39_9) rfl rfl k) ?_
  show G T2 (mkF m 10 #[iv 0, iv (Int32.ofNat k), rv a1] [])
  exact go X2 (v := none) (fun _ => rfl) (fun fs hr => X2.returnOut hx Bd.returns (hb hby d39_10) hr) (⟨rfl, rfl, e2⟩) (by decide) (by decide)
def Q_rmHS (Z : State) (c0 : Int32) (h0 : Heap) (n0 : Nat) : Option Value → Heap → List Loc → Prop := fun v h L => v = some (.int (if own_hs c0 then (1 : Int32) else (0 : Int32))) ∧ L = [] ∧ h = h0
set_option maxRecDepth 65536 in
set_option maxHeartbeats 40000000 in
theorem rmHS (l : Launch) (Z : State) (a0 : Array Value) (hw : ∀ d ∈ tables_1, d.before a0 Z = true) (ws : List Jvm.Cond) (c0 : Int32) (h0 : Heap) (n0 : Nat) (O : Old Z n0 h0) :
    MetFree l (⟨"java/lang/Character", "isHighSurrogate", "(C)Z"⟩ : MethodName) (head1 (Jvm.Cond.code (⟨"java/lang/Character", "isHighSurrogate", "(C)Z"⟩ : MethodName) jdk_89_method_14_code 1 (some .boolean) :: ws) ({ frames := 0, cells := 0, slots := 0, locals := 0 } : Room)) (fun a U => a = #[(.int c0)] ∧ Z.Warmed39 U.vm ∧ U.heap = h0) (fun _ _ _ _ _ => True) (fun _ U o U' => ∃ v L, o = .returned v ∧ (Q_rmHS Z c0 h0 n0) v U'.heap L ∧ FrameEnd U o U' L ({ frames := 0, cells := 0, slots := 0, locals := 0 } : Room).cells ({ frames := 0, cells := 0, slots := 0, locals := 0 } : Room).slots) := by
  refine MetFree.of_bodySF (plainFor_of_name pn_3) hisR ?_
  intro p e s m args below meth c s₁ Bd hml0 hP hK
  obtain ⟨rfl, hZ, hh⟩ := hP
  have hx := Bd.exec
  have hby := Bd.bytes
  have hml : c.maxLocals = 1 := hml0
  have hown : s.vm.findClass "java/lang/Character" = some m.cls := findClass_of_methodNamed Bd.named
  have hnm := (name_of_methodNamed Bd.named Bd.method).1
  have hlk := BodyLoose.notSynchronized Bd
  have X0 : Stand p l e ({ frames := 0, cells := 0, slots := 0, locals := 0 } : Room) s m #[(.int c0)] below meth c s₁ [] 0 0 := Stand.of_body Bd
  have e0 : s₁.heap = h0 := by rw [← hh, Bd.state]; rfl
  have N := Fr.nil n0
  obtain ⟨G, hG⟩ : ∃ G : State → JFrame → Prop, G = OwnG p e below s ({ frames := 0, cells := 0, slots := 0, locals := 0 } : Room).cells ({ frames := 0, cells := 0, slots := 0, locals := 0 } : Room).slots (Q_rmHS Z c0 h0 n0) := ⟨_, rfl⟩
  have gb : ∀ {T T' : State} {g g' : JFrame}, (∀ t, Steps p.tables e below (T'.setTop g') t → Steps p.tables e below (T.setTop g) t) → G T' g' → G T g := by subst hG; exact fun k h => own_by k h
  have go : ∀ {T : State} {locs : List Loc} {cells slots : Nat} {g : JFrame} {v : Option Value}, Stand p l e ({ frames := 0, cells := 0, slots := 0, locals := 0 } : Room) s m #[(.int c0)] below meth c T locs cells slots → (meth.sig.returnType = none → v = none) → (∀ fs, (∀ (f : JFrame) (acts : List Action), f.method = m → f.locked = none → f.entered = [] → (doReturn e (T.setTop f) acts v).1 = T.setFrames fs) → Steps p.tables e below (T.setTop g) (T.setFrames fs)) → (Q_rmHS Z c0 h0 n0) v T.heap locs → cells ≤ ({ frames := 0, cells := 0, slots := 0, locals := 0 } : Room).cells → slots ≤ ({ frames := 0, cells := 0, slots := 0, locals := 0 } : Room).slots → G T g := by subst hG; exact fun X h1 h2 h3 h4 h5 => own_out X hlk h1 h2 h3 h4 h5
  show OwnG p e below s ({ frames := 0, cells := 0, slots := 0, locals := 0 } : Room).cells ({ frames := 0, cells := 0, slots := 0, locals := 0 } : Room).slots (Q_rmHS Z c0 h0 n0) s₁ (entryFrame m #[(.int c0)] 1)
  rw [← hG, ef_rmHS m c0]
  clear hG
  show G s₁ (mkF m 0 #[.val (.int c0)] [])
  refine gb (fun _ k => XS.iloadN X0.here hx rfl (hb hby d31_0) rfl k) ?_
  show G s₁ (mkF m 1 #[iv c0] [.int c0])
  refine gb (X0.ldcInt hx hown (mvT hZ (ow hw 137 rfl)) (g := (mkF m 1 #[iv c0] [.int c0])) rfl (hb hby d31_1)) ?_
  show G s₁ (mkF m 3 #[iv c0] [.int 55296, .int c0])
  by_cases hc3 : c0 < (55296 : Int32)
  · skip
    refine gb (fun _ k => XS.icmpYes X0.here hx rfl (pc0 := 3) (pc' := 16) rfl (hb hby d31_3) rfl (tlt hc3).1 (by decide) (by decide) (XS.iconst X0.here hx rfl (hb hby d31_16) k)) ?_
    show G s₁ (mkF m 17 #[iv c0] [.int 0])
    exact go X0 (v := (some (.int (0 : Int32)))) (fun h => by rw [Bd.returns] at h; cases h) (fun fs hr => retOut X0 hx Bd.returns rfl (Or.inl ⟨rfl, by simp, _, rfl⟩) (hb hby d31_17) hr) (⟨by rw [if_neg (fun q => q.1 hc3)], rfl, e0⟩) (by decide) (by decide)
  · skip
    refine gb (fun _ k => XS.icmpNo X0.here hx rfl (hb hby d31_3) rfl (flt hc3).1 (XS.iloadN X0.here hx rfl (hb hby d31_6) rfl k)) ?_
    show G s₁ (mkF m 7 #[iv c0] [.int c0])
    refine gb (X0.ldcInt hx hown (mvT hZ (ow hw 146 rfl)) (g := (mkF m 7 #[iv c0] [.int c0])) rfl (hb hby d31_7)) ?_
    show G s₁ (mkF m 9 #[iv c0] [.int 56320, .int c0])
    by_cases hc9 : c0 < (56320 : Int32)
    · skip
      refine gb (fun _ k => XS.icmpNo X0.here hx rfl (hb hby d31_9) rfl (tlt hc9).2.1 (XS.iconst X0.here hx rfl (hb hby d31_12) (XS.goto X0.here hx rfl (pc0 := 13) (pc' := 17) rfl (hb hby d31_13) (by decide) (by decide) k))) ?_
      show G s₁ (mkF m 17 #[iv c0] [.int 1])
      exact go X0 (v := (some (.int (1 : Int32)))) (fun h => by rw [Bd.returns] at h; cases h) (fun fs hr => retOut X0 hx Bd.returns rfl (Or.inl ⟨rfl, by simp, _, rfl⟩) (hb hby d31_17) hr) (⟨by rw [if_pos ⟨hc3, hc9⟩], rfl, e0⟩) (by decide) (by decide)
    · skip
      refine gb (fun _ k => XS.icmpYes X0.here hx rfl (pc0 := 9) (pc' := 16) rfl (hb hby d31_9) rfl (flt hc9).2.1 (by decide) (by decide) (XS.iconst X0.here hx rfl (hb hby d31_16) k)) ?_
      show G s₁ (mkF m 17 #[iv c0] [.int 0])
      exact go X0 (v := (some (.int (0 : Int32)))) (fun h => by rw [Bd.returns] at h; cases h) (fun fs hr => retOut X0 hx Bd.returns rfl (Or.inl ⟨rfl, by simp, _, rfl⟩) (hb hby d31_17) hr) (⟨by rw [if_neg (fun q => hc9 q.2)], rfl, e0⟩) (by decide) (by decide)
def Q_rmLS (Z : State) (c0 : Int32) (h0 : Heap) (n0 : Nat) : Option Value → Heap → List Loc → Prop := fun v h L => v = some (.int (if own_lw c0 then (1 : Int32) else (0 : Int32))) ∧ L = [] ∧ h = h0
set_option maxRecDepth 65536 in
set_option maxHeartbeats 40000000 in
theorem rmLS (l : Launch) (Z : State) (a0 : Array Value) (hw : ∀ d ∈ tables_1, d.before a0 Z = true) (ws : List Jvm.Cond) (c0 : Int32) (h0 : Heap) (n0 : Nat) (O : Old Z n0 h0) :
    MetFree l (⟨"java/lang/Character", "isLowSurrogate", "(C)Z"⟩ : MethodName) (head1 (Jvm.Cond.code (⟨"java/lang/Character", "isLowSurrogate", "(C)Z"⟩ : MethodName) jdk_89_method_15_code 1 (some .boolean) :: ws) ({ frames := 0, cells := 0, slots := 0, locals := 0 } : Room)) (fun a U => a = #[(.int c0)] ∧ Z.Warmed39 U.vm ∧ U.heap = h0) (fun _ _ _ _ _ => True) (fun _ U o U' => ∃ v L, o = .returned v ∧ (Q_rmLS Z c0 h0 n0) v U'.heap L ∧ FrameEnd U o U' L ({ frames := 0, cells := 0, slots := 0, locals := 0 } : Room).cells ({ frames := 0, cells := 0, slots := 0, locals := 0 } : Room).slots) := by
  refine MetFree.of_bodySF (plainFor_of_name pn_3) hisR ?_
  intro p e s m args below meth c s₁ Bd hml0 hP hK
  obtain ⟨rfl, hZ, hh⟩ := hP
  have hx := Bd.exec
  have hby := Bd.bytes
  have hml : c.maxLocals = 1 := hml0
  have hown : s.vm.findClass "java/lang/Character" = some m.cls := findClass_of_methodNamed Bd.named
  have hnm := (name_of_methodNamed Bd.named Bd.method).1
  have hlk := BodyLoose.notSynchronized Bd
  have X0 : Stand p l e ({ frames := 0, cells := 0, slots := 0, locals := 0 } : Room) s m #[(.int c0)] below meth c s₁ [] 0 0 := Stand.of_body Bd
  have e0 : s₁.heap = h0 := by rw [← hh, Bd.state]; rfl
  have N := Fr.nil n0
  obtain ⟨G, hG⟩ : ∃ G : State → JFrame → Prop, G = OwnG p e below s ({ frames := 0, cells := 0, slots := 0, locals := 0 } : Room).cells ({ frames := 0, cells := 0, slots := 0, locals := 0 } : Room).slots (Q_rmLS Z c0 h0 n0) := ⟨_, rfl⟩
  have gb : ∀ {T T' : State} {g g' : JFrame}, (∀ t, Steps p.tables e below (T'.setTop g') t → Steps p.tables e below (T.setTop g) t) → G T' g' → G T g := by subst hG; exact fun k h => own_by k h
  have go : ∀ {T : State} {locs : List Loc} {cells slots : Nat} {g : JFrame} {v : Option Value}, Stand p l e ({ frames := 0, cells := 0, slots := 0, locals := 0 } : Room) s m #[(.int c0)] below meth c T locs cells slots → (meth.sig.returnType = none → v = none) → (∀ fs, (∀ (f : JFrame) (acts : List Action), f.method = m → f.locked = none → f.entered = [] → (doReturn e (T.setTop f) acts v).1 = T.setFrames fs) → Steps p.tables e below (T.setTop g) (T.setFrames fs)) → (Q_rmLS Z c0 h0 n0) v T.heap locs → cells ≤ ({ frames := 0, cells := 0, slots := 0, locals := 0 } : Room).cells → slots ≤ ({ frames := 0, cells := 0, slots := 0, locals := 0 } : Room).slots → G T g := by subst hG; exact fun X h1 h2 h3 h4 h5 => own_out X hlk h1 h2 h3 h4 h5
  show OwnG p e below s ({ frames := 0, cells := 0, slots := 0, locals := 0 } : Room).cells ({ frames := 0, cells := 0, slots := 0, locals := 0 } : Room).slots (Q_rmLS Z c0 h0 n0) s₁ (entryFrame m #[(.int c0)] 1)
  rw [← hG, ef_rmLS m c0]
  clear hG
  show G s₁ (mkF m 0 #[.val (.int c0)] [])
  refine gb (fun _ k => XS.iloadN X0.here hx rfl (hb hby d34_0) rfl k) ?_
  show G s₁ (mkF m 1 #[iv c0] [.int c0])
  refine gb (X0.ldcInt hx hown (mvT hZ (ow hw 146 rfl)) (g := (mkF m 1 #[iv c0] [.int c0])) rfl (hb hby d34_1)) ?_
  show G s₁ (mkF m 3 #[iv c0] [.int 56320, .int c0])
  by_cases hc3 : c0 < (56320 : Int32)
  · skip
    refine gb (fun _ k => XS.icmpYes X0.here hx rfl (pc0 := 3) (pc' := 16) rfl (hb hby d34_3) rfl (tlt hc3).1 (by decide) (by decide) (XS.iconst X0.here hx rfl (hb hby d34_16) k)) ?_
    show G s₁ (mkF m 17 #[iv c0] [.int 0])
    exact go X0 (v := (some (.int (0 : Int32)))) (fun h => by rw [Bd.returns] at h; cases h) (fun fs hr => retOut X0 hx Bd.returns rfl (Or.inl ⟨rfl, by simp, _, rfl⟩) (hb hby d34_17) hr) (⟨by rw [if_neg (fun q => q.1 hc3)], rfl, e0⟩) (by decide) (by decide)
  · skip
    refine gb (fun _ k => XS.icmpNo X0.here hx rfl (hb hby d34_3) rfl (flt hc3).1 (XS.iloadN X0.here hx rfl (hb hby d34_6) rfl k)) ?_
    show G s₁ (mkF m 7 #[iv c0] [.int c0])
    refine gb (X0.ldcInt hx hown (mvT hZ (ow hw 150 rfl)) (g := (mkF m 7 #[iv c0] [.int c0])) rfl (hb hby d34_7)) ?_
    show G s₁ (mkF m 9 #[iv c0] [.int 57344, .int c0])
    by_cases hc9 : c0 < (57344 : Int32)
    · skip
      refine gb (fun _ k => XS.icmpNo X0.here hx rfl (hb hby d34_9) rfl (tlt hc9).2.1 (XS.iconst X0.here hx rfl (hb hby d34_12) (XS.goto X0.here hx rfl (pc0 := 13) (pc' := 17) rfl (hb hby d34_13) (by decide) (by decide) k))) ?_
      show G s₁ (mkF m 17 #[iv c0] [.int 1])
      exact go X0 (v := (some (.int (1 : Int32)))) (fun h => by rw [Bd.returns] at h; cases h) (fun fs hr => retOut X0 hx Bd.returns rfl (Or.inl ⟨rfl, by simp, _, rfl⟩) (hb hby d34_17) hr) (⟨by rw [if_pos ⟨hc3, hc9⟩], rfl, e0⟩) (by decide) (by decide)
    · skip
      refine gb (fun _ k => XS.icmpYes X0.here hx rfl (pc0 := 9) (pc' := 16) rfl (hb hby d34_9) rfl (flt hc9).2.1 (by decide) (by decide) (XS.iconst X0.here hx rfl (hb hby d34_16) k)) ?_
      show G s₁ (mkF m 17 #[iv c0] [.int 0])
      exact go X0 (v := (some (.int (0 : Int32)))) (fun h => by rw [Bd.returns] at h; cases h) (fun fs hr => retOut X0 hx Bd.returns rfl (Or.inl ⟨rfl, by simp, _, rfl⟩) (hb hby d34_17) hr) (⟨by rw [if_neg (fun q => hc9 q.2)], rfl, e0⟩) (by decide) (by decide)
def Q_rmTC (Z : State) (c0 c1 : Int32) (h0 : Heap) (n0 : Nat) : Option Value → Heap → List Loc → Prop := fun v h L => v = some (.int (own_tcp c0 c1)) ∧ L = [] ∧ h = h0
set_option maxRecDepth 65536 in
set_option maxHeartbeats 40000000 in
theorem rmTC (l : Launch) (Z : State) (a0 : Array Value) (hw : ∀ d ∈ tables_1, d.before a0 Z = true) (ws : List Jvm.Cond) (c0 c1 : Int32) (h0 : Heap) (n0 : Nat) (O : Old Z n0 h0) :
    MetFree l (⟨"java/lang/Character", "toCodePoint", "(CC)I"⟩ : MethodName) (head1 (Jvm.Cond.code (⟨"java/lang/Character", "toCodePoint", "(CC)I"⟩ : MethodName) jdk_89_method_19_code 2 (some .int) :: ws) ({ frames := 0, cells := 0, slots := 0, locals := 0 } : Room)) (fun a U => a = #[(.int c0), (.int c1)] ∧ Z.Warmed39 U.vm ∧ U.heap = h0) (fun _ _ _ _ _ => True) (fun _ U o U' => ∃ v L, o = .returned v ∧ (Q_rmTC Z c0 c1 h0 n0) v U'.heap L ∧ FrameEnd U o U' L ({ frames := 0, cells := 0, slots := 0, locals := 0 } : Room).cells ({ frames := 0, cells := 0, slots := 0, locals := 0 } : Room).slots) := by
  refine MetFree.of_bodySF (plainFor_of_name pn_3) hisR ?_
  intro p e s m args below meth c s₁ Bd hml0 hP hK
  obtain ⟨rfl, hZ, hh⟩ := hP
  have hx := Bd.exec
  have hby := Bd.bytes
  have hml : c.maxLocals = 2 := hml0
  have hown : s.vm.findClass "java/lang/Character" = some m.cls := findClass_of_methodNamed Bd.named
  have hnm := (name_of_methodNamed Bd.named Bd.method).1
  have hlk := BodyLoose.notSynchronized Bd
  have X0 : Stand p l e ({ frames := 0, cells := 0, slots := 0, locals := 0 } : Room) s m #[(.int c0), (.int c1)] below meth c s₁ [] 0 0 := Stand.of_body Bd
  have e0 : s₁.heap = h0 := by rw [← hh, Bd.state]; rfl
  have N := Fr.nil n0
  obtain ⟨G, hG⟩ : ∃ G : State → JFrame → Prop, G = OwnG p e below s ({ frames := 0, cells := 0, slots := 0, locals := 0 } : Room).cells ({ frames := 0, cells := 0, slots := 0, locals := 0 } : Room).slots (Q_rmTC Z c0 c1 h0 n0) := ⟨_, rfl⟩
  have gb : ∀ {T T' : State} {g g' : JFrame}, (∀ t, Steps p.tables e below (T'.setTop g') t → Steps p.tables e below (T.setTop g) t) → G T' g' → G T g := by subst hG; exact fun k h => own_by k h
  have go : ∀ {T : State} {locs : List Loc} {cells slots : Nat} {g : JFrame} {v : Option Value}, Stand p l e ({ frames := 0, cells := 0, slots := 0, locals := 0 } : Room) s m #[(.int c0), (.int c1)] below meth c T locs cells slots → (meth.sig.returnType = none → v = none) → (∀ fs, (∀ (f : JFrame) (acts : List Action), f.method = m → f.locked = none → f.entered = [] → (doReturn e (T.setTop f) acts v).1 = T.setFrames fs) → Steps p.tables e below (T.setTop g) (T.setFrames fs)) → (Q_rmTC Z c0 c1 h0 n0) v T.heap locs → cells ≤ ({ frames := 0, cells := 0, slots := 0, locals := 0 } : Room).cells → slots ≤ ({ frames := 0, cells := 0, slots := 0, locals := 0 } : Room).slots → G T g := by subst hG; exact fun X h1 h2 h3 h4 h5 => own_out X hlk h1 h2 h3 h4 h5
  show OwnG p e below s ({ frames := 0, cells := 0, slots := 0, locals := 0 } : Room).cells ({ frames := 0, cells := 0, slots := 0, locals := 0 } : Room).slots (Q_rmTC Z c0 c1 h0 n0) s₁ (entryFrame m #[(.int c0), (.int c1)] 2)
  rw [← hG, ef_rmTC m c0 c1]
  clear hG
  show G s₁ (mkF m 0 #[.val (.int c0), .val (.int c1)] [])
  refine gb (fun _ k => XS.iloadN X0.here hx rfl (hb hby d35_0) rfl (XS.bipush X0.here hx rfl (hb hby d35_1) (XS.ishl X0.here hx rfl (hb hby d35_3) rfl (XS.iloadN X0.here hx rfl (hb hby d35_4) rfl (XS.iadd X0.here hx rfl (hb hby d35_5) rfl k))))) ?_
  show G s₁ (mkF m 6 #[iv c0, iv c1] [.int ((c0 <<< ((10 : Int32) &&& 31)) + c1)])
  refine gb (X0.ldcInt hx hown (mvT hZ (ow hw 154 rfl)) (g := (mkF m 6 #[iv c0, iv c1] [.int ((c0 <<< ((10 : Int32) &&& 31)) + c1)])) rfl (hb hby d35_6)) ?_
  show G s₁ (mkF m 8 #[iv c0, iv c1] [.int (-56613888), .int ((c0 <<< ((10 : Int32) &&& 31)) + c1)])
  refine gb (fun _ k => XS.iadd X0.here hx rfl (hb hby d35_8) rfl k) ?_
  show G s₁ (mkF m 9 #[iv c0, iv c1] [.int (((c0 <<< ((10 : Int32) &&& 31)) + c1) + (-56613888 : Int32))])
  exact go X0 (v := (some (.int (((c0 <<< ((10 : Int32) &&& 31)) + c1) + (-56613888 : Int32))))) (fun h => by rw [Bd.returns] at h; cases h) (fun fs hr => retOut X0 hx Bd.returns rfl (Or.inl ⟨rfl, by simp, _, rfl⟩) (hb hby d35_9) hr) (⟨rfl, rfl, e0⟩) (by decide) (by decide)
def Q_rmCC (Z : State) (c0 : Int32) (h0 : Heap) (n0 : Nat) : Option Value → Heap → List Loc → Prop := fun v h L => v = some (.int (own_cc c0)) ∧ L = [] ∧ h = h0
set_option maxRecDepth 65536 in
set_option maxHeartbeats 40000000 in
theorem rmCC (l : Launch) (Z : State) (a0 : Array Value) (hw : ∀ d ∈ tables_1, d.before a0 Z = true) (ws : List Jvm.Cond) (c0 : Int32) (h0 : Heap) (n0 : Nat) (O : Old Z n0 h0) :
    MetFree l (⟨"java/lang/Character", "charCount", "(I)I"⟩ : MethodName) (head1 (Jvm.Cond.code (⟨"java/lang/Character", "charCount", "(I)I"⟩ : MethodName) jdk_89_method_18_code 1 (some .int) :: ws) ({ frames := 0, cells := 0, slots := 0, locals := 0 } : Room)) (fun a U => a = #[(.int c0)] ∧ Z.Warmed39 U.vm ∧ U.heap = h0) (fun _ _ _ _ _ => True) (fun _ U o U' => ∃ v L, o = .returned v ∧ (Q_rmCC Z c0 h0 n0) v U'.heap L ∧ FrameEnd U o U' L ({ frames := 0, cells := 0, slots := 0, locals := 0 } : Room).cells ({ frames := 0, cells := 0, slots := 0, locals := 0 } : Room).slots) := by
  refine MetFree.of_bodySF (plainFor_of_name pn_3) hisR ?_
  intro p e s m args below meth c s₁ Bd hml0 hP hK
  obtain ⟨rfl, hZ, hh⟩ := hP
  have hx := Bd.exec
  have hby := Bd.bytes
  have hml : c.maxLocals = 1 := hml0
  have hown : s.vm.findClass "java/lang/Character" = some m.cls := findClass_of_methodNamed Bd.named
  have hnm := (name_of_methodNamed Bd.named Bd.method).1
  have hlk := BodyLoose.notSynchronized Bd
  have X0 : Stand p l e ({ frames := 0, cells := 0, slots := 0, locals := 0 } : Room) s m #[(.int c0)] below meth c s₁ [] 0 0 := Stand.of_body Bd
  have e0 : s₁.heap = h0 := by rw [← hh, Bd.state]; rfl
  have N := Fr.nil n0
  obtain ⟨G, hG⟩ : ∃ G : State → JFrame → Prop, G = OwnG p e below s ({ frames := 0, cells := 0, slots := 0, locals := 0 } : Room).cells ({ frames := 0, cells := 0, slots := 0, locals := 0 } : Room).slots (Q_rmCC Z c0 h0 n0) := ⟨_, rfl⟩
  have gb : ∀ {T T' : State} {g g' : JFrame}, (∀ t, Steps p.tables e below (T'.setTop g') t → Steps p.tables e below (T.setTop g) t) → G T' g' → G T g := by subst hG; exact fun k h => own_by k h
  have go : ∀ {T : State} {locs : List Loc} {cells slots : Nat} {g : JFrame} {v : Option Value}, Stand p l e ({ frames := 0, cells := 0, slots := 0, locals := 0 } : Room) s m #[(.int c0)] below meth c T locs cells slots → (meth.sig.returnType = none → v = none) → (∀ fs, (∀ (f : JFrame) (acts : List Action), f.method = m → f.locked = none → f.entered = [] → (doReturn e (T.setTop f) acts v).1 = T.setFrames fs) → Steps p.tables e below (T.setTop g) (T.setFrames fs)) → (Q_rmCC Z c0 h0 n0) v T.heap locs → cells ≤ ({ frames := 0, cells := 0, slots := 0, locals := 0 } : Room).cells → slots ≤ ({ frames := 0, cells := 0, slots := 0, locals := 0 } : Room).slots → G T g := by subst hG; exact fun X h1 h2 h3 h4 h5 => own_out X hlk h1 h2 h3 h4 h5
  show OwnG p e below s ({ frames := 0, cells := 0, slots := 0, locals := 0 } : Room).cells ({ frames := 0, cells := 0, slots := 0, locals := 0 } : Room).slots (Q_rmCC Z c0 h0 n0) s₁ (entryFrame m #[(.int c0)] 1)
  rw [← hG, ef_rmCC m c0]
  clear hG
  show G s₁ (mkF m 0 #[.val (.int c0)] [])
  refine gb (fun _ k => XS.iloadN X0.here hx rfl (hb hby d33_0) rfl k) ?_
  show G s₁ (mkF m 1 #[iv c0] [.int c0])
  refine gb (X0.ldcInt hx hown (mvT hZ (ow hw 144 rfl)) (g := (mkF m 1 #[iv c0] [.int c0])) rfl (hb hby d33_1)) ?_
  show G s₁ (mkF m 3 #[iv c0] [.int 65536, .int c0])
  by_cases hc3 : c0 < (65536 : Int32)
  · skip
    refine gb (fun _ k => XS.icmpYes X0.here hx rfl (pc0 := 3) (pc' := 10) rfl (hb hby d33_3) rfl (tlt hc3).1 (by decide) (by decide) (XS.iconst X0.here hx rfl (hb hby d33_10) k)) ?_
    show G s₁ (mkF m 11 #[iv c0] [.int 1])
    exact go X0 (v := (some (.int (1 : Int32)))) (fun h => by rw [Bd.returns] at h; cases h) (fun fs hr => retOut X0 hx Bd.returns rfl (Or.inl ⟨rfl, by simp, _, rfl⟩) (hb hby d33_11) hr) (⟨by unfold own_cc; rw [if_pos hc3], rfl, e0⟩) (by decide) (by decide)
  · skip
    refine gb (fun _ k => XS.icmpNo X0.here hx rfl (hb hby d33_3) rfl (flt hc3).1 (XS.iconst X0.here hx rfl (hb hby d33_6) (XS.goto X0.here hx rfl (pc0 := 7) (pc' := 11) rfl (hb hby d33_7) (by decide) (by decide) k))) ?_
    show G s₁ (mkF m 11 #[iv c0] [.int 2])
    exact go X0 (v := (some (.int (2 : Int32)))) (fun h => by rw [Bd.returns] at h; cases h) (fun fs hr => retOut X0 hx Bd.returns rfl (Or.inl ⟨rfl, by simp, _, rfl⟩) (hb hby d33_11) hr) (⟨by unfold own_cc; rw [if_neg hc3], rfl, e0⟩) (by decide) (by decide)
def Q_rmUZ (Z : State) (c0 : Int32) (h0 : Heap) (n0 : Nat) : Option Value → Heap → List Loc → Prop := fun v h L => v = some (.int (own_sz c0)) ∧ L = [] ∧ h = h0
set_option maxRecDepth 65536 in
set_option maxHeartbeats 40000000 in
theorem rmUZ (l : Launch) (Z : State) (a0 : Array Value) (hw : ∀ d ∈ tables_1, d.before a0 Z = true) (ws : List Jvm.Cond) (c0 : Int32) (h0 : Heap) (n0 : Nat) (O : Old Z n0 h0) :
    MetFree l (⟨"com/example/lease/lease/core/Inputs", "utf8Size", "(I)I"⟩ : MethodName) (head1 (Jvm.Cond.code (⟨"com/example/lease/lease/core/Inputs", "utf8Size", "(I)I"⟩ : MethodName) prog_13_method_6_code 2 (some .int) :: ws) ({ frames := 0, cells := 0, slots := 0, locals := 0 } : Room)) (fun a U => a = #[(.int c0)] ∧ Z.Warmed39 U.vm ∧ U.heap = h0) (fun _ _ _ _ _ => True) (fun _ U o U' => ∃ v L, o = .returned v ∧ (Q_rmUZ Z c0 h0 n0) v U'.heap L ∧ FrameEnd U o U' L ({ frames := 0, cells := 0, slots := 0, locals := 0 } : Room).cells ({ frames := 0, cells := 0, slots := 0, locals := 0 } : Room).slots) := by
  refine MetFree.of_bodySF (plainFor_of_name pn_4) hisR ?_
  intro p e s m args below meth c s₁ Bd hml0 hP hK
  obtain ⟨rfl, hZ, hh⟩ := hP
  have hx := Bd.exec
  have hby := Bd.bytes
  have hml : c.maxLocals = 2 := hml0
  have hown : s.vm.findClass "com/example/lease/lease/core/Inputs" = some m.cls := findClass_of_methodNamed Bd.named
  have hnm := (name_of_methodNamed Bd.named Bd.method).1
  have hlk := BodyLoose.notSynchronized Bd
  have X0 : Stand p l e ({ frames := 0, cells := 0, slots := 0, locals := 0 } : Room) s m #[(.int c0)] below meth c s₁ [] 0 0 := Stand.of_body Bd
  have e0 : s₁.heap = h0 := by rw [← hh, Bd.state]; rfl
  have N := Fr.nil n0
  obtain ⟨G, hG⟩ : ∃ G : State → JFrame → Prop, G = OwnG p e below s ({ frames := 0, cells := 0, slots := 0, locals := 0 } : Room).cells ({ frames := 0, cells := 0, slots := 0, locals := 0 } : Room).slots (Q_rmUZ Z c0 h0 n0) := ⟨_, rfl⟩
  have gb : ∀ {T T' : State} {g g' : JFrame}, (∀ t, Steps p.tables e below (T'.setTop g') t → Steps p.tables e below (T.setTop g) t) → G T' g' → G T g := by subst hG; exact fun k h => own_by k h
  have go : ∀ {T : State} {locs : List Loc} {cells slots : Nat} {g : JFrame} {v : Option Value}, Stand p l e ({ frames := 0, cells := 0, slots := 0, locals := 0 } : Room) s m #[(.int c0)] below meth c T locs cells slots → (meth.sig.returnType = none → v = none) → (∀ fs, (∀ (f : JFrame) (acts : List Action), f.method = m → f.locked = none → f.entered = [] → (doReturn e (T.setTop f) acts v).1 = T.setFrames fs) → Steps p.tables e below (T.setTop g) (T.setFrames fs)) → (Q_rmUZ Z c0 h0 n0) v T.heap locs → cells ≤ ({ frames := 0, cells := 0, slots := 0, locals := 0 } : Room).cells → slots ≤ ({ frames := 0, cells := 0, slots := 0, locals := 0 } : Room).slots → G T g := by subst hG; exact fun X h1 h2 h3 h4 h5 => own_out X hlk h1 h2 h3 h4 h5
  show OwnG p e below s ({ frames := 0, cells := 0, slots := 0, locals := 0 } : Room).cells ({ frames := 0, cells := 0, slots := 0, locals := 0 } : Room).slots (Q_rmUZ Z c0 h0 n0) s₁ (entryFrame m #[(.int c0)] 2)
  rw [← hG, ef_rmUZ m c0]
  clear hG
  show G s₁ (mkF m 0 #[.val (.int c0), .unset] [])
  refine gb (fun _ k => XS.iloadN X0.here hx rfl (hb hby d32_0) rfl (XS.sipush X0.here hx rfl (hb hby d32_1) k)) ?_
  show G s₁ (mkF m 4 #[iv c0, .unset] [.int 128, .int c0])
  by_cases hc4 : c0 < (128 : Int32)
  · skip
    refine gb (fun _ k => XS.icmpNo X0.here hx rfl (hb hby d32_4) rfl (tlt hc4).2.1 (XS.iconst X0.here hx rfl (hb hby d32_7) (XS.istoreN X0.here hx rfl (hb hby d32_8) rfl (l' := #[iv c0, iv 1]) rfl (XS.goto X0.here hx rfl (pc0 := 9) (pc' := 37) rfl (hb hby d32_9) (by decide) (by decide) (XS.iloadN X0.here hx rfl (hb hby d32_37) rfl k))))) ?_
    show G s₁ (mkF m 38 #[iv c0, iv 1] [.int 1])
    exact go X0 (v := (some (.int (1 : Int32)))) (fun h => by rw [Bd.returns] at h; cases h) (fun fs hr => retOut X0 hx Bd.returns rfl (Or.inl ⟨rfl, by simp, _, rfl⟩) (hb hby d32_38) hr) (⟨by unfold own_sz; rw [if_pos hc4], rfl, e0⟩) (by decide) (by decide)
  · skip
    refine gb (fun _ k => XS.icmpYes X0.here hx rfl (pc0 := 4) (pc' := 12) rfl (hb hby d32_4) rfl (flt hc4).2.1 (by decide) (by decide) (XS.iloadN X0.here hx rfl (hb hby d32_12) rfl (XS.sipush X0.here hx rfl (hb hby d32_13) k))) ?_
    show G s₁ (mkF m 16 #[iv c0, .unset] [.int 2048, .int c0])
    by_cases hc16 : c0 < (2048 : Int32)
    · skip
      refine gb (fun _ k => XS.icmpNo X0.here hx rfl (hb hby d32_16) rfl (tlt hc16).2.1 (XS.iconst X0.here hx rfl (hb hby d32_19) (XS.istoreN X0.here hx rfl (hb hby d32_20) rfl (l' := #[iv c0, iv 2]) rfl (XS.goto X0.here hx rfl (pc0 := 21) (pc' := 37) rfl (hb hby d32_21) (by decide) (by decide) (XS.iloadN X0.here hx rfl (hb hby d32_37) rfl k))))) ?_
      show G s₁ (mkF m 38 #[iv c0, iv 2] [.int 2])
      exact go X0 (v := (some (.int (2 : Int32)))) (fun h => by rw [Bd.returns] at h; cases h) (fun fs hr => retOut X0 hx Bd.returns rfl (Or.inl ⟨rfl, by simp, _, rfl⟩) (hb hby d32_38) hr) (⟨by unfold own_sz; rw [if_neg hc4, if_pos hc16], rfl, e0⟩) (by decide) (by decide)
    · skip
      refine gb (fun _ k => XS.icmpYes X0.here hx rfl (pc0 := 16) (pc' := 24) rfl (hb hby d32_16) rfl (flt hc16).2.1 (by decide) (by decide) (XS.iloadN X0.here hx rfl (hb hby d32_24) rfl k)) ?_
      show G s₁ (mkF m 25 #[iv c0, .unset] [.int c0])
      refine gb (X0.ldcInt hx hown (mvT hZ (ow hw 145 rfl)) (g := (mkF m 25 #[iv c0, .unset] [.int c0])) rfl (hb hby d32_25)) ?_
      show G s₁ (mkF m 27 #[iv c0, .unset] [.int 65536, .int c0])
      by_cases hc27 : c0 < (65536 : Int32)
      · skip
        refine gb (fun _ k => XS.icmpNo X0.here hx rfl (hb hby d32_27) rfl (tlt hc27).2.1 (XS.iconst X0.here hx rfl (hb hby d32_30) (XS.istoreN X0.here hx rfl (hb hby d32_31) rfl (l' := #[iv c0, iv 3]) rfl (XS.goto X0.here hx rfl (pc0 := 32) (pc' := 37) rfl (hb hby d32_32) (by decide) (by decide) (XS.iloadN X0.here hx rfl (hb hby d32_37) rfl k))))) ?_
        show G s₁ (mkF m 38 #[iv c0, iv 3] [.int 3])
        exact go X0 (v := (some (.int (3 : Int32)))) (fun h => by rw [Bd.returns] at h; cases h) (fun fs hr => retOut X0 hx Bd.returns rfl (Or.inl ⟨rfl, by simp, _, rfl⟩) (hb hby d32_38) hr) (⟨by unfold own_sz; rw [if_neg hc4, if_neg hc16, if_pos hc27], rfl, e0⟩) (by decide) (by decide)
      · skip
        refine gb (fun _ k => XS.icmpYes X0.here hx rfl (pc0 := 27) (pc' := 35) rfl (hb hby d32_27) rfl (flt hc27).2.1 (by decide) (by decide) (XS.iconst X0.here hx rfl (hb hby d32_35) (XS.istoreN X0.here hx rfl (hb hby d32_36) rfl (l' := #[iv c0, iv 4]) rfl (XS.iloadN X0.here hx rfl (hb hby d32_37) rfl k)))) ?_
        show G s₁ (mkF m 38 #[iv c0, iv 4] [.int 4])
        exact go X0 (v := (some (.int (4 : Int32)))) (fun h => by rw [Bd.returns] at h; cases h) (fun fs hr => retOut X0 hx Bd.returns rfl (Or.inl ⟨rfl, by simp, _, rfl⟩) (hb hby d32_38) hr) (⟨by unfold own_sz; rw [if_neg hc4, if_neg hc16, if_neg hc27], rfl, e0⟩) (by decide) (by decide)
def Q_rmUQ (Z : State) (a1 : Addr) (k1 : ClassId) (cs : List Int32) (i : Nat) (h0 : Heap) (n0 : Nat) : Option Value → Heap → List Loc → Prop := fun v h L => v = some (.int (own_cpt cs i)) ∧ L = [] ∧ h = h0
set_option maxRecDepth 65536 in
set_option maxHeartbeats 40000000 in
theorem rmUQ (l : Launch) (Z : State) (a0 : Array Value) (hw : ∀ d ∈ tables_1, d.before a0 Z = true) (ws : List Jvm.Cond) (a1 : Addr) (k1 : ClassId) (cs : List Int32) (i : Nat) (h0 : Heap) (n0 : Nat) (O : Old Z n0 h0) (S_ad : Sta Z Z.heap "java/lang/StringUTF16" "$assertionsDisabled" "Z" (.int (1 : Int32))) (S_hi : Sta Z Z.heap "java/lang/StringUTF16" "HI_BYTE_SHIFT" "I" (.int (0 : Int32))) (S_lo : Sta Z Z.heap "java/lang/StringUTF16" "LO_BYTE_SHIFT" "I" (.int (8 : Int32))) (V_a1 : Arv Z h0 a1 k1 .byte (Int32.ofNat (2 * cs.length)) ((own_u cs).map Value.int) (.int (0 : Int32))) (hi : i < cs.length) (hR : own_R cs) :
    MetFree l (⟨"java/lang/StringUTF16", "codePointAt", "([BIIZ)I"⟩ : MethodName) (head1 (Jvm.Cond.code (⟨"java/lang/StringUTF16", "codePointAt", "([BIIZ)I"⟩ : MethodName) jdk_52_method_7_code 6 (some .int) :: ws) ({ frames := 1, cells := 0, slots := 0, locals := 13 } : Room)) (fun a U => a = #[(.ref a1), (.int (Int32.ofNat i)), (.int (Int32.ofNat cs.length)), (.int (0 : Int32))] ∧ Z.Warmed39 U.vm ∧ U.heap = h0) (fun _ _ _ _ _ => True) (fun _ U o U' => ∃ v L, o = .returned v ∧ (Q_rmUQ Z a1 k1 cs i h0 n0) v U'.heap L ∧ FrameEnd U o U' L ({ frames := 1, cells := 0, slots := 0, locals := 13 } : Room).cells ({ frames := 1, cells := 0, slots := 0, locals := 13 } : Room).slots) := by
  refine MetFree.of_bodySF (plainFor_of_name pn_0) hisR ?_
  intro p e s m args below meth c s₁ Bd hml0 hP hK
  obtain ⟨rfl, hZ, hh⟩ := hP
  have hx := Bd.exec
  have hby := Bd.bytes
  have hml : c.maxLocals = 6 := hml0
  have hown : s.vm.findClass "java/lang/StringUTF16" = some m.cls := findClass_of_methodNamed Bd.named
  have hnm := (name_of_methodNamed Bd.named Bd.method).1
  have hlk := BodyLoose.notSynchronized Bd
  have X0 : Stand p l e ({ frames := 1, cells := 0, slots := 0, locals := 13 } : Room) s m #[(.ref a1), (.int (Int32.ofNat i)), (.int (Int32.ofNat cs.length)), (.int (0 : Int32))] below meth c s₁ [] 0 0 := Stand.of_body Bd
  have e0 : s₁.heap = h0 := by rw [← hh, Bd.state]; rfl
  have N := Fr.nil n0
  obtain ⟨G, hG⟩ : ∃ G : State → JFrame → Prop, G = OwnG p e below s ({ frames := 1, cells := 0, slots := 0, locals := 13 } : Room).cells ({ frames := 1, cells := 0, slots := 0, locals := 13 } : Room).slots (Q_rmUQ Z a1 k1 cs i h0 n0) := ⟨_, rfl⟩
  have gb : ∀ {T T' : State} {g g' : JFrame}, (∀ t, Steps p.tables e below (T'.setTop g') t → Steps p.tables e below (T.setTop g) t) → G T' g' → G T g := by subst hG; exact fun k h => own_by k h
  have go : ∀ {T : State} {locs : List Loc} {cells slots : Nat} {g : JFrame} {v : Option Value}, Stand p l e ({ frames := 1, cells := 0, slots := 0, locals := 13 } : Room) s m #[(.ref a1), (.int (Int32.ofNat i)), (.int (Int32.ofNat cs.length)), (.int (0 : Int32))] below meth c T locs cells slots → (meth.sig.returnType = none → v = none) → (∀ fs, (∀ (f : JFrame) (acts : List Action), f.method = m → f.locked = none → f.entered = [] → (doReturn e (T.setTop f) acts v).1 = T.setFrames fs) → Steps p.tables e below (T.setTop g) (T.setFrames fs)) → (Q_rmUQ Z a1 k1 cs i h0 n0) v T.heap locs → cells ≤ ({ frames := 1, cells := 0, slots := 0, locals := 13 } : Room).cells → slots ≤ ({ frames := 1, cells := 0, slots := 0, locals := 13 } : Room).slots → G T g := by subst hG; exact fun X h1 h2 h3 h4 h5 => own_out X hlk h1 h2 h3 h4 h5
  show OwnG p e below s ({ frames := 1, cells := 0, slots := 0, locals := 13 } : Room).cells ({ frames := 1, cells := 0, slots := 0, locals := 13 } : Room).slots (Q_rmUQ Z a1 k1 cs i h0 n0) s₁ (entryFrame m #[(.ref a1), (.int (Int32.ofNat i)), (.int (Int32.ofNat cs.length)), (.int (0 : Int32))] 6)
  rw [← hG, ef_rmUQ m a1 (Int32.ofNat i) (Int32.ofNat cs.length) (0 : Int32)]
  clear hG
  show G s₁ (mkF m 0 #[.val (.ref a1), .val (.int (Int32.ofNat i)), .val (.int (Int32.ofNat cs.length)), .val (.int (0 : Int32)), .unset, .unset] [])
  have hr6 := hR.1
  obtain ⟨T1, X1, e1, st1⟩ := getS2 X0 hx hZ hown (host := "") (Or.inl (ow hw 99 rfl)) Via.refl e0 (S_ad.ext O.2) (g := (mkF m 0 #[rv a1, iv (Int32.ofNat i), iv (Int32.ofNat cs.length), iv 0, .unset, .unset] [])) rfl (hb hby d30_0)
  refine gb st1 ?_
  show G T1 (mkF m 3 #[rv a1, iv (Int32.ofNat i), iv (Int32.ofNat cs.length), iv 0, .unset, .unset] [.int 1])
  refine gb (fun _ k => XS.ifYes X1.here hx rfl (pc0 := 3) (pc' := 19) rfl (hb hby d30_3) rfl ((if0 _ _).trans (feq (by decide : ¬ ((1 : Int32) = (0 : Int32)))).2) (by decide) (by decide) (XS.iloadN X1.here hx rfl (hb hby d30_19) rfl (XS.ifYes X1.here hx rfl (pc0 := 20) (pc' := 28) rfl (hb hby d30_20) rfl ((if0 _ _).trans (teq (by decide : (0 : Int32) = (0 : Int32))).1) (by decide) (by decide) (XS.aloadN X1.here hx rfl (hb hby d30_28) rfl rfl (XS.iloadN X1.here hx rfl (hb hby d30_29) rfl k))))) ?_
  show G T1 (mkF m 30 #[rv a1, iv (Int32.ofNat i), iv (Int32.ofNat cs.length), iv 0, .unset, .unset] [.int (Int32.ofNat i), .ref a1])
  obtain ⟨_, _, ⟨T2, Lz2, kz2, nz2⟩, -, X2, ⟨Lc2, hQ2, lq2, yq2, zq2⟩, st2⟩ := Jvm.LawKit.callS X1 hx (y := (⟨"java/lang/StringUTF16", "getChar", "([BI)C"⟩ : MethodName)) hown (mvT hZ (ow hw 102 rfl)) (mvT hZ (ow hw 103 rfl)) (mvT hZ (ow hw 81 rfl)) (mvT hZ (ow hw 104 rfl)) (by decide) (backOf (W := 0) (rmG l Z a0 hw [] a1 k1 cs i h0 n0 O S_ad S_hi S_lo V_a1 (by omega) hR) hZ (ow hw 104 rfl) (ow hw 81 rfl) (by decide) (by decide)) (g := (mkF m 30 #[rv a1, iv (Int32.ofNat i), iv (Int32.ofNat cs.length), iv 0, .unset, .unset] [.int (Int32.ofNat i), .ref a1])) rfl (by rw [hml]; rfl) (argsL := [(.ref a1), (.int (Int32.ofNat i))]) (rest := []) (lenOf pd_5 rfl) rfl (by show 2 * 0 + _ ≤ _; exact Nat.le_of_eq rfl) (hb hby d30_30) (fun _ _ => ⟨rfl, e1, (by decide : 0 + 0 ≤ _), (by decide : 0 + 0 ≤ _)⟩)
  dsimp only [Pt.U, Pt.locs, Pt.cells, Pt.slots] at X2 lq2 yq2 zq2 st2 hQ2
  subst lq2 yq2 zq2
  obtain ⟨rfl, rfl, e2⟩ := hQ2
  try rw [List.append_nil] at X2
  refine gb st2 ?_
  show G T2 (mkF m 33 #[rv a1, iv (Int32.ofNat i), iv (Int32.ofNat cs.length), iv 0, .unset, .unset] [.int (cs.getD i 0)])
  refine gb (fun _ k => XS.istore X2.here hx rfl (hb hby d30_33) rfl (l' := #[rv a1, iv (Int32.ofNat i), iv (Int32.ofNat cs.length), iv 0, iv (cs.getD i 0), .unset]) rfl (XS.iload X2.here hx rfl (hb hby d30_35) rfl k)) ?_
  show G T2 (mkF m 37 #[rv a1, iv (Int32.ofNat i), iv (Int32.ofNat cs.length), iv 0, iv (cs.getD i 0), .unset] [.int (cs.getD i 0)])
  obtain ⟨_, _, ⟨T3, Lz3, kz3, nz3⟩, -, X3, ⟨Lc3, hQ3, lq3, yq3, zq3⟩, st3⟩ := Jvm.LawKit.callS X2 hx (y := (⟨"java/lang/Character", "isHighSurrogate", "(C)Z"⟩ : MethodName)) hown (mvT hZ (ow hw 133 rfl)) (mvT hZ (ow hw 134 rfl)) (mvT hZ (ow hw 135 rfl)) (mvT hZ (ow hw 136 rfl)) (by decide) (backOf (W := 0) (rmHS l Z a0 hw [] (cs.getD i 0) h0 n0 O) hZ (ow hw 136 rfl) (ow hw 135 rfl) (by decide) (by decide)) (g := (mkF m 37 #[rv a1, iv (Int32.ofNat i), iv (Int32.ofNat cs.length), iv 0, iv (cs.getD i 0), .unset] [.int (cs.getD i 0)])) rfl (by rw [hml]; rfl) (argsL := [(.int (cs.getD i 0))]) (rest := []) (lenOf pd_13 rfl) rfl (by show 2 * 0 + _ ≤ _; exact Nat.le_of_eq rfl) (hb hby d30_37) (fun _ _ => ⟨rfl, e2, (by decide : 0 + 0 ≤ _), (by decide : 0 + 0 ≤ _)⟩)
  dsimp only [Pt.U, Pt.locs, Pt.cells, Pt.slots] at X3 lq3 yq3 zq3 st3 hQ3
  subst lq3 yq3 zq3
  obtain ⟨rfl, rfl, e3⟩ := hQ3
  try rw [List.append_nil] at X3
  refine gb st3 ?_
  show G T3 (mkF m 40 #[rv a1, iv (Int32.ofNat i), iv (Int32.ofNat cs.length), iv 0, iv (cs.getD i 0), .unset] [.int (if own_hs (cs.getD i 0) then (1 : Int32) else (0 : Int32))])
  by_cases hc40 : (if own_hs (cs.getD i 0) then (1 : Int32) else (0 : Int32)) = (0 : Int32)
  · skip
    refine gb (fun _ k => XS.ifYes X3.here hx rfl (pc0 := 40) (pc' := 83) rfl (hb hby d30_40) rfl ((if0 _ _).trans (teq hc40).1) (by decide) (by decide) (XS.iload X3.here hx rfl (hb hby d30_83) rfl k)) ?_
    show G T3 (mkF m 85 #[rv a1, iv (Int32.ofNat i), iv (Int32.ofNat cs.length), iv 0, iv (cs.getD i 0), .unset] [.int (cs.getD i 0)])
    exact go X3 (v := (some (.int (cs.getD i 0)))) (fun h => by rw [Bd.returns] at h; cases h) (fun fs hr => retOut X3 hx Bd.returns rfl (Or.inl ⟨rfl, by simp, _, rfl⟩) (hb hby d30_85) hr) (⟨by unfold own_cpt; rw [if_neg (fun q => own_e0 hc40 q.1)], rfl, e3⟩) (by decide) (by decide)
  · skip
    refine gb (fun _ k => XS.ifNo X3.here hx rfl (hb hby d30_40) rfl ((if0 _ _).trans (feq hc40).1) (XS.iinc X3.here hx rfl (hb hby d30_43) rfl (l' := #[rv a1, iv ((Int32.ofNat i) + (1 : Int32)), iv (Int32.ofNat cs.length), iv 0, iv (cs.getD i 0), .unset]) rfl k)) ?_
    show G T3 (mkF m 46 #[rv a1, iv ((Int32.ofNat i) + (1 : Int32)), iv (Int32.ofNat cs.length), iv 0, iv (cs.getD i 0), .unset] [])
    rw [own_succ32]
    show G T3 (mkF m 46 #[rv a1, iv (Int32.ofNat (i + 1)), iv (Int32.ofNat cs.length), iv 0, iv (cs.getD i 0), .unset] [])
    refine gb (fun _ k => XS.iloadN X3.here hx rfl (hb hby d30_46) rfl (XS.iloadN X3.here hx rfl (hb hby d30_47) rfl k)) ?_
    show G T3 (mkF m 48 #[rv a1, iv (Int32.ofNat (i + 1)), iv (Int32.ofNat cs.length), iv 0, iv (cs.getD i 0), .unset] [.int (Int32.ofNat cs.length), .int (Int32.ofNat (i + 1))])
    by_cases hin : i + 1 < cs.length
    · skip
      refine gb (fun _ k => XS.icmpNo X3.here hx rfl (hb hby d30_48) rfl (tlt (own_in hin (by omega)).2).2.1 (XS.iloadN X3.here hx rfl (hb hby d30_51) rfl (XS.ifYes X3.here hx rfl (pc0 := 52) (pc' := 60) rfl (hb hby d30_52) rfl ((if0 _ _).trans (teq (by decide : (0 : Int32) = (0 : Int32))).1) (by decide) (by decide) (XS.aloadN X3.here hx rfl (hb hby d30_60) rfl rfl (XS.iloadN X3.here hx rfl (hb hby d30_61) rfl k))))) ?_
      show G T3 (mkF m 62 #[rv a1, iv (Int32.ofNat (i + 1)), iv (Int32.ofNat cs.length), iv 0, iv (cs.getD i 0), .unset] [.int (Int32.ofNat (i + 1)), .ref a1])
      obtain ⟨_, _, ⟨T4, Lz4, kz4, nz4⟩, -, X4, ⟨Lc4, hQ4, lq4, yq4, zq4⟩, st4⟩ := Jvm.LawKit.callS X3 hx (y := (⟨"java/lang/StringUTF16", "getChar", "([BI)C"⟩ : MethodName)) hown (mvT hZ (ow hw 102 rfl)) (mvT hZ (ow hw 103 rfl)) (mvT hZ (ow hw 81 rfl)) (mvT hZ (ow hw 104 rfl)) (by decide) (backOf (W := 0) (rmG l Z a0 hw [] a1 k1 cs (i + 1) h0 n0 O S_ad S_hi S_lo V_a1 (by omega) hR) hZ (ow hw 104 rfl) (ow hw 81 rfl) (by decide) (by decide)) (g := (mkF m 62 #[rv a1, iv (Int32.ofNat (i + 1)), iv (Int32.ofNat cs.length), iv 0, iv (cs.getD i 0), .unset] [.int (Int32.ofNat (i + 1)), .ref a1])) rfl (by rw [hml]; rfl) (argsL := [(.ref a1), (.int (Int32.ofNat (i + 1)))]) (rest := []) (lenOf pd_5 rfl) rfl (by show 2 * 0 + _ ≤ _; exact Nat.le_of_eq rfl) (hb hby d30_62) (fun _ _ => ⟨rfl, e3, (by decide : 0 + 0 ≤ _), (by decide : 0 + 0 ≤ _)⟩)
      dsimp only [Pt.U, Pt.locs, Pt.cells, Pt.slots] at X4 lq4 yq4 zq4 st4 hQ4
      subst lq4 yq4 zq4
      obtain ⟨rfl, rfl, e4⟩ := hQ4
      try rw [List.append_nil] at X4
      refine gb st4 ?_
      show G T4 (mkF m 65 #[rv a1, iv (Int32.ofNat (i + 1)), iv (Int32.ofNat cs.length), iv 0, iv (cs.getD i 0), .unset] [.int (cs.getD (i + 1) 0)])
      refine gb (fun _ k => XS.istore X4.here hx rfl (hb hby d30_65) rfl (l' := #[rv a1, iv (Int32.ofNat (i + 1)), iv (Int32.ofNat cs.length), iv 0, iv (cs.getD i 0), iv (cs.getD (i + 1) 0)]) rfl (XS.iload X4.here hx rfl (hb hby d30_67) rfl k)) ?_
      show G T4 (mkF m 69 #[rv a1, iv (Int32.ofNat (i + 1)), iv (Int32.ofNat cs.length), iv 0, iv (cs.getD i 0), iv (cs.getD (i + 1) 0)] [.int (cs.getD (i + 1) 0)])
      obtain ⟨_, _, ⟨T5, Lz5, kz5, nz5⟩, -, X5, ⟨Lc5, hQ5, lq5, yq5, zq5⟩, st5⟩ := Jvm.LawKit.callS X4 hx (y := (⟨"java/lang/Character", "isLowSurrogate", "(C)Z"⟩ : MethodName)) hown (mvT hZ (ow hw 147 rfl)) (mvT hZ (ow hw 148 rfl)) (mvT hZ (ow hw 135 rfl)) (mvT hZ (ow hw 149 rfl)) (by decide) (backOf (W := 0) (rmLS l Z a0 hw [] (cs.getD (i + 1) 0) h0 n0 O) hZ (ow hw 149 rfl) (ow hw 135 rfl) (by decide) (by decide)) (g := (mkF m 69 #[rv a1, iv (Int32.ofNat (i + 1)), iv (Int32.ofNat cs.length), iv 0, iv (cs.getD i 0), iv (cs.getD (i + 1) 0)] [.int (cs.getD (i + 1) 0)])) rfl (by rw [hml]; rfl) (argsL := [(.int (cs.getD (i + 1) 0))]) (rest := []) (lenOf pd_13 rfl) rfl (by show 2 * 0 + _ ≤ _; exact Nat.le_of_eq rfl) (hb hby d30_69) (fun _ _ => ⟨rfl, e4, (by decide : 0 + 0 ≤ _), (by decide : 0 + 0 ≤ _)⟩)
      dsimp only [Pt.U, Pt.locs, Pt.cells, Pt.slots] at X5 lq5 yq5 zq5 st5 hQ5
      subst lq5 yq5 zq5
      obtain ⟨rfl, rfl, e5⟩ := hQ5
      try rw [List.append_nil] at X5
      refine gb st5 ?_
      show G T5 (mkF m 72 #[rv a1, iv (Int32.ofNat (i + 1)), iv (Int32.ofNat cs.length), iv 0, iv (cs.getD i 0), iv (cs.getD (i + 1) 0)] [.int (if own_lw (cs.getD (i + 1) 0) then (1 : Int32) else (0 : Int32))])
      by_cases hc72 : (if own_lw (cs.getD (i + 1) 0) then (1 : Int32) else (0 : Int32)) = (0 : Int32)
      · skip
        refine gb (fun _ k => XS.ifYes X5.here hx rfl (pc0 := 72) (pc' := 83) rfl (hb hby d30_72) rfl ((if0 _ _).trans (teq hc72).1) (by decide) (by decide) (XS.iload X5.here hx rfl (hb hby d30_83) rfl k)) ?_
        show G T5 (mkF m 85 #[rv a1, iv (Int32.ofNat (i + 1)), iv (Int32.ofNat cs.length), iv 0, iv (cs.getD i 0), iv (cs.getD (i + 1) 0)] [.int (cs.getD i 0)])
        exact go X5 (v := (some (.int (cs.getD i 0)))) (fun h => by rw [Bd.returns] at h; cases h) (fun fs hr => retOut X5 hx Bd.returns rfl (Or.inl ⟨rfl, by simp, _, rfl⟩) (hb hby d30_85) hr) (⟨by unfold own_cpt; rw [if_neg (fun q => own_e0 hc72 q.2.2)], rfl, e5⟩) (by decide) (by decide)
      · skip
        refine gb (fun _ k => XS.ifNo X5.here hx rfl (hb hby d30_72) rfl ((if0 _ _).trans (feq hc72).1) (XS.iload X5.here hx rfl (hb hby d30_75) rfl (XS.iload X5.here hx rfl (hb hby d30_77) rfl k))) ?_
        show G T5 (mkF m 79 #[rv a1, iv (Int32.ofNat (i + 1)), iv (Int32.ofNat cs.length), iv 0, iv (cs.getD i 0), iv (cs.getD (i + 1) 0)] [.int (cs.getD (i + 1) 0), .int (cs.getD i 0)])
        obtain ⟨_, _, ⟨T6, Lz6, kz6, nz6⟩, -, X6, ⟨Lc6, hQ6, lq6, yq6, zq6⟩, st6⟩ := Jvm.LawKit.callS X5 hx (y := (⟨"java/lang/Character", "toCodePoint", "(CC)I"⟩ : MethodName)) hown (mvT hZ (ow hw 151 rfl)) (mvT hZ (ow hw 152 rfl)) (mvT hZ (ow hw 135 rfl)) (mvT hZ (ow hw 153 rfl)) (by decide) (backOf (W := 0) (rmTC l Z a0 hw [] (cs.getD i 0) (cs.getD (i + 1) 0) h0 n0 O) hZ (ow hw 153 rfl) (ow hw 135 rfl) (by decide) (by decide)) (g := (mkF m 79 #[rv a1, iv (Int32.ofNat (i + 1)), iv (Int32.ofNat cs.length), iv 0, iv (cs.getD i 0), iv (cs.getD (i + 1) 0)] [.int (cs.getD (i + 1) 0), .int (cs.getD i 0)])) rfl (by rw [hml]; rfl) (argsL := [(.int (cs.getD i 0)), (.int (cs.getD (i + 1) 0))]) (rest := []) (lenOf pd_14 rfl) rfl (by show 2 * 0 + _ ≤ _; exact Nat.le_of_eq rfl) (hb hby d30_79) (fun _ _ => ⟨rfl, e5, (by decide : 0 + 0 ≤ _), (by decide : 0 + 0 ≤ _)⟩)
        dsimp only [Pt.U, Pt.locs, Pt.cells, Pt.slots] at X6 lq6 yq6 zq6 st6 hQ6
        subst lq6 yq6 zq6
        obtain ⟨rfl, rfl, e6⟩ := hQ6
        try rw [List.append_nil] at X6
        refine gb st6 ?_
        show G T6 (mkF m 82 #[rv a1, iv (Int32.ofNat (i + 1)), iv (Int32.ofNat cs.length), iv 0, iv (cs.getD i 0), iv (cs.getD (i + 1) 0)] [.int (own_tcp (cs.getD i 0) (cs.getD (i + 1) 0))])
        exact go X6 (v := (some (.int (own_tcp (cs.getD i 0) (cs.getD (i + 1) 0))))) (fun h => by rw [Bd.returns] at h; cases h) (fun fs hr => retOut X6 hx Bd.returns rfl (Or.inl ⟨rfl, by simp, _, rfl⟩) (hb hby d30_82) hr) (⟨by unfold own_cpt; rw [if_pos ⟨own_e1 hc40, hin, own_e1 hc72⟩], rfl, e6⟩) (by decide) (by decide)
    · skip
      refine gb (fun _ k => XS.icmpYes X3.here hx rfl (pc0 := 48) (pc' := 83) rfl (hb hby d30_48) rfl (flt (own_nlt (by omega) (by omega))).2.1 (by decide) (by decide) (XS.iload X3.here hx rfl (hb hby d30_83) rfl k)) ?_
      show G T3 (mkF m 85 #[rv a1, iv (Int32.ofNat (i + 1)), iv (Int32.ofNat cs.length), iv 0, iv (cs.getD i 0), .unset] [.int (cs.getD i 0)])
      exact go X3 (v := (some (.int (cs.getD i 0)))) (fun h => by rw [Bd.returns] at h; cases h) (fun fs hr => retOut X3 hx Bd.returns rfl (Or.inl ⟨rfl, by simp, _, rfl⟩) (hb hby d30_85) hr) (⟨by unfold own_cpt; rw [if_neg (fun q => hin q.2.1)], rfl, e3⟩) (by decide) (by decide)
def Q_rmUP (Z : State) (a1 : Addr) (k1 : ClassId) (cs : List Int32) (i : Nat) (h0 : Heap) (n0 : Nat) : Option Value → Heap → List Loc → Prop := fun v h L => v = some (.int (own_cpt cs i)) ∧ L = [] ∧ h = h0
set_option maxRecDepth 65536 in
set_option maxHeartbeats 40000000 in
theorem rmUP (l : Launch) (Z : State) (a0 : Array Value) (hw : ∀ d ∈ tables_1, d.before a0 Z = true) (ws : List Jvm.Cond) (a1 : Addr) (k1 : ClassId) (cs : List Int32) (i : Nat) (h0 : Heap) (n0 : Nat) (O : Old Z n0 h0) (S_ad : Sta Z Z.heap "java/lang/StringUTF16" "$assertionsDisabled" "Z" (.int (1 : Int32))) (S_hi : Sta Z Z.heap "java/lang/StringUTF16" "HI_BYTE_SHIFT" "I" (.int (0 : Int32))) (S_lo : Sta Z Z.heap "java/lang/StringUTF16" "LO_BYTE_SHIFT" "I" (.int (8 : Int32))) (V_a1 : Arv Z h0 a1 k1 .byte (Int32.ofNat (2 * cs.length)) ((own_u cs).map Value.int) (.int (0 : Int32))) (hi : i < cs.length) (hR : own_R cs) :
    MetFree l (⟨"java/lang/StringUTF16", "codePointAt", "([BII)I"⟩ : MethodName) (head1 (Jvm.Cond.code (⟨"java/lang/StringUTF16", "codePointAt", "([BII)I"⟩ : MethodName) jdk_52_method_8_code 3 (some .int) :: ws) ({ frames := 2, cells := 0, slots := 0, locals := 30 } : Room)) (fun a U => a = #[(.ref a1), (.int (Int32.ofNat i)), (.int (Int32.ofNat cs.length))] ∧ Z.Warmed39 U.vm ∧ U.heap = h0) (fun _ _ _ _ _ => True) (fun _ U o U' => ∃ v L, o = .returned v ∧ (Q_rmUP Z a1 k1 cs i h0 n0) v U'.heap L ∧ FrameEnd U o U' L ({ frames := 2, cells := 0, slots := 0, locals := 30 } : Room).cells ({ frames := 2, cells := 0, slots := 0, locals := 30 } : Room).slots) := by
  refine MetFree.of_bodySF (plainFor_of_name pn_0) hisR ?_
  intro p e s m args below meth c s₁ Bd hml0 hP hK
  obtain ⟨rfl, hZ, hh⟩ := hP
  have hx := Bd.exec
  have hby := Bd.bytes
  have hml : c.maxLocals = 3 := hml0
  have hown : s.vm.findClass "java/lang/StringUTF16" = some m.cls := findClass_of_methodNamed Bd.named
  have hnm := (name_of_methodNamed Bd.named Bd.method).1
  have hlk := BodyLoose.notSynchronized Bd
  have X0 : Stand p l e ({ frames := 2, cells := 0, slots := 0, locals := 30 } : Room) s m #[(.ref a1), (.int (Int32.ofNat i)), (.int (Int32.ofNat cs.length))] below meth c s₁ [] 0 0 := Stand.of_body Bd
  have e0 : s₁.heap = h0 := by rw [← hh, Bd.state]; rfl
  have N := Fr.nil n0
  obtain ⟨G, hG⟩ : ∃ G : State → JFrame → Prop, G = OwnG p e below s ({ frames := 2, cells := 0, slots := 0, locals := 30 } : Room).cells ({ frames := 2, cells := 0, slots := 0, locals := 30 } : Room).slots (Q_rmUP Z a1 k1 cs i h0 n0) := ⟨_, rfl⟩
  have gb : ∀ {T T' : State} {g g' : JFrame}, (∀ t, Steps p.tables e below (T'.setTop g') t → Steps p.tables e below (T.setTop g) t) → G T' g' → G T g := by subst hG; exact fun k h => own_by k h
  have go : ∀ {T : State} {locs : List Loc} {cells slots : Nat} {g : JFrame} {v : Option Value}, Stand p l e ({ frames := 2, cells := 0, slots := 0, locals := 30 } : Room) s m #[(.ref a1), (.int (Int32.ofNat i)), (.int (Int32.ofNat cs.length))] below meth c T locs cells slots → (meth.sig.returnType = none → v = none) → (∀ fs, (∀ (f : JFrame) (acts : List Action), f.method = m → f.locked = none → f.entered = [] → (doReturn e (T.setTop f) acts v).1 = T.setFrames fs) → Steps p.tables e below (T.setTop g) (T.setFrames fs)) → (Q_rmUP Z a1 k1 cs i h0 n0) v T.heap locs → cells ≤ ({ frames := 2, cells := 0, slots := 0, locals := 30 } : Room).cells → slots ≤ ({ frames := 2, cells := 0, slots := 0, locals := 30 } : Room).slots → G T g := by subst hG; exact fun X h1 h2 h3 h4 h5 => own_out X hlk h1 h2 h3 h4 h5
  show OwnG p e below s ({ frames := 2, cells := 0, slots := 0, locals := 30 } : Room).cells ({ frames := 2, cells := 0, slots := 0, locals := 30 } : Room).slots (Q_rmUP Z a1 k1 cs i h0 n0) s₁ (entryFrame m #[(.ref a1), (.int (Int32.ofNat i)), (.int (Int32.ofNat cs.length))] 3)
  rw [← hG, ef_rmUP m a1 (Int32.ofNat i) (Int32.ofNat cs.length)]
  clear hG
  show G s₁ (mkF m 0 #[.val (.ref a1), .val (.int (Int32.ofNat i)), .val (.int (Int32.ofNat cs.length))] [])
  refine gb (fun _ k => XS.aloadN X0.here hx rfl (hb hby d29_0) rfl rfl (XS.iloadN X0.here hx rfl (hb hby d29_1) rfl (XS.iloadN X0.here hx rfl (hb hby d29_2) rfl (XS.iconst X0.here hx rfl (hb hby d29_3) k)))) ?_
  show G s₁ (mkF m 4 #[rv a1, iv (Int32.ofNat i), iv (Int32.ofNat cs.length)] [.int 0, .int (Int32.ofNat cs.length), .int (Int32.ofNat i), .ref a1])
  obtain ⟨_, _, ⟨T1, Lz1, kz1, nz1⟩, -, X1, ⟨Lc1, hQ1, lq1, yq1, zq1⟩, st1⟩ := Jvm.LawKit.callS X0 hx (y := (⟨"java/lang/StringUTF16", "codePointAt", "([BIIZ)I"⟩ : MethodName)) hown (mvT hZ (ow hw 130 rfl)) (mvT hZ (ow hw 131 rfl)) (mvT hZ (ow hw 81 rfl)) (mvT hZ (ow hw 132 rfl)) (by decide) (backOf (W := 0) (rmUQ l Z a0 hw [] a1 k1 cs i h0 n0 O S_ad S_hi S_lo V_a1 hi hR) hZ (ow hw 132 rfl) (ow hw 81 rfl) (by decide) (by decide)) (g := (mkF m 4 #[rv a1, iv (Int32.ofNat i), iv (Int32.ofNat cs.length)] [.int 0, .int (Int32.ofNat cs.length), .int (Int32.ofNat i), .ref a1])) rfl (by rw [hml]; rfl) (argsL := [(.ref a1), (.int (Int32.ofNat i)), (.int (Int32.ofNat cs.length)), (.int (0 : Int32))]) (rest := []) (lenOf pd_15 rfl) rfl (by show 2 * 0 + _ ≤ _; exact Nat.le_of_eq rfl) (hb hby d29_4) (fun _ _ => ⟨rfl, e0, (by decide : 0 + 0 ≤ _), (by decide : 0 + 0 ≤ _)⟩)
  dsimp only [Pt.U, Pt.locs, Pt.cells, Pt.slots] at X1 lq1 yq1 zq1 st1 hQ1
  subst lq1 yq1 zq1
  obtain ⟨rfl, rfl, e1⟩ := hQ1
  try rw [List.append_nil] at X1
  refine gb st1 ?_
  show G T1 (mkF m 7 #[rv a1, iv (Int32.ofNat i), iv (Int32.ofNat cs.length)] [.int (own_cpt cs i)])
  exact go X1 (v := (some (.int (own_cpt cs i)))) (fun h => by rw [Bd.returns] at h; cases h) (fun fs hr => retOut X1 hx Bd.returns rfl (Or.inl ⟨rfl, by simp, _, rfl⟩) (hb hby d29_7) hr) (⟨rfl, rfl, e1⟩) (by decide) (by decide)
def Q_rmCP (Z : State) (a1 a2 : Addr) (k2 : ClassId) (cs : List Int32) (i : Nat) (h0 : Heap) (n0 : Nat) (sf : Value) (zc : Int32) : Option Value → Heap → List Loc → Prop := fun v h L => v = some (.int (own_cpt cs i)) ∧ L = [] ∧ h = h0
set_option maxRecDepth 65536 in
set_option maxHeartbeats 40000000 in
theorem rmCP (l : Launch) (Z : State) (a0 : Array Value) (hw : ∀ d ∈ tables_1, d.before a0 Z = true) (ws : List Jvm.Cond) (a1 a2 : Addr) (k2 : ClassId) (cs : List Int32) (i : Nat) (h0 : Heap) (n0 : Nat) (O : Old Z n0 h0) (S_ad : Sta Z Z.heap "java/lang/StringUTF16" "$assertionsDisabled" "Z" (.int (1 : Int32))) (S_hi : Sta Z Z.heap "java/lang/StringUTF16" "HI_BYTE_SHIFT" "I" (.int (0 : Int32))) (S_lo : Sta Z Z.heap "java/lang/StringUTF16" "LO_BYTE_SHIFT" "I" (.int (8 : Int32))) (sf : Value) (hr_sf : sf.isRef = true) (S_sf : Sta Z Z.heap "jdk/internal/util/Preconditions" "SIOOBE_FORMATTER" "Ljava/util/function/BiFunction;" sf) (E_a1 : Exa Z h0 a1 "java/lang/String") (F_coder_a1 : Fld Z h0 a1 "java/lang/String" "coder" "B" (.int (own_cd cs))) (F_value_a1 : Fld Z h0 a1 "java/lang/String" "value" "[B" (.ref a2)) (V_a2 : Arv Z h0 a2 k2 .byte (Int32.ofNat (own_enc cs).length) ((own_enc cs).map Value.int) (.int (0 : Int32))) (zc : Int32) (S_cs : Sta Z Z.heap "java/lang/String" "COMPACT_STRINGS" "Z" (.int zc)) (hzc : ¬ zc = (0 : Int32)) (hi : i < cs.length) (hR : own_R cs) :
    MetFree l (⟨"java/lang/String", "codePointAt", "(I)I"⟩ : MethodName) (head1 (Jvm.Cond.code (⟨"java/lang/String", "codePointAt", "(I)I"⟩ : MethodName) jdk_42_method_57_code 3 (some .int) :: ws) ({ frames := 3, cells := 0, slots := 0, locals := 44 } : Room)) (fun a U => a = #[(.ref a1), (.int (Int32.ofNat i))] ∧ Z.Warmed39 U.vm ∧ U.heap = h0) (fun _ _ _ _ _ => True) (fun _ U o U' => ∃ v L, o = .returned v ∧ (Q_rmCP Z a1 a2 k2 cs i h0 n0 sf zc) v U'.heap L ∧ FrameEnd U o U' L ({ frames := 3, cells := 0, slots := 0, locals := 44 } : Room).cells ({ frames := 3, cells := 0, slots := 0, locals := 44 } : Room).slots) := by
  refine MetFree.of_bodySF (plainFor_of_name pn_1) hisR ?_
  intro p e s m args below meth c s₁ Bd hml0 hP hK
  obtain ⟨rfl, hZ, hh⟩ := hP
  have hx := Bd.exec
  have hby := Bd.bytes
  have hml : c.maxLocals = 3 := hml0
  have hown : s.vm.findClass "java/lang/String" = some m.cls := findClass_of_methodNamed Bd.named
  have hnm := (name_of_methodNamed Bd.named Bd.method).1
  have hlk := BodyLoose.notSynchronized Bd
  have X0 : Stand p l e ({ frames := 3, cells := 0, slots := 0, locals := 44 } : Room) s m #[(.ref a1), (.int (Int32.ofNat i))] below meth c s₁ [] 0 0 := Stand.of_body Bd
  have e0 : s₁.heap = h0 := by rw [← hh, Bd.state]; rfl
  have N := Fr.nil n0
  obtain ⟨G, hG⟩ : ∃ G : State → JFrame → Prop, G = OwnG p e below s ({ frames := 3, cells := 0, slots := 0, locals := 44 } : Room).cells ({ frames := 3, cells := 0, slots := 0, locals := 44 } : Room).slots (Q_rmCP Z a1 a2 k2 cs i h0 n0 sf zc) := ⟨_, rfl⟩
  have gb : ∀ {T T' : State} {g g' : JFrame}, (∀ t, Steps p.tables e below (T'.setTop g') t → Steps p.tables e below (T.setTop g) t) → G T' g' → G T g := by subst hG; exact fun k h => own_by k h
  have go : ∀ {T : State} {locs : List Loc} {cells slots : Nat} {g : JFrame} {v : Option Value}, Stand p l e ({ frames := 3, cells := 0, slots := 0, locals := 44 } : Room) s m #[(.ref a1), (.int (Int32.ofNat i))] below meth c T locs cells slots → (meth.sig.returnType = none → v = none) → (∀ fs, (∀ (f : JFrame) (acts : List Action), f.method = m → f.locked = none → f.entered = [] → (doReturn e (T.setTop f) acts v).1 = T.setFrames fs) → Steps p.tables e below (T.setTop g) (T.setFrames fs)) → (Q_rmCP Z a1 a2 k2 cs i h0 n0 sf zc) v T.heap locs → cells ≤ ({ frames := 3, cells := 0, slots := 0, locals := 44 } : Room).cells → slots ≤ ({ frames := 3, cells := 0, slots := 0, locals := 44 } : Room).slots → G T g := by subst hG; exact fun X h1 h2 h3 h4 h5 => own_out X hlk h1 h2 h3 h4 h5
  show OwnG p e below s ({ frames := 3, cells := 0, slots := 0, locals := 44 } : Room).cells ({ frames := 3, cells := 0, slots := 0, locals := 44 } : Room).slots (Q_rmCP Z a1 a2 k2 cs i h0 n0 sf zc) s₁ (entryFrame m #[(.ref a1), (.int (Int32.ofNat i))] 3)
  rw [← hG, ef_rmCP m a1 (Int32.ofNat i)]
  clear hG
  show G s₁ (mkF m 0 #[.val (.ref a1), .val (.int (Int32.ofNat i)), .unset] [])
  have hr6 := hR.1
  by_cases hL : own_kk cs = cs.length
  · skip
    have V_a2 := own_unL hL V_a2
    refine gb (fun _ k => XS.aloadN X0.here hx rfl (hb hby d25_0) rfl rfl k) ?_
    show G s₁ (mkF m 1 #[rv a1, iv (Int32.ofNat i), .unset] [.ref a1])
    obtain ⟨cq1, kq1, q1a, q1b, q1c⟩ := isOf hZ e0 E_a1
    obtain ⟨_, _, ⟨T1, Lz1, kz1, nz1⟩, -, X1, ⟨Lc1, hQ1, lq1, yq1, zq1⟩, st1⟩ := X0.virtualBack hx (y := (⟨"java/lang/String", "isLatin1", "()Z"⟩ : MethodName)) (z := (⟨"java/lang/String", "isLatin1", "()Z"⟩ : MethodName)) hown (mvT hZ (ow hw 116 rfl)) (mvT hZ (ow hw 117 rfl)) (notFace_of_selects (args := #[]) (mvT hZ (ow hw 119 rfl))) (mvT hZ (ow hw 119 rfl)) (mvT hZ (ow hw 118 rfl)) (by decide) (backOf (W := 0) (rmILL l Z a0 hw [] a1 cs h0 n0 O F_coder_a1 zc S_cs hzc hL) hZ (ow hw 120 rfl) (ow hw 3 rfl) (by decide) (by decide)) q1a q1c (g := (mkF m 1 #[rv a1, iv (Int32.ofNat i), .unset] [.ref a1])) rfl (by rw [hml]; rfl) (Steps.refl _) (argsL := []) (rest := []) (lenOf pd_16 rfl) rfl (by show 2 * 0 + _ ≤ _; exact Nat.le_of_eq rfl) (hb hby d25_1) (fun _ _ => ⟨rfl, e0, (by decide : 0 + 0 ≤ _), (by decide : 0 + 0 ≤ _)⟩)
    dsimp only [Pt.U, Pt.locs, Pt.cells, Pt.slots] at X1 lq1 yq1 zq1 st1 hQ1
    subst lq1 yq1 zq1
    obtain ⟨rfl, rfl, e1⟩ := hQ1
    try rw [List.append_nil] at X1
    refine gb (fun _ k => st1.trans k) ?_
    show G T1 (mkF m 4 #[rv a1, iv (Int32.ofNat i), .unset] [.int 1])
    refine gb (fun _ k => XS.ifNo X1.here hx rfl (hb hby d25_4) rfl ((if0 _ _).trans (feq (by decide : ¬ ((1 : Int32) = (0 : Int32)))).1) (XS.iloadN X1.here hx rfl (hb hby d25_7) rfl (XS.aloadN X1.here hx rfl (hb hby d25_8) rfl rfl k))) ?_
    show G T1 (mkF m 9 #[rv a1, iv (Int32.ofNat i), .unset] [.ref a1, .int (Int32.ofNat i)])
    obtain ⟨T2, X2, e2, st2⟩ := getF X1 hx hZ hown (host := "") (Or.inl (ow hw 24 rfl)) Via.refl e1 F_value_a1 (g := (mkF m 9 #[rv a1, iv (Int32.ofNat i), .unset] [.ref a1, .int (Int32.ofNat i)])) rfl rfl (hb hby d25_9)
    refine gb st2 ?_
    show G T2 (mkF m 12 #[rv a1, iv (Int32.ofNat i), .unset] [.ref a2, .int (Int32.ofNat i)])
    have V'3 := V_a2
    obtain ⟨cl3, Ar3, qk3, sz3, nn3, hs3, ft3⟩ := V'3
    refine gb (X2.arraylength hx (by rw [e2]; exact Ar3.1) (State.isArrayOf_alike hZ.alike Ar3.2.1) (g := (mkF m 12 #[rv a1, iv (Int32.ofNat i), .unset] [.ref a2, .int (Int32.ofNat i)])) rfl rfl (hb hby d25_12)) ?_
    rw [len_of sz3 nn3]
    show G T2 (mkF m 13 #[rv a1, iv (Int32.ofNat i), .unset] [.int (Int32.ofNat cs.length), .int (Int32.ofNat i)])
    obtain ⟨_, _, ⟨T4, Lz4, kz4, nz4⟩, -, X4, ⟨Lc4, hQ4, lq4, yq4, zq4⟩, st4⟩ := Jvm.LawKit.callS X2 hx (y := (⟨"java/lang/String", "checkIndex", "(II)V"⟩ : MethodName)) hown (mvT hZ (ow hw 121 rfl)) (mvT hZ (ow hw 122 rfl)) (mvT hZ (ow hw 3 rfl)) (mvT hZ (ow hw 123 rfl)) (by decide) (backOf (W := 0) (rmSX l Z a0 hw [] (Int32.ofNat i) (Int32.ofNat cs.length) sf hr_sf S_sf h0 n0 O (own_in hi (by omega)).1 (own_in hi (by omega)).2) hZ (ow hw 123 rfl) (ow hw 3 rfl) (by decide) (by decide)) (g := (mkF m 13 #[rv a1, iv (Int32.ofNat i), .unset] [.int (Int32.ofNat cs.length), .int (Int32.ofNat i)])) rfl (by rw [hml]; rfl) (argsL := [(.int (Int32.ofNat i)), (.int (Int32.ofNat cs.length))]) (rest := []) (lenOf pd_17 rfl) rfl (by show 2 * 0 + _ ≤ _; exact Nat.le_of_eq rfl) (hb hby d25_13) (fun _ _ => ⟨rfl, e2, (by decide : 0 + 0 ≤ _), (by decide : 0 + 0 ≤ _)⟩)
    dsimp only [Pt.U, Pt.locs, Pt.cells, Pt.slots] at X4 lq4 yq4 zq4 st4 hQ4
    subst lq4 yq4 zq4
    obtain ⟨rfl, rfl, e4⟩ := hQ4
    try rw [List.append_nil] at X4
    refine gb st4 ?_
    show G T4 (mkF m 16 #[rv a1, iv (Int32.ofNat i), .unset] [])
    refine gb (fun _ k => XS.aloadN X4.here hx rfl (hb hby d25_16) rfl rfl k) ?_
    show G T4 (mkF m 17 #[rv a1, iv (Int32.ofNat i), .unset] [.ref a1])
    obtain ⟨T5, X5, e5, st5⟩ := getF X4 hx hZ hown (host := "") (Or.inl (ow hw 24 rfl)) Via.refl e4 F_value_a1 (g := (mkF m 17 #[rv a1, iv (Int32.ofNat i), .unset] [.ref a1])) rfl rfl (hb hby d25_17)
    refine gb st5 ?_
    show G T5 (mkF m 20 #[rv a1, iv (Int32.ofNat i), .unset] [.ref a2])
    refine gb (fun _ k => XS.iloadN X5.here hx rfl (hb hby d25_20) rfl k) ?_
    show G T5 (mkF m 21 #[rv a1, iv (Int32.ofNat i), .unset] [.int (Int32.ofNat i), .ref a2])
    have V'6 := V_a2
    obtain ⟨cl6, Ar6, qk6, sz6, nn6, hs6, ft6⟩ := V'6
    have hin6 : ¬ ((Int32.ofNat i) < 0 ∨ cl6.slots.size ≤ ((Int32.ofNat i)).toNatClampNeg) := inb_of sz6 (own_in (i := i) (n := cs.length) (by omega) (by omega))
    have hat6 : cl6.slots[((Int32.ofNat i)).toNatClampNeg]? = some (.int (own_lb (cs.getD i 0))) := hs6.at hin6 (by rw [own_tn (n := i) (by omega), own_getD]; exact congrArg Value.int (own_map_getD cs i hi))
    refine gb (X5.baloadBytes hx (j := (Int32.ofNat i)) (v := (.int (own_lb (cs.getD i 0)))) (by rw [e5]; exact Ar6.1) (State.isArrayOf_alike hZ.alike Ar6.2.1) Ar6.2.2 hin6 hat6 (g := (mkF m 21 #[rv a1, iv (Int32.ofNat i), .unset] [.int (Int32.ofNat i), .ref a2])) rfl rfl (hb hby d25_21)) ?_
    show G T5 (mkF m 22 #[rv a1, iv (Int32.ofNat i), .unset] [.int (own_lb (cs.getD i 0))])
    refine gb (fun _ k => XS.sipush X5.here hx rfl (hb hby d25_22) (XS.iand X5.here hx rfl (hb hby d25_25) rfl k)) ?_
    show G T5 (mkF m 26 #[rv a1, iv (Int32.ofNat i), .unset] [.int ((own_lb (cs.getD i 0)) &&& (255 : Int32))])
    rw [own_lb255 (own_rng hR hi).1 (own_kk_no cs i (by omega))]
    show G T5 (mkF m 26 #[rv a1, iv (Int32.ofNat i), .unset] [.int (cs.getD i 0)])
    exact go X5 (v := (some (.int (cs.getD i 0)))) (fun h => by rw [Bd.returns] at h; cases h) (fun fs hr => retOut X5 hx Bd.returns rfl (Or.inl ⟨rfl, by simp, _, rfl⟩) (hb hby d25_26) hr) (⟨by rw [own_cptL (own_kk_no cs i (by omega))], rfl, e5⟩) (by decide) (by decide)
  · skip
    have V_a2 := own_unU hL V_a2
    refine gb (fun _ k => XS.aloadN X0.here hx rfl (hb hby d25_0) rfl rfl k) ?_
    show G s₁ (mkF m 1 #[rv a1, iv (Int32.ofNat i), .unset] [.ref a1])
    obtain ⟨cq7, kq7, q7a, q7b, q7c⟩ := isOf hZ e0 E_a1
    obtain ⟨_, _, ⟨T7, Lz7, kz7, nz7⟩, -, X7, ⟨Lc7, hQ7, lq7, yq7, zq7⟩, st7⟩ := X0.virtualBack hx (y := (⟨"java/lang/String", "isLatin1", "()Z"⟩ : MethodName)) (z := (⟨"java/lang/String", "isLatin1", "()Z"⟩ : MethodName)) hown (mvT hZ (ow hw 116 rfl)) (mvT hZ (ow hw 117 rfl)) (notFace_of_selects (args := #[]) (mvT hZ (ow hw 119 rfl))) (mvT hZ (ow hw 119 rfl)) (mvT hZ (ow hw 118 rfl)) (by decide) (backOf (W := 0) (rmILU l Z a0 hw [] a1 cs h0 n0 O F_coder_a1 zc S_cs hzc hL) hZ (ow hw 120 rfl) (ow hw 3 rfl) (by decide) (by decide)) q7a q7c (g := (mkF m 1 #[rv a1, iv (Int32.ofNat i), .unset] [.ref a1])) rfl (by rw [hml]; rfl) (Steps.refl _) (argsL := []) (rest := []) (lenOf pd_16 rfl) rfl (by show 2 * 0 + _ ≤ _; exact Nat.le_of_eq rfl) (hb hby d25_1) (fun _ _ => ⟨rfl, e0, (by decide : 0 + 0 ≤ _), (by decide : 0 + 0 ≤ _)⟩)
    dsimp only [Pt.U, Pt.locs, Pt.cells, Pt.slots] at X7 lq7 yq7 zq7 st7 hQ7
    subst lq7 yq7 zq7
    obtain ⟨rfl, rfl, e7⟩ := hQ7
    try rw [List.append_nil] at X7
    refine gb (fun _ k => st7.trans k) ?_
    show G T7 (mkF m 4 #[rv a1, iv (Int32.ofNat i), .unset] [.int 0])
    refine gb (fun _ k => XS.ifYes X7.here hx rfl (pc0 := 4) (pc' := 27) rfl (hb hby d25_4) rfl ((if0 _ _).trans (teq (by decide : (0 : Int32) = (0 : Int32))).1) (by decide) (by decide) (XS.aloadN X7.here hx rfl (hb hby d25_27) rfl rfl k)) ?_
    show G T7 (mkF m 28 #[rv a1, iv (Int32.ofNat i), .unset] [.ref a1])
    obtain ⟨T8, X8, e8, st8⟩ := getF X7 hx hZ hown (host := "") (Or.inl (ow hw 24 rfl)) Via.refl e7 F_value_a1 (g := (mkF m 28 #[rv a1, iv (Int32.ofNat i), .unset] [.ref a1])) rfl rfl (hb hby d25_28)
    refine gb st8 ?_
    show G T8 (mkF m 31 #[rv a1, iv (Int32.ofNat i), .unset] [.ref a2])
    have V'9 := V_a2
    obtain ⟨cl9, Ar9, qk9, sz9, nn9, hs9, ft9⟩ := V'9
    refine gb (X8.arraylength hx (by rw [e8]; exact Ar9.1) (State.isArrayOf_alike hZ.alike Ar9.2.1) (g := (mkF m 31 #[rv a1, iv (Int32.ofNat i), .unset] [.ref a2])) rfl rfl (hb hby d25_31)) ?_
    rw [len_of sz9 nn9]
    show G T8 (mkF m 32 #[rv a1, iv (Int32.ofNat i), .unset] [.int (Int32.ofNat (2 * cs.length))])
    refine gb (fun _ k => XS.iconst X8.here hx rfl (hb hby d25_32) (XS.ishr X8.here hx rfl (hb hby d25_33) rfl k)) ?_
    show G T8 (mkF m 34 #[rv a1, iv (Int32.ofNat i), .unset] [.int ((Int32.ofNat (2 * cs.length)) >>> ((1 : Int32) &&& 31))])
    rw [own_shr hR.1]
    show G T8 (mkF m 34 #[rv a1, iv (Int32.ofNat i), .unset] [.int (Int32.ofNat cs.length)])
    refine gb (fun _ k => XS.istoreN X8.here hx rfl (hb hby d25_34) rfl (l' := #[rv a1, iv (Int32.ofNat i), iv (Int32.ofNat cs.length)]) rfl (XS.iloadN X8.here hx rfl (hb hby d25_35) rfl (XS.iloadN X8.here hx rfl (hb hby d25_36) rfl k))) ?_
    show G T8 (mkF m 37 #[rv a1, iv (Int32.ofNat i), iv (Int32.ofNat cs.length)] [.int (Int32.ofNat cs.length), .int (Int32.ofNat i)])
    obtain ⟨_, _, ⟨T10, Lz10, kz10, nz10⟩, -, X10, ⟨Lc10, hQ10, lq10, yq10, zq10⟩, st10⟩ := Jvm.LawKit.callS X8 hx (y := (⟨"java/lang/String", "checkIndex", "(II)V"⟩ : MethodName)) hown (mvT hZ (ow hw 121 rfl)) (mvT hZ (ow hw 122 rfl)) (mvT hZ (ow hw 3 rfl)) (mvT hZ (ow hw 123 rfl)) (by decide) (backOf (W := 0) (rmSX l Z a0 hw [] (Int32.ofNat i) (Int32.ofNat cs.length) sf hr_sf S_sf h0 n0 O (own_in hi (by omega)).1 (own_in hi (by omega)).2) hZ (ow hw 123 rfl) (ow hw 3 rfl) (by decide) (by decide)) (g := (mkF m 37 #[rv a1, iv (Int32.ofNat i), iv (Int32.ofNat cs.length)] [.int (Int32.ofNat cs.length), .int (Int32.ofNat i)])) rfl (by rw [hml]; rfl) (argsL := [(.int (Int32.ofNat i)), (.int (Int32.ofNat cs.length))]) (rest := []) (lenOf pd_17 rfl) rfl (by show 2 * 0 + _ ≤ _; exact Nat.le_of_eq rfl) (hb hby d25_37) (fun _ _ => ⟨rfl, e8, (by decide : 0 + 0 ≤ _), (by decide : 0 + 0 ≤ _)⟩)
    dsimp only [Pt.U, Pt.locs, Pt.cells, Pt.slots] at X10 lq10 yq10 zq10 st10 hQ10
    subst lq10 yq10 zq10
    obtain ⟨rfl, rfl, e10⟩ := hQ10
    try rw [List.append_nil] at X10
    refine gb st10 ?_
    show G T10 (mkF m 40 #[rv a1, iv (Int32.ofNat i), iv (Int32.ofNat cs.length)] [])
    refine gb (fun _ k => XS.aloadN X10.here hx rfl (hb hby d25_40) rfl rfl k) ?_
    show G T10 (mkF m 41 #[rv a1, iv (Int32.ofNat i), iv (Int32.ofNat cs.length)] [.ref a1])
    obtain ⟨T11, X11, e11, st11⟩ := getF X10 hx hZ hown (host := "") (Or.inl (ow hw 24 rfl)) Via.refl e10 F_value_a1 (g := (mkF m 41 #[rv a1, iv (Int32.ofNat i), iv (Int32.ofNat cs.length)] [.ref a1])) rfl rfl (hb hby d25_41)
    refine gb st11 ?_
    show G T11 (mkF m 44 #[rv a1, iv (Int32.ofNat i), iv (Int32.ofNat cs.length)] [.ref a2])
    refine gb (fun _ k => XS.iloadN X11.here hx rfl (hb hby d25_44) rfl (XS.iloadN X11.here hx rfl (hb hby d25_45) rfl k)) ?_
    show G T11 (mkF m 46 #[rv a1, iv (Int32.ofNat i), iv (Int32.ofNat cs.length)] [.int (Int32.ofNat cs.length), .int (Int32.ofNat i), .ref a2])
    obtain ⟨_, _, ⟨T12, Lz12, kz12, nz12⟩, -, X12, ⟨Lc12, hQ12, lq12, yq12, zq12⟩, st12⟩ := Jvm.LawKit.callS X11 hx (y := (⟨"java/lang/StringUTF16", "codePointAt", "([BII)I"⟩ : MethodName)) hown (mvT hZ (ow hw 127 rfl)) (mvT hZ (ow hw 128 rfl)) (mvT hZ (ow hw 81 rfl)) (mvT hZ (ow hw 129 rfl)) (by decide) (backOf (W := 0) (rmUP l Z a0 hw [] a2 k2 cs i h0 n0 O S_ad S_hi S_lo V_a2 hi hR) hZ (ow hw 129 rfl) (ow hw 81 rfl) (by decide) (by decide)) (g := (mkF m 46 #[rv a1, iv (Int32.ofNat i), iv (Int32.ofNat cs.length)] [.int (Int32.ofNat cs.length), .int (Int32.ofNat i), .ref a2])) rfl (by rw [hml]; rfl) (argsL := [(.ref a2), (.int (Int32.ofNat i)), (.int (Int32.ofNat cs.length))]) (rest := []) (lenOf pd_18 rfl) rfl (by show 2 * 0 + _ ≤ _; exact Nat.le_of_eq rfl) (hb hby d25_46) (fun _ _ => ⟨rfl, e11, (by decide : 0 + 0 ≤ _), (by decide : 0 + 0 ≤ _)⟩)
    dsimp only [Pt.U, Pt.locs, Pt.cells, Pt.slots] at X12 lq12 yq12 zq12 st12 hQ12
    subst lq12 yq12 zq12
    obtain ⟨rfl, rfl, e12⟩ := hQ12
    try rw [List.append_nil] at X12
    refine gb st12 ?_
    show G T12 (mkF m 49 #[rv a1, iv (Int32.ofNat i), iv (Int32.ofNat cs.length)] [.int (own_cpt cs i)])
    exact go X12 (v := (some (.int (own_cpt cs i)))) (fun h => by rw [Bd.returns] at h; cases h) (fun fs hr => retOut X12 hx Bd.returns rfl (Or.inl ⟨rfl, by simp, _, rfl⟩) (hb hby d25_49) hr) (⟨rfl, rfl, e12⟩) (by decide) (by decide)
def Q_rmMN (Z : State) (p0 p1 : Int32) (h0 : Heap) (n0 : Nat) : Option Value → Heap → List Loc → Prop := fun v h L => v = some (.int p1) ∧ L = [] ∧ h = h0
set_option maxRecDepth 65536 in
set_option maxHeartbeats 40000000 in
theorem rmMN (l : Launch) (Z : State) (a0 : Array Value) (hw : ∀ d ∈ tables_1, d.before a0 Z = true) (ws : List Jvm.Cond) (p0 p1 : Int32) (h0 : Heap) (n0 : Nat) (O : Old Z n0 h0) (hp : p1 < p0) :
    MetFree l (⟨"java/lang/Math", "min", "(II)I"⟩ : MethodName) (head1 (Jvm.Cond.code (⟨"java/lang/Math", "min", "(II)I"⟩ : MethodName) jdk_29_method_69_code 2 (some .int) :: ws) ({ frames := 0, cells := 0, slots := 0, locals := 0 } : Room)) (fun a U => a = #[(.int p0), (.int p1)] ∧ Z.Warmed39 U.vm ∧ U.heap = h0) (fun _ _ _ _ _ => True) (fun _ U o U' => ∃ v L, o = .returned v ∧ (Q_rmMN Z p0 p1 h0 n0) v U'.heap L ∧ FrameEnd U o U' L ({ frames := 0, cells := 0, slots := 0, locals := 0 } : Room).cells ({ frames := 0, cells := 0, slots := 0, locals := 0 } : Room).slots) := by
  refine MetFree.of_bodySF (Jvm.Free.JP.mathPlain rfl (by decide +kernel)) hisR ?_
  intro p e s m args below meth c s₁ Bd hml0 hP hK
  obtain ⟨rfl, hZ, hh⟩ := hP
  have hx := Bd.exec
  have hby := Bd.bytes
  have hml : c.maxLocals = 2 := hml0
  have hown : s.vm.findClass "java/lang/Math" = some m.cls := findClass_of_methodNamed Bd.named
  have hnm := (name_of_methodNamed Bd.named Bd.method).1
  have hlk := BodyLoose.notSynchronized Bd
  have X0 : Stand p l e ({ frames := 0, cells := 0, slots := 0, locals := 0 } : Room) s m #[(.int p0), (.int p1)] below meth c s₁ [] 0 0 := Stand.of_body Bd
  have e0 : s₁.heap = h0 := by rw [← hh, Bd.state]; rfl
  have N := Fr.nil n0
  obtain ⟨G, hG⟩ : ∃ G : State → JFrame → Prop, G = OwnG p e below s ({ frames := 0, cells := 0, slots := 0, locals := 0 } : Room).cells ({ frames := 0, cells := 0, slots := 0, locals := 0 } : Room).slots (Q_rmMN Z p0 p1 h0 n0) := ⟨_, rfl⟩
  have gb : ∀ {T T' : State} {g g' : JFrame}, (∀ t, Steps p.tables e below (T'.setTop g') t → Steps p.tables e below (T.setTop g) t) → G T' g' → G T g := by subst hG; exact fun k h => own_by k h
  have go : ∀ {T : State} {locs : List Loc} {cells slots : Nat} {g : JFrame} {v : Option Value}, Stand p l e ({ frames := 0, cells := 0, slots := 0, locals := 0 } : Room) s m #[(.int p0), (.int p1)] below meth c T locs cells slots → (meth.sig.returnType = none → v = none) → (∀ fs, (∀ (f : JFrame) (acts : List Action), f.method = m → f.locked = none → f.entered = [] → (doReturn e (T.setTop f) acts v).1 = T.setFrames fs) → Steps p.tables e below (T.setTop g) (T.setFrames fs)) → (Q_rmMN Z p0 p1 h0 n0) v T.heap locs → cells ≤ ({ frames := 0, cells := 0, slots := 0, locals := 0 } : Room).cells → slots ≤ ({ frames := 0, cells := 0, slots := 0, locals := 0 } : Room).slots → G T g := by subst hG; exact fun X h1 h2 h3 h4 h5 => own_out X hlk h1 h2 h3 h4 h5
  show OwnG p e below s ({ frames := 0, cells := 0, slots := 0, locals := 0 } : Room).cells ({ frames := 0, cells := 0, slots := 0, locals := 0 } : Room).slots (Q_rmMN Z p0 p1 h0 n0) s₁ (entryFrame m #[(.int p0), (.int p1)] 2)
  rw [← hG, ef_rmMN m p0 p1]
  clear hG
  show G s₁ (mkF m 0 #[.val (.int p0), .val (.int p1)] [])
  refine gb (fun _ k => XS.iloadN X0.here hx rfl (hb hby d46_0) rfl (XS.iloadN X0.here hx rfl (hb hby d46_1) rfl (XS.icmpYes X0.here hx rfl (pc0 := 2) (pc' := 9) rfl (hb hby d46_2) rfl (tlt hp).2.2.1 (by decide) (by decide) (XS.iloadN X0.here hx rfl (hb hby d46_9) rfl k)))) ?_
  show G s₁ (mkF m 10 #[iv p0, iv p1] [.int p1])
  exact go X0 (v := (some (.int p1))) (fun h => by rw [Bd.returns] at h; cases h) (fun fs hr => retOut X0 hx Bd.returns rfl (Or.inl ⟨rfl, by simp, _, rfl⟩) (hb hby d46_10) hr) (⟨rfl, rfl, e0⟩) (by decide) (by decide)
def Q_rmCL (Z : State) (p1 : Int32) (h0 : Heap) (n0 : Nat) : Option Value → Heap → List Loc → Prop := fun v h L => v = none ∧ L = [] ∧ h = h0
set_option maxRecDepth 65536 in
set_option maxHeartbeats 40000000 in
theorem rmCL (l : Launch) (Z : State) (a0 : Array Value) (hw : ∀ d ∈ tables_1, d.before a0 Z = true) (ws : List Jvm.Cond) (p1 : Int32) (h0 : Heap) (n0 : Nat) (O : Old Z n0 h0) (hp : ¬ p1 < (0 : Int32)) :
    MetFree l (⟨"java/util/Arrays", "checkLength", "(II)V"⟩ : MethodName) (head1 (Jvm.Cond.code (⟨"java/util/Arrays", "checkLength", "(II)V"⟩ : MethodName) jdk_65_method_131_code 2 none :: ws) ({ frames := 0, cells := 0, slots := 0, locals := 0 } : Room)) (fun a U => a = #[(.int (0 : Int32)), (.int p1)] ∧ Z.Warmed39 U.vm ∧ U.heap = h0) (fun _ _ _ _ _ => True) (fun _ U o U' => ∃ v L, o = .returned v ∧ (Q_rmCL Z p1 h0 n0) v U'.heap L ∧ FrameEnd U o U' L ({ frames := 0, cells := 0, slots := 0, locals := 0 } : Room).cells ({ frames := 0, cells := 0, slots := 0, locals := 0 } : Room).slots) := by
  refine MetFree.of_bodySF (plainFor_of_name pn_5) hisR ?_
  intro p e s m args below meth c s₁ Bd hml0 hP hK
  obtain ⟨rfl, hZ, hh⟩ := hP
  have hx := Bd.exec
  have hby := Bd.bytes
  have hml : c.maxLocals = 2 := hml0
  have hown : s.vm.findClass "java/util/Arrays" = some m.cls := findClass_of_methodNamed Bd.named
  have hnm := (name_of_methodNamed Bd.named Bd.method).1
  have hlk := BodyLoose.notSynchronized Bd
  have X0 : Stand p l e ({ frames := 0, cells := 0, slots := 0, locals := 0 } : Room) s m #[(.int (0 : Int32)), (.int p1)] below meth c s₁ [] 0 0 := Stand.of_body Bd
  have e0 : s₁.heap = h0 := by rw [← hh, Bd.state]; rfl
  have N := Fr.nil n0
  obtain ⟨G, hG⟩ : ∃ G : State → JFrame → Prop, G = OwnG p e below s ({ frames := 0, cells := 0, slots := 0, locals := 0 } : Room).cells ({ frames := 0, cells := 0, slots := 0, locals := 0 } : Room).slots (Q_rmCL Z p1 h0 n0) := ⟨_, rfl⟩
  have gb : ∀ {T T' : State} {g g' : JFrame}, (∀ t, Steps p.tables e below (T'.setTop g') t → Steps p.tables e below (T.setTop g) t) → G T' g' → G T g := by subst hG; exact fun k h => own_by k h
  have go : ∀ {T : State} {locs : List Loc} {cells slots : Nat} {g : JFrame} {v : Option Value}, Stand p l e ({ frames := 0, cells := 0, slots := 0, locals := 0 } : Room) s m #[(.int (0 : Int32)), (.int p1)] below meth c T locs cells slots → (meth.sig.returnType = none → v = none) → (∀ fs, (∀ (f : JFrame) (acts : List Action), f.method = m → f.locked = none → f.entered = [] → (doReturn e (T.setTop f) acts v).1 = T.setFrames fs) → Steps p.tables e below (T.setTop g) (T.setFrames fs)) → (Q_rmCL Z p1 h0 n0) v T.heap locs → cells ≤ ({ frames := 0, cells := 0, slots := 0, locals := 0 } : Room).cells → slots ≤ ({ frames := 0, cells := 0, slots := 0, locals := 0 } : Room).slots → G T g := by subst hG; exact fun X h1 h2 h3 h4 h5 => own_out X hlk h1 h2 h3 h4 h5
  show OwnG p e below s ({ frames := 0, cells := 0, slots := 0, locals := 0 } : Room).cells ({ frames := 0, cells := 0, slots := 0, locals := 0 } : Room).slots (Q_rmCL Z p1 h0 n0) s₁ (entryFrame m #[(.int (0 : Int32)), (.int p1)] 2)
  rw [← hG, ef_rmCL m (0 : Int32) p1]
  clear hG
  show G s₁ (mkF m 0 #[.val (.int (0 : Int32)), .val (.int p1)] [])
  refine gb (fun _ k => XS.iloadN X0.here hx rfl (hb hby d45_0) rfl (XS.iloadN X0.here hx rfl (hb hby d45_1) rfl (XS.icmpYes X0.here hx rfl (pc0 := 2) (pc' := 37) rfl (hb hby d45_2) rfl (flt hp).2.1 (by decide) (by decide) k))) ?_
  show G s₁ (mkF m 37 #[iv 0, iv p1] [])
  exact go X0 (v := none) (fun _ => rfl) (fun fs hr => X0.returnOut hx Bd.returns (hb hby d45_37) hr) (⟨rfl, rfl, e0⟩) (by decide) (by decide)
def Q_rmCB (Z : State) (a1 : Addr) (k1 : ClassId) (xs : List Int32) (n t : Nat) (h0 : Heap) (n0 : Nat) : Option Value → Heap → List Loc → Prop := fun v h L => ∃ (b : Addr) (kb : ClassId), v = some (.ref b) ∧ Fr n0 L ∧ Keep h0 h [] ∧ n0 ≤ b ∧ h0.size ≤ b ∧ Arv Z h b kb .byte (Int32.ofNat t) ((xs.take t).map Value.int) (.int (0 : Int32))
set_option maxRecDepth 65536 in
set_option maxHeartbeats 40000000 in
theorem rmCB (l : Launch) (Z : State) (a0 : Array Value) (hw : ∀ d ∈ tables_1, d.before a0 Z = true) (ws : List Jvm.Cond) (a1 : Addr) (k1 : ClassId) (xs : List Int32) (n t : Nat) (h0 : Heap) (n0 : Nat) (O : Old Z n0 h0) (V_a1 : Arv Z h0 a1 k1 .byte (Int32.ofNat n) (xs.map Value.int) (.int (0 : Int32))) (hx1 : xs.length = n) (ht : t < n) (hn : n ≤ 12) :
    MetFree l (⟨"java/util/Arrays", "copyOfRangeByte", "([BII)[B"⟩ : MethodName) (head1 (Jvm.Cond.code (⟨"java/util/Arrays", "copyOfRangeByte", "([BII)[B"⟩ : MethodName) jdk_65_method_133_code 5 (some (.array .byte)) :: ws) ({ frames := 1, cells := 1, slots := 12, locals := 40 } : Room)) (fun a U => a = #[(.ref a1), (.int (0 : Int32)), (.int (Int32.ofNat t))] ∧ Z.Warmed39 U.vm ∧ U.heap = h0) (fun _ _ _ _ _ => True) (fun _ U o U' => ∃ v L, o = .returned v ∧ (Q_rmCB Z a1 k1 xs n t h0 n0) v U'.heap L ∧ FrameEnd U o U' L ({ frames := 1, cells := 1, slots := 12, locals := 40 } : Room).cells ({ frames := 1, cells := 1, slots := 12, locals := 40 } : Room).slots) := by
  refine MetFree.of_bodySF (plainFor_of_name pn_5) hisR ?_
  intro p e s m args below meth c s₁ Bd hml0 hP hK
  obtain ⟨rfl, hZ, hh⟩ := hP
  have hx := Bd.exec
  have hby := Bd.bytes
  have hml : c.maxLocals = 5 := hml0
  have hown : s.vm.findClass "java/util/Arrays" = some m.cls := findClass_of_methodNamed Bd.named
  have hnm := (name_of_methodNamed Bd.named Bd.method).1
  have hlk := BodyLoose.notSynchronized Bd
  have X0 : Stand p l e ({ frames := 1, cells := 1, slots := 12, locals := 40 } : Room) s m #[(.ref a1), (.int (0 : Int32)), (.int (Int32.ofNat t))] below meth c s₁ [] 0 0 := Stand.of_body Bd
  have e0 : s₁.heap = h0 := by rw [← hh, Bd.state]; rfl
  have N := Fr.nil n0
  have K := Keep.refl h0 []
  obtain ⟨G, hG⟩ : ∃ G : State → JFrame → Prop, G = OwnG p e below s ({ frames := 1, cells := 1, slots := 12, locals := 40 } : Room).cells ({ frames := 1, cells := 1, slots := 12, locals := 40 } : Room).slots (Q_rmCB Z a1 k1 xs n t h0 n0) := ⟨_, rfl⟩
  have gb : ∀ {T T' : State} {g g' : JFrame}, (∀ t, Steps p.tables e below (T'.setTop g') t → Steps p.tables e below (T.setTop g) t) → G T' g' → G T g := by subst hG; exact fun k h => own_by k h
  have go : ∀ {T : State} {locs : List Loc} {cells slots : Nat} {g : JFrame} {v : Option Value}, Stand p l e ({ frames := 1, cells := 1, slots := 12, locals := 40 } : Room) s m #[(.ref a1), (.int (0 : Int32)), (.int (Int32.ofNat t))] below meth c T locs cells slots → (meth.sig.returnType = none → v = none) → (∀ fs, (∀ (f : JFrame) (acts : List Action), f.method = m → f.locked = none → f.entered = [] → (doReturn e (T.setTop f) acts v).1 = T.setFrames fs) → Steps p.tables e below (T.setTop g) (T.setFrames fs)) → (Q_rmCB Z a1 k1 xs n t h0 n0) v T.heap locs → cells ≤ ({ frames := 1, cells := 1, slots := 12, locals := 40 } : Room).cells → slots ≤ ({ frames := 1, cells := 1, slots := 12, locals := 40 } : Room).slots → G T g := by subst hG; exact fun X h1 h2 h3 h4 h5 => own_out X hlk h1 h2 h3 h4 h5
  show OwnG p e below s ({ frames := 1, cells := 1, slots := 12, locals := 40 } : Room).cells ({ frames := 1, cells := 1, slots := 12, locals := 40 } : Room).slots (Q_rmCB Z a1 k1 xs n t h0 n0) s₁ (entryFrame m #[(.ref a1), (.int (0 : Int32)), (.int (Int32.ofNat t))] 5)
  rw [← hG, ef_rmCB m a1 (0 : Int32) (Int32.ofNat t)]
  clear hG
  show G s₁ (mkF m 0 #[.val (.ref a1), .val (.int (0 : Int32)), .val (.int (Int32.ofNat t)), .unset, .unset] [])
  refine gb (fun _ k => XS.iloadN X0.here hx rfl (hb hby d44_0) rfl (XS.iloadN X0.here hx rfl (hb hby d44_1) rfl k)) ?_
  show G s₁ (mkF m 2 #[rv a1, iv 0, iv (Int32.ofNat t), .unset, .unset] [.int (Int32.ofNat t), .int 0])
  obtain ⟨_, _, ⟨T1, Lz1, kz1, nz1⟩, -, X1, ⟨Lc1, hQ1, lq1, yq1, zq1⟩, st1⟩ := Jvm.LawKit.callS X0 hx (y := (⟨"java/util/Arrays", "checkLength", "(II)V"⟩ : MethodName)) hown (mvT hZ (ow hw 184 rfl)) (mvT hZ (ow hw 185 rfl)) (mvT hZ (ow hw 179 rfl)) (mvT hZ (ow hw 186 rfl)) (by decide) (backOf (W := 0) (rmCL l Z a0 hw [] (Int32.ofNat t) h0 n0 O (own_nn (by omega))) hZ (ow hw 186 rfl) (ow hw 179 rfl) (by decide) (by decide)) (g := (mkF m 2 #[rv a1, iv 0, iv (Int32.ofNat t), .unset, .unset] [.int (Int32.ofNat t), .int 0])) rfl (by rw [hml]; rfl) (argsL := [(.int (0 : Int32)), (.int (Int32.ofNat t))]) (rest := []) (lenOf pd_17 rfl) rfl (by show 2 * 0 + _ ≤ _; exact Nat.le_of_eq rfl) (hb hby d44_2) (fun _ _ => ⟨rfl, e0, (by decide : 0 + 0 ≤ _), (by decide : 0 + 0 ≤ _)⟩)
  dsimp only [Pt.U, Pt.locs, Pt.cells, Pt.slots] at X1 lq1 yq1 zq1 st1 hQ1
  subst lq1 yq1 zq1
  obtain ⟨rfl, rfl, e1⟩ := hQ1
  try rw [List.append_nil] at X1
  refine gb st1 ?_
  show G T1 (mkF m 5 #[rv a1, iv 0, iv (Int32.ofNat t), .unset, .unset] [])
  refine gb (fun _ k => XS.iloadN X1.here hx rfl (hb hby d44_5) rfl (XS.iloadN X1.here hx rfl (hb hby d44_6) rfl (XS.isub X1.here hx rfl (hb hby d44_7) rfl k))) ?_
  show G T1 (mkF m 8 #[rv a1, iv 0, iv (Int32.ofNat t), .unset, .unset] [.int ((Int32.ofNat t) - (0 : Int32))])
  rw [own_sub0]
  show G T1 (mkF m 8 #[rv a1, iv 0, iv (Int32.ofNat t), .unset, .unset] [.int (Int32.ofNat t)])
  refine gb (fun _ k => XS.istoreN X1.here hx rfl (hb hby d44_8) rfl (l' := #[rv a1, iv 0, iv (Int32.ofNat t), iv (Int32.ofNat t), .unset]) rfl (XS.iloadN X1.here hx rfl (hb hby d44_9) rfl k)) ?_
  show G T1 (mkF m 10 #[rv a1, iv 0, iv (Int32.ofNat t), iv (Int32.ofNat t), .unset] [.int (Int32.ofNat t)])
  obtain ⟨T2, h2, kA2, X2, e2, E2, A2, st2⟩ := newP X1 hx hZ (ow hw 19 rfl) e1 (g := (mkF m 10 #[rv a1, iv 0, iv (Int32.ofNat t), iv (Int32.ofNat t), .unset] [.int (Int32.ofNat t)])) rfl (hb hby d44_10) rfl (own_nn (by omega)) (cap := 12) (own_cap (by omega) (by decide)) (by decide) (by decide) (by decide)
  obtain ⟨b2, g2⟩ : ∃ z, z = h0.size := ⟨_, rfl⟩
  rw [← g2] at A2 st2
  have g_b2 : n0 ≤ b2 := Nat.le_trans (by have := O.2.1; rw [O.1] at this; exact this) (Nat.le_of_eq g2.symm)
  have sz_b2 : h0.size ≤ b2 := Nat.le_trans K.1 (Nat.le_of_eq g2.symm)
  have ne_a1_b2 : a1 ≠ b2 := Nat.ne_of_lt (Nat.lt_of_lt_of_le V_a1.lt (Nat.le_of_eq g2.symm))
  have V_a1 := V_a1.ext E2
  have O := O.ext E2
  have K := K.ext E2
  have V_b2 : Arv Z h2 b2 kA2 .byte (Int32.ofNat t) [] (.int (0 : Int32)) := Arv.new A2 (own_nn (by omega))
  refine gb st2 ?_
  show G T2 (mkF m 12 #[rv a1, iv 0, iv (Int32.ofNat t), iv (Int32.ofNat t), .unset] [.ref b2])
  refine gb (fun _ k => XS.astore X2.here hx rfl (hb hby d44_12) rfl rfl (l' := #[rv a1, iv 0, iv (Int32.ofNat t), iv (Int32.ofNat t), rv b2]) rfl (XS.aloadN X2.here hx rfl (hb hby d44_14) rfl rfl (XS.iloadN X2.here hx rfl (hb hby d44_15) rfl (XS.aload X2.here hx rfl (hb hby d44_16) rfl rfl (XS.iconst X2.here hx rfl (hb hby d44_18) (XS.aloadN X2.here hx rfl (hb hby d44_19) rfl rfl k)))))) ?_
  show G T2 (mkF m 20 #[rv a1, iv 0, iv (Int32.ofNat t), iv (Int32.ofNat t), rv b2] [.ref a1, .int 0, .ref b2, .int 0, .ref a1])
  have V'3 := V_a1
  obtain ⟨cl3, Ar3, qk3, sz3, nn3, hs3, ft3⟩ := V'3
  refine gb (X2.arraylength hx (by rw [e2]; exact Ar3.1) (State.isArrayOf_alike hZ.alike Ar3.2.1) (g := (mkF m 20 #[rv a1, iv 0, iv (Int32.ofNat t), iv (Int32.ofNat t), rv b2] [.ref a1, .int 0, .ref b2, .int 0, .ref a1])) rfl rfl (hb hby d44_20)) ?_
  rw [len_of sz3 nn3]
  show G T2 (mkF m 21 #[rv a1, iv 0, iv (Int32.ofNat t), iv (Int32.ofNat t), rv b2] [.int (Int32.ofNat n), .int 0, .ref b2, .int 0, .ref a1])
  refine gb (fun _ k => XS.iloadN X2.here hx rfl (hb hby d44_21) rfl (XS.isub X2.here hx rfl (hb hby d44_22) rfl k)) ?_
  show G T2 (mkF m 23 #[rv a1, iv 0, iv (Int32.ofNat t), iv (Int32.ofNat t), rv b2] [.int ((Int32.ofNat n) - (0 : Int32)), .int 0, .ref b2, .int 0, .ref a1])
  rw [own_sub0]
  show G T2 (mkF m 23 #[rv a1, iv 0, iv (Int32.ofNat t), iv (Int32.ofNat t), rv b2] [.int (Int32.ofNat n), .int 0, .ref b2, .int 0, .ref a1])
  refine gb (fun _ k => XS.iloadN X2.here hx rfl (hb hby d44_23) rfl k) ?_
  show G T2 (mkF m 24 #[rv a1, iv 0, iv (Int32.ofNat t), iv (Int32.ofNat t), rv b2] [.int (Int32.ofNat t), .int (Int32.ofNat n), .int 0, .ref b2, .int 0, .ref a1])
  obtain ⟨_, _, ⟨T4, Lz4, kz4, nz4⟩, -, X4, ⟨Lc4, hQ4, lq4, yq4, zq4⟩, st4⟩ := Jvm.LawKit.callS X2 hx (y := (⟨"java/lang/Math", "min", "(II)I"⟩ : MethodName)) hown (mvT hZ (ow hw 187 rfl)) (mvT hZ (ow hw 188 rfl)) (mvT hZ (ow hw 189 rfl)) (mvT hZ (ow hw 190 rfl)) (by decide) (backOf (W := 4) (rmMN l Z a0 hw [] (Int32.ofNat n) (Int32.ofNat t) h2 n0 O (own_in ht (by omega)).2) hZ (ow hw 190 rfl) (ow hw 189 rfl) (by decide) (by decide)) (g := (mkF m 24 #[rv a1, iv 0, iv (Int32.ofNat t), iv (Int32.ofNat t), rv b2] [.int (Int32.ofNat t), .int (Int32.ofNat n), .int 0, .ref b2, .int 0, .ref a1])) rfl (by rw [hml]; rfl) (argsL := [(.int (Int32.ofNat n)), (.int (Int32.ofNat t))]) (rest := [(.int (0 : Int32)), (.ref b2), (.int (0 : Int32)), (.ref a1)]) (lenOf pd_19 rfl) rfl (by show 2 * 0 + _ ≤ _; exact Nat.le_of_eq rfl) (hb hby d44_24) (fun _ _ => ⟨rfl, e2, (by decide : 1 + 0 ≤ _), (by decide : 12 + 0 ≤ _)⟩)
  dsimp only [Pt.U, Pt.locs, Pt.cells, Pt.slots] at X4 lq4 yq4 zq4 st4 hQ4
  subst lq4 yq4 zq4
  obtain ⟨rfl, rfl, e4⟩ := hQ4
  try rw [List.append_nil] at X4
  refine gb st4 ?_
  show G T4 (mkF m 27 #[rv a1, iv 0, iv (Int32.ofNat t), iv (Int32.ofNat t), rv b2] [.int (Int32.ofNat t), .int 0, .ref b2, .int 0, .ref a1])
  have V_b2 := Arv.pad (vs' := List.replicate t (Value.int 0)) V_b2 (pad_rep [] _ t)
  obtain ⟨T5, h5, Lc5, X5, e5, N, Kq5, V_b2, st5⟩ := cpA X4 hx hZ (own := "java/util/Arrays") (index := 150) hown (ow hw 191 rfl) (ow hw 194 rfl) (ow hw 192 rfl) (ow hw 193 rfl) e4 V_a1 V_b2 (Or.inl ⟨rfl, rfl⟩) (by decide) (by decide) (own_nn (by omega)) (by rw [own_tn (n := t) (by omega), own_tn (n := n) (by omega)]; show 0 + t ≤ n; omega) (by rw [own_tn (n := t) (by omega)]; show 0 + t ≤ t; omega) rfl (by rw [own_tn (n := t) (by omega), List.length_replicate]; show 0 + t ≤ t; omega) N g_b2 (g := (mkF m 27 #[rv a1, iv 0, iv (Int32.ofNat t), iv (Int32.ofNat t), rv b2] [.int (Int32.ofNat t), .int 0, .ref b2, .int 0, .ref a1])) rfl (by rw [hml]; rfl) (rest := []) rfl (hb hby d44_27) (by decide) (W := 0) (by show 2 * 0 + 0 ≤ 0; decide) (by decide)
  rw [own_tn (n := t) (by omega), show (0 : Int32).toNatClampNeg = 0 from rfl, own_cpy (by omega)] at V_b2
  have V_a1 := V_a1.keep Kq5 (ninS ne_a1_b2 nin0)
  have O := O.keep Kq5 (allS g_b2 all0)
  have K := K.trans Kq5 (allS (Or.inr sz_b2) all0)
  refine gb st5 ?_
  show G T5 (mkF m 30 #[rv a1, iv 0, iv (Int32.ofNat t), iv (Int32.ofNat t), rv b2] [])
  refine gb (fun _ k => XS.aload X5.here hx rfl (hb hby d44_30) rfl rfl k) ?_
  show G T5 (mkF m 32 #[rv a1, iv 0, iv (Int32.ofNat t), iv (Int32.ofNat t), rv b2] [.ref b2])
  exact go X5 (v := (some (.ref b2))) (fun h => by rw [Bd.returns] at h; cases h) (fun fs hr => retOut X5 hx Bd.returns rfl (Or.inr (Or.inr (Or.inr (Or.inr ⟨rfl, rfl, rfl⟩)))) (hb hby d44_32) hr) (by rw [e5]; exact ⟨_, _, rfl, N, K, g_b2, sz_b2, V_b2⟩) (by decide) (by decide)
def Q_rmCR (Z : State) (a1 : Addr) (k1 : ClassId) (xs : List Int32) (n t : Nat) (h0 : Heap) (n0 : Nat) : Option Value → Heap → List Loc → Prop := fun v h L => ∃ (b : Addr) (kb : ClassId), v = some (.ref b) ∧ Fr n0 L ∧ Keep h0 h [] ∧ n0 ≤ b ∧ h0.size ≤ b ∧ Arv Z h b kb .byte (Int32.ofNat t) ((xs.take t).map Value.int) (.int (0 : Int32))
set_option maxRecDepth 65536 in
set_option maxHeartbeats 40000000 in
theorem rmCR (l : Launch) (Z : State) (a0 : Array Value) (hw : ∀ d ∈ tables_1, d.before a0 Z = true) (ws : List Jvm.Cond) (a1 : Addr) (k1 : ClassId) (xs : List Int32) (n t : Nat) (h0 : Heap) (n0 : Nat) (O : Old Z n0 h0) (V_a1 : Arv Z h0 a1 k1 .byte (Int32.ofNat n) (xs.map Value.int) (.int (0 : Int32))) (hx1 : xs.length = n) (ht : t < n) (hn : n ≤ 12) :
    MetFree l (⟨"java/util/Arrays", "copyOfRange", "([BII)[B"⟩ : MethodName) (head1 (Jvm.Cond.code (⟨"java/util/Arrays", "copyOfRange", "([BII)[B"⟩ : MethodName) jdk_65_method_132_code 3 (some (.array .byte)) :: ws) ({ frames := 2, cells := 1, slots := 12, locals := 56 } : Room)) (fun a U => a = #[(.ref a1), (.int (0 : Int32)), (.int (Int32.ofNat t))] ∧ Z.Warmed39 U.vm ∧ U.heap = h0) (fun _ _ _ _ _ => True) (fun _ U o U' => ∃ v L, o = .returned v ∧ (Q_rmCR Z a1 k1 xs n t h0 n0) v U'.heap L ∧ FrameEnd U o U' L ({ frames := 2, cells := 1, slots := 12, locals := 56 } : Room).cells ({ frames := 2, cells := 1, slots := 12, locals := 56 } : Room).slots) := by
  refine MetFree.of_bodySF (plainFor_of_name pn_5) hisR ?_
  intro p e s m args below meth c s₁ Bd hml0 hP hK
  obtain ⟨rfl, hZ, hh⟩ := hP
  have hx := Bd.exec
  have hby := Bd.bytes
  have hml : c.maxLocals = 3 := hml0
  have hown : s.vm.findClass "java/util/Arrays" = some m.cls := findClass_of_methodNamed Bd.named
  have hnm := (name_of_methodNamed Bd.named Bd.method).1
  have hlk := BodyLoose.notSynchronized Bd
  have X0 : Stand p l e ({ frames := 2, cells := 1, slots := 12, locals := 56 } : Room) s m #[(.ref a1), (.int (0 : Int32)), (.int (Int32.ofNat t))] below meth c s₁ [] 0 0 := Stand.of_body Bd
  have e0 : s₁.heap = h0 := by rw [← hh, Bd.state]; rfl
  have N := Fr.nil n0
  have K := Keep.refl h0 []
  obtain ⟨G, hG⟩ : ∃ G : State → JFrame → Prop, G = OwnG p e below s ({ frames := 2, cells := 1, slots := 12, locals := 56 } : Room).cells ({ frames := 2, cells := 1, slots := 12, locals := 56 } : Room).slots (Q_rmCR Z a1 k1 xs n t h0 n0) := ⟨_, rfl⟩
  have gb : ∀ {T T' : State} {g g' : JFrame}, (∀ t, Steps p.tables e below (T'.setTop g') t → Steps p.tables e below (T.setTop g) t) → G T' g' → G T g := by subst hG; exact fun k h => own_by k h
  have go : ∀ {T : State} {locs : List Loc} {cells slots : Nat} {g : JFrame} {v : Option Value}, Stand p l e ({ frames := 2, cells := 1, slots := 12, locals := 56 } : Room) s m #[(.ref a1), (.int (0 : Int32)), (.int (Int32.ofNat t))] below meth c T locs cells slots → (meth.sig.returnType = none → v = none) → (∀ fs, (∀ (f : JFrame) (acts : List Action), f.method = m → f.locked = none → f.entered = [] → (doReturn e (T.setTop f) acts v).1 = T.setFrames fs) → Steps p.tables e below (T.setTop g) (T.setFrames fs)) → (Q_rmCR Z a1 k1 xs n t h0 n0) v T.heap locs → cells ≤ ({ frames := 2, cells := 1, slots := 12, locals := 56 } : Room).cells → slots ≤ ({ frames := 2, cells := 1, slots := 12, locals := 56 } : Room).slots → G T g := by subst hG; exact fun X h1 h2 h3 h4 h5 => own_out X hlk h1 h2 h3 h4 h5
  show OwnG p e below s ({ frames := 2, cells := 1, slots := 12, locals := 56 } : Room).cells ({ frames := 2, cells := 1, slots := 12, locals := 56 } : Room).slots (Q_rmCR Z a1 k1 xs n t h0 n0) s₁ (entryFrame m #[(.ref a1), (.int (0 : Int32)), (.int (Int32.ofNat t))] 3)
  rw [← hG, ef_rmCR m a1 (0 : Int32) (Int32.ofNat t)]
  clear hG
  show G s₁ (mkF m 0 #[.val (.ref a1), .val (.int (0 : Int32)), .val (.int (Int32.ofNat t))] [])
  refine gb (fun _ k => XS.iloadN X0.here hx rfl (hb hby d43_0) rfl (XS.ifNo X0.here hx rfl (hb hby d43_1) rfl ((if0 _ _).trans (teq (by decide : (0 : Int32) = (0 : Int32))).2) (XS.iloadN X0.here hx rfl (hb hby d43_4) rfl (XS.aloadN X0.here hx rfl (hb hby d43_5) rfl rfl k)))) ?_
  show G s₁ (mkF m 6 #[rv a1, iv 0, iv (Int32.ofNat t)] [.ref a1, .int (Int32.ofNat t)])
  have V'1 := V_a1
  obtain ⟨cl1, Ar1, qk1, sz1, nn1, hs1, ft1⟩ := V'1
  refine gb (X0.arraylength hx (by rw [e0]; exact Ar1.1) (State.isArrayOf_alike hZ.alike Ar1.2.1) (g := (mkF m 6 #[rv a1, iv 0, iv (Int32.ofNat t)] [.ref a1, .int (Int32.ofNat t)])) rfl rfl (hb hby d43_6)) ?_
  rw [len_of sz1 nn1]
  show G s₁ (mkF m 7 #[rv a1, iv 0, iv (Int32.ofNat t)] [.int (Int32.ofNat n), .int (Int32.ofNat t)])
  refine gb (fun _ k => XS.icmpNo X0.here hx rfl (hb hby d43_7) rfl (feq (fun q => absurd (own_inj (by omega) (by omega) q) (by omega))).1 (XS.aloadN X0.here hx rfl (hb hby d43_10) rfl rfl (XS.iloadN X0.here hx rfl (hb hby d43_11) rfl (XS.iloadN X0.here hx rfl (hb hby d43_12) rfl k)))) ?_
  show G s₁ (mkF m 13 #[rv a1, iv 0, iv (Int32.ofNat t)] [.int (Int32.ofNat t), .int 0, .ref a1])
  have lt_a1 := V_a1.lt
  have szK := K.1
  obtain ⟨_, _, ⟨T2, Lz2, kz2, nz2⟩, -, X2, ⟨Lc2, hQ2, lq2, yq2, zq2⟩, st2⟩ := Jvm.LawKit.callS X0 hx (y := (⟨"java/util/Arrays", "copyOfRangeByte", "([BII)[B"⟩ : MethodName)) hown (mvT hZ (ow hw 181 rfl)) (mvT hZ (ow hw 182 rfl)) (mvT hZ (ow hw 179 rfl)) (mvT hZ (ow hw 183 rfl)) (by decide) (backOf (W := 0) (rmCB l Z a0 hw [] a1 k1 xs n t h0 n0 O V_a1 hx1 ht hn) hZ (ow hw 183 rfl) (ow hw 179 rfl) (by decide) (by decide)) (g := (mkF m 13 #[rv a1, iv 0, iv (Int32.ofNat t)] [.int (Int32.ofNat t), .int 0, .ref a1])) rfl (by rw [hml]; rfl) (argsL := [(.ref a1), (.int (0 : Int32)), (.int (Int32.ofNat t))]) (rest := []) (lenOf pd_20 rfl) rfl (by show 2 * 0 + _ ≤ _; exact Nat.le_of_eq rfl) (hb hby d43_13) (fun _ _ => ⟨rfl, e0, (by decide : 0 + 1 ≤ _), (by decide : 0 + 12 ≤ _)⟩)
  dsimp only [Pt.U, Pt.locs, Pt.cells, Pt.slots] at X2 lq2 yq2 zq2 st2 hQ2
  subst lq2 yq2 zq2
  obtain ⟨h2, e2⟩ : ∃ z, z = T2.heap := ⟨_, rfl⟩
  rw [← e2] at hQ2
  replace e2 := e2.symm
  obtain ⟨b2, kb2, rfl, Nq2, Kq2, hR2⟩ := hQ2
  have N := Fr.app N Nq2
  have V_a1 := V_a1.keep Kq2 nin0
  obtain ⟨g_b2, sz_b2, V_b2⟩ := hR2
  have O := O.keep Kq2 all0
  have K := K.trans Kq2 all0
  have ne_a1_b2 : a1 ≠ b2 := Nat.ne_of_lt (Nat.lt_of_lt_of_le lt_a1 sz_b2)
  have sz_b2 := Nat.le_trans szK sz_b2
  refine gb st2 ?_
  show G T2 (mkF m 16 #[rv a1, iv 0, iv (Int32.ofNat t)] [.ref b2])
  exact go X2 (v := (some (.ref b2))) (fun h => by rw [Bd.returns] at h; cases h) (fun fs hr => retOut X2 hx Bd.returns rfl (Or.inr (Or.inr (Or.inr (Or.inr ⟨rfl, rfl, rfl⟩)))) (hb hby d43_16) hr) (by rw [e2]; exact ⟨_, _, rfl, N, K, g_b2, sz_b2, V_b2⟩) (by decide) (by decide)
theorem own_ut {cs ds : List Int32} (h : cs = ds.take cs.length) : (own_u ds).take (2 * cs.length) = own_u cs := by
  have e : ds = cs ++ ds.drop cs.length := by
    have q := (List.take_append_drop cs.length ds).symm
    rw [← h] at q; exact q
  rw [e, own_u_app, ← own_u_len cs, List.take_left']
  rfl
theorem own_lt' {cs ds : List Int32} (h : cs = ds.take cs.length) : (ds.map own_lb).take cs.length = cs.map own_lb := by
  rw [← List.map_take, ← h]
theorem own_pg {cs ds : List Int32} (h : cs = ds.take cs.length) {j : Nat} (hj : j < cs.length) : ds.getD j 0 = cs.getD j 0 := by
  have e : ds = cs ++ ds.drop cs.length := by
    have q := (List.take_append_drop cs.length ds).symm
    rw [← h] at q; exact q
  rw [e]
  simp only [List.getD_eq_getElem?_getD, List.getElem?_append_left hj]
def Q_rmC2b (Z : State) (a1 a2 : Addr) (k1 k2 : ClassId) (cs ds : List Int32) (h0 : Heap) (n0 : Nat) (sf : Value) : Option Value → Heap → List Loc → Prop := fun v h L => v = some (.int (Int32.ofNat (own_kk cs))) ∧ Fr n0 L ∧ Keep h0 h [a2] ∧ Arv Z h a2 k2 .byte (Int32.ofNat cs.length) (((cs.take (own_kk cs)).map own_lb).map Value.int) (.int (0 : Int32))
set_option maxRecDepth 65536 in
set_option maxHeartbeats 40000000 in
theorem rmC2b (l : Launch) (Z : State) (a0 : Array Value) (hw : ∀ d ∈ tables_1, d.before a0 Z = true) (ws : List Jvm.Cond) (a1 a2 : Addr) (k1 k2 : ClassId) (cs ds : List Int32) (h0 : Heap) (n0 : Nat) (O : Old Z n0 h0) (S_ad : Sta Z Z.heap "java/lang/StringUTF16" "$assertionsDisabled" "Z" (.int (1 : Int32))) (S_hi : Sta Z Z.heap "java/lang/StringUTF16" "HI_BYTE_SHIFT" "I" (.int (0 : Int32))) (S_lo : Sta Z Z.heap "java/lang/StringUTF16" "LO_BYTE_SHIFT" "I" (.int (8 : Int32))) (sf : Value) (hr_sf : sf.isRef = true) (S_sf : Sta Z Z.heap "jdk/internal/util/Preconditions" "SIOOBE_FORMATTER" "Ljava/util/function/BiFunction;" sf) (V_a1 : Arv Z h0 a1 k1 .byte (Int32.ofNat (2 * ds.length)) ((own_u ds).map Value.int) (.int (0 : Int32))) (V_a2 : Arv Z h0 a2 k2 .byte (Int32.ofNat cs.length) (([] : List Int32).map Value.int) (.int (0 : Int32))) (g_a2 : n0 ≤ a2) (ne_a1_a2 : a1 ≠ a2) (hpre : cs = ds.take cs.length) (hlt : cs.length < ds.length) (hRd : own_R ds) (hR : own_R cs) :
    MetFree l (⟨"java/lang/StringUTF16", "compress", "([BI[BII)I"⟩ : MethodName) (head1 (Jvm.Cond.code (⟨"java/lang/StringUTF16", "compress", "([BI[BII)I"⟩ : MethodName) jdk_52_method_22_code 7 (some .int) :: ws) ({ frames := 3, cells := 0, slots := 0, locals := 43 } : Room)) (fun a U => a = #[(.ref a1), (.int (0 : Int32)), (.ref a2), (.int (0 : Int32)), (.int (Int32.ofNat cs.length))] ∧ Z.Warmed39 U.vm ∧ U.heap = h0) (fun _ _ _ _ _ => True) (fun _ U o U' => ∃ v L, o = .returned v ∧ (Q_rmC2b Z a1 a2 k1 k2 cs ds h0 n0 sf) v U'.heap L ∧ FrameEnd U o U' L ({ frames := 3, cells := 0, slots := 0, locals := 43 } : Room).cells ({ frames := 3, cells := 0, slots := 0, locals := 43 } : Room).slots) := by
  refine MetFree.of_bodySF (plainFor_of_name pn_0) hisR ?_
  intro p e s m args below meth c s₁ Bd hml0 hP hK
  obtain ⟨rfl, hZ, hh⟩ := hP
  have hx := Bd.exec
  have hby := Bd.bytes
  have hml : c.maxLocals = 7 := hml0
  have hown : s.vm.findClass "java/lang/StringUTF16" = some m.cls := findClass_of_methodNamed Bd.named
  have hnm := (name_of_methodNamed Bd.named Bd.method).1
  have hlk := BodyLoose.notSynchronized Bd
  have X0 : Stand p l e ({ frames := 3, cells := 0, slots := 0, locals := 43 } : Room) s m #[(.ref a1), (.int (0 : Int32)), (.ref a2), (.int (0 : Int32)), (.int (Int32.ofNat cs.length))] below meth c s₁ [] 0 0 := Stand.of_body Bd
  have e0 : s₁.heap = h0 := by rw [← hh, Bd.state]; rfl
  have N := Fr.nil n0
  have K := Keep.refl h0 [a2]
  obtain ⟨G, hG⟩ : ∃ G : State → JFrame → Prop, G = OwnG p e below s ({ frames := 3, cells := 0, slots := 0, locals := 43 } : Room).cells ({ frames := 3, cells := 0, slots := 0, locals := 43 } : Room).slots (Q_rmC2b Z a1 a2 k1 k2 cs ds h0 n0 sf) := ⟨_, rfl⟩
  have gb : ∀ {T T' : State} {g g' : JFrame}, (∀ t, Steps p.tables e below (T'.setTop g') t → Steps p.tables e below (T.setTop g) t) → G T' g' → G T g := by subst hG; exact fun k h => own_by k h
  have go : ∀ {T : State} {locs : List Loc} {cells slots : Nat} {g : JFrame} {v : Option Value}, Stand p l e ({ frames := 3, cells := 0, slots := 0, locals := 43 } : Room) s m #[(.ref a1), (.int (0 : Int32)), (.ref a2), (.int (0 : Int32)), (.int (Int32.ofNat cs.length))] below meth c T locs cells slots → (meth.sig.returnType = none → v = none) → (∀ fs, (∀ (f : JFrame) (acts : List Action), f.method = m → f.locked = none → f.entered = [] → (doReturn e (T.setTop f) acts v).1 = T.setFrames fs) → Steps p.tables e below (T.setTop g) (T.setFrames fs)) → (Q_rmC2b Z a1 a2 k1 k2 cs ds h0 n0 sf) v T.heap locs → cells ≤ ({ frames := 3, cells := 0, slots := 0, locals := 43 } : Room).cells → slots ≤ ({ frames := 3, cells := 0, slots := 0, locals := 43 } : Room).slots → G T g := by subst hG; exact fun X h1 h2 h3 h4 h5 => own_out X hlk h1 h2 h3 h4 h5
  show OwnG p e below s ({ frames := 3, cells := 0, slots := 0, locals := 43 } : Room).cells ({ frames := 3, cells := 0, slots := 0, locals := 43 } : Room).slots (Q_rmC2b Z a1 a2 k1 k2 cs ds h0 n0 sf) s₁ (entryFrame m #[(.ref a1), (.int (0 : Int32)), (.ref a2), (.int (0 : Int32)), (.int (Int32.ofNat cs.length))] 7)
  rw [← hG, ef_rmC2b m a1 (0 : Int32) a2 (0 : Int32) (Int32.ofNat cs.length)]
  clear hG
  show G s₁ (mkF m 0 #[.val (.ref a1), .val (.int (0 : Int32)), .val (.ref a2), .val (.int (0 : Int32)), .val (.int (Int32.ofNat cs.length)), .unset, .unset] [])
  have hr6 := hR.1
  refine gb (fun _ k => XS.iloadN X0.here hx rfl (hb hby d38_0) rfl (XS.iload X0.here hx rfl (hb hby d38_1) rfl (XS.aloadN X0.here hx rfl (hb hby d38_3) rfl rfl k))) ?_
  show G s₁ (mkF m 4 #[rv a1, iv 0, rv a2, iv 0, iv (Int32.ofNat cs.length), .unset, .unset] [.ref a1, .int (Int32.ofNat cs.length), .int 0])
  obtain ⟨_, _, ⟨T1, Lz1, kz1, nz1⟩, -, X1, ⟨Lc1, hQ1, lq1, yq1, zq1⟩, st1⟩ := Jvm.LawKit.callS X0 hx (y := (⟨"java/lang/StringUTF16", "checkBoundsOffCount", "(II[B)V"⟩ : MethodName)) hown (mvT hZ (ow hw 165 rfl)) (mvT hZ (ow hw 166 rfl)) (mvT hZ (ow hw 81 rfl)) (mvT hZ (ow hw 167 rfl)) (by decide) (backOf (W := 0) (rmUO l Z a0 hw [] cs.length a1 k1 ds sf hr_sf S_sf h0 n0 O V_a1 hRd (by omega)) hZ (ow hw 167 rfl) (ow hw 81 rfl) (by decide) (by decide)) (g := (mkF m 4 #[rv a1, iv 0, rv a2, iv 0, iv (Int32.ofNat cs.length), .unset, .unset] [.ref a1, .int (Int32.ofNat cs.length), .int 0])) rfl (by rw [hml]; rfl) (argsL := [(.int (0 : Int32)), (.int (Int32.ofNat cs.length)), (.ref a1)]) (rest := []) (lenOf pd_21 rfl) rfl (by show 2 * 0 + _ ≤ _; exact Nat.le_of_eq rfl) (hb hby d38_4) (fun _ _ => ⟨rfl, e0, (by decide : 0 + 0 ≤ _), (by decide : 0 + 0 ≤ _)⟩)
  dsimp only [Pt.U, Pt.locs, Pt.cells, Pt.slots] at X1 lq1 yq1 zq1 st1 hQ1
  subst lq1 yq1 zq1
  obtain ⟨rfl, rfl, e1⟩ := hQ1
  try rw [List.append_nil] at X1
  refine gb st1 ?_
  show G T1 (mkF m 7 #[rv a1, iv 0, rv a2, iv 0, iv (Int32.ofNat cs.length), .unset, .unset] [])
  refine gb (fun _ k => XS.iconst X1.here hx rfl (hb hby d38_7) (XS.istore X1.here hx rfl (hb hby d38_8) rfl (l' := #[rv a1, iv 0, rv a2, iv 0, iv (Int32.ofNat cs.length), iv 0, .unset]) rfl k)) ?_
  show G T1 (mkF m 10 #[rv a1, iv 0, rv a2, iv 0, iv (Int32.ofNat cs.length), iv 0, .unset] [])
  have LP : ∀ (k i : Nat) (Tq : State) (Lq : List Loc) (hq : Heap) (Xq : Stand p l e ({ frames := 3, cells := 0, slots := 0, locals := 43 } : Room) s m #[(.ref a1), (.int (0 : Int32)), (.ref a2), (.int (0 : Int32)), (.int (Int32.ofNat cs.length))] below meth c Tq Lq 0 0) (N : Fr n0 Lq) (eq_ : Tq.heap = hq) (O : Old Z n0 hq) (K : Keep h0 hq [a2]) (V_a1 : Arv Z hq a1 k1 .byte (Int32.ofNat (2 * ds.length)) ((own_u ds).map Value.int) (.int (0 : Int32))) (V_a2 : Arv Z hq a2 k2 .byte (Int32.ofNat cs.length) (((cs.take i).map own_lb).map Value.int) (.int (0 : Int32))) (s6 : Slot) (h_s6 : s6 = .unset ∨ ∃ x : Int32, s6 = iv x) (hik : i + k = cs.length) (hp : ∀ j, j < i → ¬ (255 : Int32) < cs.getD j 0), G Tq (mkF m 10 #[rv a1, iv (Int32.ofNat i), rv a2, iv (Int32.ofNat i), iv (Int32.ofNat cs.length), iv (Int32.ofNat i), s6] []) := by
    intro k
    induction k with
    | zero =>
      intro i Tq Lq hq Xq N eq_ O K V_a1 V_a2 s6 h_s6 hik hp
      show G Tq (mkF m 10 #[rv a1, iv (Int32.ofNat i), rv a2, iv (Int32.ofNat i), iv (Int32.ofNat cs.length), iv (Int32.ofNat i), s6] [])
      refine gb (fun _ k => XS.iload Xq.here hx rfl (hb hby d38_10) rfl (XS.iload Xq.here hx rfl (hb hby d38_12) rfl (XS.icmpYes Xq.here hx rfl (pc0 := 14) (pc' := 53) rfl (hb hby d38_14) rfl (flt (own_nlt (by omega) (by omega))).2.1 (by decide) (by decide) (XS.iload Xq.here hx rfl (hb hby d38_53) rfl k)))) ?_
      show G Tq (mkF m 55 #[rv a1, iv (Int32.ofNat i), rv a2, iv (Int32.ofNat i), iv (Int32.ofNat cs.length), iv (Int32.ofNat i), s6] [.int (Int32.ofNat cs.length)])
      exact go Xq (v := (some (.int (Int32.ofNat cs.length)))) (fun h => by rw [Bd.returns] at h; cases h) (fun fs hr => retOut Xq hx Bd.returns rfl (Or.inl ⟨rfl, by simp, _, rfl⟩) (hb hby d38_55) hr) (by rw [eq_]; have q := (show own_kk cs = i from (by rw [own_kk_all cs (fun j hj => hp j (by omega))]; omega)); rw [Q_rmC2b, q]; exact ⟨by rw [show cs.length = i from by omega], N, K, V_a2⟩) (by decide) (by decide)
    | succ k ih =>
      intro i Tq Lq hq Xq N eq_ O K V_a1 V_a2 s6 h_s6 hik hp
      rcases h_s6 with rfl | ⟨x_s6, rfl⟩
      · skip
        show G Tq (mkF m 10 #[rv a1, iv (Int32.ofNat i), rv a2, iv (Int32.ofNat i), iv (Int32.ofNat cs.length), iv (Int32.ofNat i), .unset] [])
        refine gb (fun _ k => XS.iload Xq.here hx rfl (hb hby d38_10) rfl (XS.iload Xq.here hx rfl (hb hby d38_12) rfl (XS.icmpNo Xq.here hx rfl (hb hby d38_14) rfl (tlt (own_in (by omega) (by omega)).2).2.1 (XS.aloadN Xq.here hx rfl (hb hby d38_17) rfl rfl (XS.iloadN Xq.here hx rfl (hb hby d38_18) rfl k))))) ?_
        show G Tq (mkF m 19 #[rv a1, iv (Int32.ofNat i), rv a2, iv (Int32.ofNat i), iv (Int32.ofNat cs.length), iv (Int32.ofNat i), .unset] [.int (Int32.ofNat i), .ref a1])
        obtain ⟨_, _, ⟨T2, Lz2, kz2, nz2⟩, -, X2, ⟨Lc2, hQ2, lq2, yq2, zq2⟩, st2⟩ := Jvm.LawKit.callS Xq hx (y := (⟨"java/lang/StringUTF16", "getChar", "([BI)C"⟩ : MethodName)) hown (mvT hZ (ow hw 102 rfl)) (mvT hZ (ow hw 103 rfl)) (mvT hZ (ow hw 81 rfl)) (mvT hZ (ow hw 104 rfl)) (by decide) (backOf (W := 0) (rmG l Z a0 hw [] a1 k1 ds i hq n0 O S_ad S_hi S_lo V_a1 (by omega) hRd) hZ (ow hw 104 rfl) (ow hw 81 rfl) (by decide) (by decide)) (g := (mkF m 19 #[rv a1, iv (Int32.ofNat i), rv a2, iv (Int32.ofNat i), iv (Int32.ofNat cs.length), iv (Int32.ofNat i), .unset] [.int (Int32.ofNat i), .ref a1])) rfl (by rw [hml]; rfl) (argsL := [(.ref a1), (.int (Int32.ofNat i))]) (rest := []) (lenOf pd_5 rfl) rfl (by show 2 * 0 + _ ≤ _; exact Nat.le_of_eq rfl) (hb hby d38_19) (fun _ _ => ⟨rfl, eq_, (by decide : 0 + 0 ≤ _), (by decide : 0 + 0 ≤ _)⟩)
        dsimp only [Pt.U, Pt.locs, Pt.cells, Pt.slots] at X2 lq2 yq2 zq2 st2 hQ2
        subst lq2 yq2 zq2
        obtain ⟨rfl, rfl, e2⟩ := hQ2
        try rw [List.append_nil] at X2
        refine gb st2 ?_
        show G T2 (mkF m 22 #[rv a1, iv (Int32.ofNat i), rv a2, iv (Int32.ofNat i), iv (Int32.ofNat cs.length), iv (Int32.ofNat i), .unset] [.int (ds.getD i 0)])
        rw [own_pg hpre (show i < cs.length by omega)]
        show G T2 (mkF m 22 #[rv a1, iv (Int32.ofNat i), rv a2, iv (Int32.ofNat i), iv (Int32.ofNat cs.length), iv (Int32.ofNat i), .unset] [.int (cs.getD i 0)])
        refine gb (fun _ k => XS.istore X2.here hx rfl (hb hby d38_22) rfl (l' := #[rv a1, iv (Int32.ofNat i), rv a2, iv (Int32.ofNat i), iv (Int32.ofNat cs.length), iv (Int32.ofNat i), iv (cs.getD i 0)]) rfl (XS.iload X2.here hx rfl (hb hby d38_24) rfl (XS.sipush X2.here hx rfl (hb hby d38_26) k))) ?_
        show G T2 (mkF m 29 #[rv a1, iv (Int32.ofNat i), rv a2, iv (Int32.ofNat i), iv (Int32.ofNat cs.length), iv (Int32.ofNat i), iv (cs.getD i 0)] [.int 255, .int (cs.getD i 0)])
        by_cases hc29 : (255 : Int32) < (cs.getD i 0)
        · skip
          refine gb (fun _ k => XS.icmpNo X2.here hx rfl (hb hby d38_29) rfl (tlt hc29).2.2.2 (XS.iload X2.here hx rfl (hb hby d38_32) rfl k)) ?_
          show G T2 (mkF m 34 #[rv a1, iv (Int32.ofNat i), rv a2, iv (Int32.ofNat i), iv (Int32.ofNat cs.length), iv (Int32.ofNat i), iv (cs.getD i 0)] [.int (Int32.ofNat i)])
          exact go X2 (v := (some (.int (Int32.ofNat i)))) (fun h => by rw [Bd.returns] at h; cases h) (fun fs hr => retOut X2 hx Bd.returns rfl (Or.inl ⟨rfl, by simp, _, rfl⟩) (hb hby d38_34) hr) (by rw [e2]; have q := own_kk_at cs i (by omega) hp hc29; rw [Q_rmC2b, q]; exact ⟨rfl, N, K, V_a2⟩) (by decide) (by decide)
        · skip
          refine gb (fun _ k => XS.icmpYes X2.here hx rfl (pc0 := 29) (pc' := 35) rfl (hb hby d38_29) rfl (flt hc29).2.2.2 (by decide) (by decide) (XS.aloadN X2.here hx rfl (hb hby d38_35) rfl rfl (XS.iloadN X2.here hx rfl (hb hby d38_36) rfl (XS.iload X2.here hx rfl (hb hby d38_37) rfl (XS.i2b X2.here hx rfl (hb hby d38_39) rfl k))))) ?_
          show G T2 (mkF m 40 #[rv a1, iv (Int32.ofNat i), rv a2, iv (Int32.ofNat i), iv (Int32.ofNat cs.length), iv (Int32.ofNat i), iv (cs.getD i 0)] [.int ((cs.getD i 0).toInt8.toInt32), .int (Int32.ofNat i), .ref a2])
          have V'3 := V_a2
          obtain ⟨cl3, Ar3, qk3, sz3, nn3, hs3, ft3⟩ := V'3
          have hin3 : ¬ ((Int32.ofNat i) < 0 ∨ cl3.slots.size ≤ ((Int32.ofNat i)).toNatClampNeg) := inb_of sz3 (own_in (i := i) (n := cs.length) (by omega) (by omega))
          obtain ⟨T4, h4, X4, e4, W4, st4⟩ := stB X2 hx hZ e2 Ar3 (j := (Int32.ofNat i)) hin3 (g := (mkF m 40 #[rv a1, iv (Int32.ofNat i), rv a2, iv (Int32.ofNat i), iv (Int32.ofNat cs.length), iv (Int32.ofNat i), iv (cs.getD i 0)] [.int ((cs.getD i 0).toInt8.toInt32), .int (Int32.ofNat i), .ref a2])) rfl rfl (hb hby d38_40)
          have V_a2 : Arv Z h4 a2 k2 .byte (Int32.ofNat cs.length) (((cs.take i).map own_lb ++ [own_lb (cs.getD i 0)]).map Value.int) (.int (0 : Int32)) := own_snoc V_a2 (fits_nar_byte _) W4 (by rw [own_tn (n := i) (by omega), List.length_map, List.length_take]; omega)
          have V_a1 := V_a1.other W4 ne_a1_a2
          have O := O.wr W4 g_a2
          have K := K.wr W4 (Or.inl (List.mem_of_getElem? (i := 0) rfl))
          have N := Fr.snoc X4 N g_a2
          refine gb st4 ?_
          show G T4 (mkF m 41 #[rv a1, iv (Int32.ofNat i), rv a2, iv (Int32.ofNat i), iv (Int32.ofNat cs.length), iv (Int32.ofNat i), iv (cs.getD i 0)] [])
          refine gb (fun _ k => XS.iinc X4.here hx rfl (hb hby d38_41) rfl (l' := #[rv a1, iv ((Int32.ofNat i) + (1 : Int32)), rv a2, iv (Int32.ofNat i), iv (Int32.ofNat cs.length), iv (Int32.ofNat i), iv (cs.getD i 0)]) rfl (XS.iinc X4.here hx rfl (hb hby d38_44) rfl (l' := #[rv a1, iv ((Int32.ofNat i) + (1 : Int32)), rv a2, iv ((Int32.ofNat i) + (1 : Int32)), iv (Int32.ofNat cs.length), iv (Int32.ofNat i), iv (cs.getD i 0)]) rfl (XS.iinc X4.here hx rfl (hb hby d38_47) rfl (l' := #[rv a1, iv ((Int32.ofNat i) + (1 : Int32)), rv a2, iv ((Int32.ofNat i) + (1 : Int32)), iv (Int32.ofNat cs.length), iv ((Int32.ofNat i) + (1 : Int32)), iv (cs.getD i 0)]) rfl k))) ?_
          show G T4 (mkF m 50 #[rv a1, iv ((Int32.ofNat i) + (1 : Int32)), rv a2, iv ((Int32.ofNat i) + (1 : Int32)), iv (Int32.ofNat cs.length), iv ((Int32.ofNat i) + (1 : Int32)), iv (cs.getD i 0)] [])
          rw [own_succ32]
          rw [own_l1 (by omega)] at V_a2
          show G T4 (mkF m 50 #[rv a1, iv (Int32.ofNat (i + 1)), rv a2, iv (Int32.ofNat (i + 1)), iv (Int32.ofNat cs.length), iv (Int32.ofNat (i + 1)), iv (cs.getD i 0)] [])
          refine gb (fun _ k => XS.goto X4.here hx rfl (pc0 := 50) (pc' := 10) rfl (hb hby d38_50) (by decide) (by decide) k) ?_
          show G T4 (mkF m 10 #[rv a1, iv (Int32.ofNat (i + 1)), rv a2, iv (Int32.ofNat (i + 1)), iv (Int32.ofNat cs.length), iv (Int32.ofNat (i + 1)), iv (cs.getD i 0)] [])
          exact ih (i + 1) _ _ _ X4 N e4 O K V_a1 V_a2 (.val (.int (cs.getD i 0))) (Or.inr ⟨_, rfl⟩) (by omega) (fun j hj => by rcases Nat.lt_succ_iff_lt_or_eq.mp hj with z | z; exact hp j z; rw [z]; exact hc29)
      · skip
        show G Tq (mkF m 10 #[rv a1, iv (Int32.ofNat i), rv a2, iv (Int32.ofNat i), iv (Int32.ofNat cs.length), iv (Int32.ofNat i), iv x_s6] [])
        refine gb (fun _ k => XS.iload Xq.here hx rfl (hb hby d38_10) rfl (XS.iload Xq.here hx rfl (hb hby d38_12) rfl (XS.icmpNo Xq.here hx rfl (hb hby d38_14) rfl (tlt (own_in (by omega) (by omega)).2).2.1 (XS.aloadN Xq.here hx rfl (hb hby d38_17) rfl rfl (XS.iloadN Xq.here hx rfl (hb hby d38_18) rfl k))))) ?_
        show G Tq (mkF m 19 #[rv a1, iv (Int32.ofNat i), rv a2, iv (Int32.ofNat i), iv (Int32.ofNat cs.length), iv (Int32.ofNat i), iv x_s6] [.int (Int32.ofNat i), .ref a1])
        obtain ⟨_, _, ⟨T5, Lz5, kz5, nz5⟩, -, X5, ⟨Lc5, hQ5, lq5, yq5, zq5⟩, st5⟩ := Jvm.LawKit.callS Xq hx (y := (⟨"java/lang/StringUTF16", "getChar", "([BI)C"⟩ : MethodName)) hown (mvT hZ (ow hw 102 rfl)) (mvT hZ (ow hw 103 rfl)) (mvT hZ (ow hw 81 rfl)) (mvT hZ (ow hw 104 rfl)) (by decide) (backOf (W := 0) (rmG l Z a0 hw [] a1 k1 ds i hq n0 O S_ad S_hi S_lo V_a1 (by omega) hRd) hZ (ow hw 104 rfl) (ow hw 81 rfl) (by decide) (by decide)) (g := (mkF m 19 #[rv a1, iv (Int32.ofNat i), rv a2, iv (Int32.ofNat i), iv (Int32.ofNat cs.length), iv (Int32.ofNat i), iv x_s6] [.int (Int32.ofNat i), .ref a1])) rfl (by rw [hml]; rfl) (argsL := [(.ref a1), (.int (Int32.ofNat i))]) (rest := []) (lenOf pd_5 rfl) rfl (by show 2 * 0 + _ ≤ _; exact Nat.le_of_eq rfl) (hb hby d38_19) (fun _ _ => ⟨rfl, eq_, (by decide : 0 + 0 ≤ _), (by decide : 0 + 0 ≤ _)⟩)
        dsimp only [Pt.U, Pt.locs, Pt.cells, Pt.slots] at X5 lq5 yq5 zq5 st5 hQ5
        subst lq5 yq5 zq5
        obtain ⟨rfl, rfl, e5⟩ := hQ5
        try rw [List.append_nil] at X5
        refine gb st5 ?_
        show G T5 (mkF m 22 #[rv a1, iv (Int32.ofNat i), rv a2, iv (Int32.ofNat i), iv (Int32.ofNat cs.length), iv (Int32.ofNat i), iv x_s6] [.int (ds.getD i 0)])
        rw [own_pg hpre (show i < cs.length by omega)]
        show G T5 (mkF m 22 #[rv a1, iv (Int32.ofNat i), rv a2, iv (Int32.ofNat i), iv (Int32.ofNat cs.length), iv (Int32.ofNat i), iv x_s6] [.int (cs.getD i 0)])
        refine gb (fun _ k => XS.istore X5.here hx rfl (hb hby d38_22) rfl (l' := #[rv a1, iv (Int32.ofNat i), rv a2, iv (Int32.ofNat i), iv (Int32.ofNat cs.length), iv (Int32.ofNat i), iv (cs.getD i 0)]) rfl (XS.iload X5.here hx rfl (hb hby d38_24) rfl (XS.sipush X5.here hx rfl (hb hby d38_26) k))) ?_
        show G T5 (mkF m 29 #[rv a1, iv (Int32.ofNat i), rv a2, iv (Int32.ofNat i), iv (Int32.ofNat cs.length), iv (Int32.ofNat i), iv (cs.getD i 0)] [.int 255, .int (cs.getD i 0)])
        by_cases hc29 : (255 : Int32) < (cs.getD i 0)
        · skip
          refine gb (fun _ k => XS.icmpNo X5.here hx rfl (hb hby d38_29) rfl (tlt hc29).2.2.2 (XS.iload X5.here hx rfl (hb hby d38_32) rfl k)) ?_
          show G T5 (mkF m 34 #[rv a1, iv (Int32.ofNat i), rv a2, iv (Int32.ofNat i), iv (Int32.ofNat cs.length), iv (Int32.ofNat i), iv (cs.getD i 0)] [.int (Int32.ofNat i)])
          exact go X5 (v := (some (.int (Int32.ofNat i)))) (fun h => by rw [Bd.returns] at h; cases h) (fun fs hr => retOut X5 hx Bd.returns rfl (Or.inl ⟨rfl, by simp, _, rfl⟩) (hb hby d38_34) hr) (by rw [e5]; have q := own_kk_at cs i (by omega) hp hc29; rw [Q_rmC2b, q]; exact ⟨rfl, N, K, V_a2⟩) (by decide) (by decide)
        · skip
          refine gb (fun _ k => XS.icmpYes X5.here hx rfl (pc0 := 29) (pc' := 35) rfl (hb hby d38_29) rfl (flt hc29).2.2.2 (by decide) (by decide) (XS.aloadN X5.here hx rfl (hb hby d38_35) rfl rfl (XS.iloadN X5.here hx rfl (hb hby d38_36) rfl (XS.iload X5.here hx rfl (hb hby d38_37) rfl (XS.i2b X5.here hx rfl (hb hby d38_39) rfl k))))) ?_
          show G T5 (mkF m 40 #[rv a1, iv (Int32.ofNat i), rv a2, iv (Int32.ofNat i), iv (Int32.ofNat cs.length), iv (Int32.ofNat i), iv (cs.getD i 0)] [.int ((cs.getD i 0).toInt8.toInt32), .int (Int32.ofNat i), .ref a2])
          have V'6 := V_a2
          obtain ⟨cl6, Ar6, qk6, sz6, nn6, hs6, ft6⟩ := V'6
          have hin6 : ¬ ((Int32.ofNat i) < 0 ∨ cl6.slots.size ≤ ((Int32.ofNat i)).toNatClampNeg) := inb_of sz6 (own_in (i := i) (n := cs.length) (by omega) (by omega))
          obtain ⟨T7, h7, X7, e7, W7, st7⟩ := stB X5 hx hZ e5 Ar6 (j := (Int32.ofNat i)) hin6 (g := (mkF m 40 #[rv a1, iv (Int32.ofNat i), rv a2, iv (Int32.ofNat i), iv (Int32.ofNat cs.length), iv (Int32.ofNat i), iv (cs.getD i 0)] [.int ((cs.getD i 0).toInt8.toInt32), .int (Int32.ofNat i), .ref a2])) rfl rfl (hb hby d38_40)
          have V_a2 : Arv Z h7 a2 k2 .byte (Int32.ofNat cs.length) (((cs.take i).map own_lb ++ [own_lb (cs.getD i 0)]).map Value.int) (.int (0 : Int32)) := own_snoc V_a2 (fits_nar_byte _) W7 (by rw [own_tn (n := i) (by omega), List.length_map, List.length_take]; omega)
          have V_a1 := V_a1.other W7 ne_a1_a2
          have O := O.wr W7 g_a2
          have K := K.wr W7 (Or.inl (List.mem_of_getElem? (i := 0) rfl))
          have N := Fr.snoc X7 N g_a2
          refine gb st7 ?_
          show G T7 (mkF m 41 #[rv a1, iv (Int32.ofNat i), rv a2, iv (Int32.ofNat i), iv (Int32.ofNat cs.length), iv (Int32.ofNat i), iv (cs.getD i 0)] [])
          refine gb (fun _ k => XS.iinc X7.here hx rfl (hb hby d38_41) rfl (l' := #[rv a1, iv ((Int32.ofNat i) + (1 : Int32)), rv a2, iv (Int32.ofNat i), iv (Int32.ofNat cs.length), iv (Int32.ofNat i), iv (cs.getD i 0)]) rfl (XS.iinc X7.here hx rfl (hb hby d38_44) rfl (l' := #[rv a1, iv ((Int32.ofNat i) + (1 : Int32)), rv a2, iv ((Int32.ofNat i) + (1 : Int32)), iv (Int32.ofNat cs.length), iv (Int32.ofNat i), iv (cs.getD i 0)]) rfl (XS.iinc X7.here hx rfl (hb hby d38_47) rfl (l' := #[rv a1, iv ((Int32.ofNat i) + (1 : Int32)), rv a2, iv ((Int32.ofNat i) + (1 : Int32)), iv (Int32.ofNat cs.length), iv ((Int32.ofNat i) + (1 : Int32)), iv (cs.getD i 0)]) rfl k))) ?_
          show G T7 (mkF m 50 #[rv a1, iv ((Int32.ofNat i) + (1 : Int32)), rv a2, iv ((Int32.ofNat i) + (1 : Int32)), iv (Int32.ofNat cs.length), iv ((Int32.ofNat i) + (1 : Int32)), iv (cs.getD i 0)] [])
          rw [own_succ32]
          rw [own_l1 (by omega)] at V_a2
          show G T7 (mkF m 50 #[rv a1, iv (Int32.ofNat (i + 1)), rv a2, iv (Int32.ofNat (i + 1)), iv (Int32.ofNat cs.length), iv (Int32.ofNat (i + 1)), iv (cs.getD i 0)] [])
          refine gb (fun _ k => XS.goto X7.here hx rfl (pc0 := 50) (pc' := 10) rfl (hb hby d38_50) (by decide) (by decide) k) ?_
          show G T7 (mkF m 10 #[rv a1, iv (Int32.ofNat (i + 1)), rv a2, iv (Int32.ofNat (i + 1)), iv (Int32.ofNat cs.length), iv (Int32.ofNat (i + 1)), iv (cs.getD i 0)] [])
          exact ih (i + 1) _ _ _ X7 N e7 O K V_a1 V_a2 (.val (.int (cs.getD i 0))) (Or.inr ⟨_, rfl⟩) (by omega) (fun j hj => by rcases Nat.lt_succ_iff_lt_or_eq.mp hj with z | z; exact hp j z; rw [z]; exact hc29)
  exact LP cs.length 0 _ _ _ X1 N e1 O K V_a1 V_a2 .unset (Or.inl rfl) (Nat.zero_add _) (fun j hj => absurd hj (Nat.not_lt_zero _))
def Q_rmC1b (Z : State) (a1 : Addr) (k1 : ClassId) (cs ds : List Int32) (h0 : Heap) (n0 : Nat) (sf : Value) : Option Value → Heap → List Loc → Prop := fun v h L => ∃ (b : Addr) (kb : ClassId), v = some (.ref b) ∧ Fr n0 L ∧ Keep h0 h [] ∧ n0 ≤ b ∧ h0.size ≤ b ∧ Arv Z h b kb .byte (Int32.ofNat (own_enc cs).length) ((own_enc cs).map Value.int) (.int (0 : Int32))
set_option maxRecDepth 65536 in
set_option maxHeartbeats 40000000 in
theorem rmC1b (l : Launch) (Z : State) (a0 : Array Value) (hw : ∀ d ∈ tables_1, d.before a0 Z = true) (ws : List Jvm.Cond) (a1 : Addr) (k1 : ClassId) (cs ds : List Int32) (h0 : Heap) (n0 : Nat) (O : Old Z n0 h0) (S_ad : Sta Z Z.heap "java/lang/StringUTF16" "$assertionsDisabled" "Z" (.int (1 : Int32))) (S_hi : Sta Z Z.heap "java/lang/StringUTF16" "HI_BYTE_SHIFT" "I" (.int (0 : Int32))) (S_lo : Sta Z Z.heap "java/lang/StringUTF16" "LO_BYTE_SHIFT" "I" (.int (8 : Int32))) (sf : Value) (hr_sf : sf.isRef = true) (S_sf : Sta Z Z.heap "jdk/internal/util/Preconditions" "SIOOBE_FORMATTER" "Ljava/util/function/BiFunction;" sf) (V_a1 : Arv Z h0 a1 k1 .byte (Int32.ofNat (2 * ds.length)) ((own_u ds).map Value.int) (.int (0 : Int32))) (hpre : cs = ds.take cs.length) (hlt : cs.length < ds.length) (hRd : own_R ds) (hR : own_R cs) :
    MetFree l (⟨"java/lang/StringUTF16", "compress", "([BII)[B"⟩ : MethodName) (head1 (Jvm.Cond.code (⟨"java/lang/StringUTF16", "compress", "([BII)[B"⟩ : MethodName) jdk_52_method_17_code 6 (some (.array .byte)) :: ws) ({ frames := 4, cells := 2, slots := 18, locals := 70 } : Room)) (fun a U => a = #[(.ref a1), (.int (0 : Int32)), (.int (Int32.ofNat cs.length))] ∧ Z.Warmed39 U.vm ∧ U.heap = h0) (fun _ _ _ _ _ => True) (fun _ U o U' => ∃ v L, o = .returned v ∧ (Q_rmC1b Z a1 k1 cs ds h0 n0 sf) v U'.heap L ∧ FrameEnd U o U' L ({ frames := 4, cells := 2, slots := 18, locals := 70 } : Room).cells ({ frames := 4, cells := 2, slots := 18, locals := 70 } : Room).slots) := by
  refine MetFree.of_bodySF (plainFor_of_name pn_0) hisR ?_
  intro p e s m args below meth c s₁ Bd hml0 hP hK
  obtain ⟨rfl, hZ, hh⟩ := hP
  have hx := Bd.exec
  have hby := Bd.bytes
  have hml : c.maxLocals = 6 := hml0
  have hown : s.vm.findClass "java/lang/StringUTF16" = some m.cls := findClass_of_methodNamed Bd.named
  have hnm := (name_of_methodNamed Bd.named Bd.method).1
  have hlk := BodyLoose.notSynchronized Bd
  have X0 : Stand p l e ({ frames := 4, cells := 2, slots := 18, locals := 70 } : Room) s m #[(.ref a1), (.int (0 : Int32)), (.int (Int32.ofNat cs.length))] below meth c s₁ [] 0 0 := Stand.of_body Bd
  have e0 : s₁.heap = h0 := by rw [← hh, Bd.state]; rfl
  have N := Fr.nil n0
  have K := Keep.refl h0 []
  obtain ⟨G, hG⟩ : ∃ G : State → JFrame → Prop, G = OwnG p e below s ({ frames := 4, cells := 2, slots := 18, locals := 70 } : Room).cells ({ frames := 4, cells := 2, slots := 18, locals := 70 } : Room).slots (Q_rmC1b Z a1 k1 cs ds h0 n0 sf) := ⟨_, rfl⟩
  have gb : ∀ {T T' : State} {g g' : JFrame}, (∀ t, Steps p.tables e below (T'.setTop g') t → Steps p.tables e below (T.setTop g) t) → G T' g' → G T g := by subst hG; exact fun k h => own_by k h
  have go : ∀ {T : State} {locs : List Loc} {cells slots : Nat} {g : JFrame} {v : Option Value}, Stand p l e ({ frames := 4, cells := 2, slots := 18, locals := 70 } : Room) s m #[(.ref a1), (.int (0 : Int32)), (.int (Int32.ofNat cs.length))] below meth c T locs cells slots → (meth.sig.returnType = none → v = none) → (∀ fs, (∀ (f : JFrame) (acts : List Action), f.method = m → f.locked = none → f.entered = [] → (doReturn e (T.setTop f) acts v).1 = T.setFrames fs) → Steps p.tables e below (T.setTop g) (T.setFrames fs)) → (Q_rmC1b Z a1 k1 cs ds h0 n0 sf) v T.heap locs → cells ≤ ({ frames := 4, cells := 2, slots := 18, locals := 70 } : Room).cells → slots ≤ ({ frames := 4, cells := 2, slots := 18, locals := 70 } : Room).slots → G T g := by subst hG; exact fun X h1 h2 h3 h4 h5 => own_out X hlk h1 h2 h3 h4 h5
  show OwnG p e below s ({ frames := 4, cells := 2, slots := 18, locals := 70 } : Room).cells ({ frames := 4, cells := 2, slots := 18, locals := 70 } : Room).slots (Q_rmC1b Z a1 k1 cs ds h0 n0 sf) s₁ (entryFrame m #[(.ref a1), (.int (0 : Int32)), (.int (Int32.ofNat cs.length))] 6)
  rw [← hG, ef_rmC1b m a1 (0 : Int32) (Int32.ofNat cs.length)]
  clear hG
  show G s₁ (mkF m 0 #[.val (.ref a1), .val (.int (0 : Int32)), .val (.int (Int32.ofNat cs.length)), .unset, .unset, .unset] [])
  have hr6 := hR.1
  have hr7 := hRd.1
  have hkl := own_kk_le cs
  refine gb (fun _ k => XS.iloadN X0.here hx rfl (hb hby d37_0) rfl k) ?_
  show G s₁ (mkF m 1 #[rv a1, iv 0, iv (Int32.ofNat cs.length), .unset, .unset, .unset] [.int (Int32.ofNat cs.length)])
  obtain ⟨T1, h1, kA1, X1, e1, E1, A1, st1⟩ := newP X0 hx hZ (ow hw 19 rfl) e0 (g := (mkF m 1 #[rv a1, iv 0, iv (Int32.ofNat cs.length), .unset, .unset, .unset] [.int (Int32.ofNat cs.length)])) rfl (hb hby d37_1) rfl (own_nn (by omega)) (cap := 6) (own_cap hr6 (by decide)) (by decide) (by decide) (by decide)
  obtain ⟨b1, g1⟩ : ∃ z, z = h0.size := ⟨_, rfl⟩
  rw [← g1] at A1 st1
  have g_b1 : n0 ≤ b1 := Nat.le_trans (by have := O.2.1; rw [O.1] at this; exact this) (Nat.le_of_eq g1.symm)
  have sz_b1 : h0.size ≤ b1 := Nat.le_trans K.1 (Nat.le_of_eq g1.symm)
  have ne_a1_b1 : a1 ≠ b1 := Nat.ne_of_lt (Nat.lt_of_lt_of_le V_a1.lt (Nat.le_of_eq g1.symm))
  have V_a1 := V_a1.ext E1
  have O := O.ext E1
  have K := K.ext E1
  have V_b1 : Arv Z h1 b1 kA1 .byte (Int32.ofNat cs.length) [] (.int (0 : Int32)) := Arv.new A1 (own_nn (by omega))
  refine gb st1 ?_
  show G T1 (mkF m 3 #[rv a1, iv 0, iv (Int32.ofNat cs.length), .unset, .unset, .unset] [.ref b1])
  refine gb (fun _ k => XS.astoreN X1.here hx rfl (hb hby d37_3) rfl rfl (l' := #[rv a1, iv 0, iv (Int32.ofNat cs.length), rv b1, .unset, .unset]) rfl (XS.aloadN X1.here hx rfl (hb hby d37_4) rfl rfl (XS.iloadN X1.here hx rfl (hb hby d37_5) rfl (XS.aloadN X1.here hx rfl (hb hby d37_6) rfl rfl (XS.iconst X1.here hx rfl (hb hby d37_7) (XS.iloadN X1.here hx rfl (hb hby d37_8) rfl k)))))) ?_
  show G T1 (mkF m 9 #[rv a1, iv 0, iv (Int32.ofNat cs.length), rv b1, .unset, .unset] [.int (Int32.ofNat cs.length), .int 0, .ref b1, .int 0, .ref a1])
  obtain ⟨_, _, ⟨T2, Lz2, kz2, nz2⟩, -, X2, ⟨Lc2, hQ2, lq2, yq2, zq2⟩, st2⟩ := Jvm.LawKit.callS X1 hx (y := (⟨"java/lang/StringUTF16", "compress", "([BI[BII)I"⟩ : MethodName)) hown (mvT hZ (ow hw 162 rfl)) (mvT hZ (ow hw 163 rfl)) (mvT hZ (ow hw 81 rfl)) (mvT hZ (ow hw 164 rfl)) (by decide) (backOf (W := 0) (rmC2b l Z a0 hw [] a1 b1 k1 kA1 cs ds h1 n0 O S_ad S_hi S_lo sf hr_sf S_sf V_a1 V_b1 g_b1 ne_a1_b1 hpre hlt hRd hR) hZ (ow hw 164 rfl) (ow hw 81 rfl) (by decide) (by decide)) (g := (mkF m 9 #[rv a1, iv 0, iv (Int32.ofNat cs.length), rv b1, .unset, .unset] [.int (Int32.ofNat cs.length), .int 0, .ref b1, .int 0, .ref a1])) rfl (by rw [hml]; rfl) (argsL := [(.ref a1), (.int (0 : Int32)), (.ref b1), (.int (0 : Int32)), (.int (Int32.ofNat cs.length))]) (rest := []) (lenOf pd_22 rfl) rfl (by show 2 * 0 + _ ≤ _; exact Nat.le_of_eq rfl) (hb hby d37_9) (fun _ _ => ⟨rfl, e1, (by decide : 1 + 0 ≤ _), (by decide : 6 + 0 ≤ _)⟩)
  dsimp only [Pt.U, Pt.locs, Pt.cells, Pt.slots] at X2 lq2 yq2 zq2 st2 hQ2
  subst lq2 yq2 zq2
  obtain ⟨h2, e2⟩ : ∃ z, z = T2.heap := ⟨_, rfl⟩
  rw [← e2] at hQ2
  replace e2 := e2.symm
  obtain ⟨rfl, Nq2, Kq2, hR2⟩ := hQ2
  have N := Fr.app N Nq2
  have V_a1 := V_a1.keep Kq2 (ninS ne_a1_b1 nin0)
  have V_b1 := hR2
  have O := O.keep Kq2 (allS g_b1 all0)
  have K := K.trans Kq2 (allS (Or.inr sz_b1) all0)
  refine gb st2 ?_
  show G T2 (mkF m 12 #[rv a1, iv 0, iv (Int32.ofNat cs.length), rv b1, .unset, .unset] [.int (Int32.ofNat (own_kk cs))])
  refine gb (fun _ k => XS.istore X2.here hx rfl (hb hby d37_12) rfl (l' := #[rv a1, iv 0, iv (Int32.ofNat cs.length), rv b1, iv (Int32.ofNat (own_kk cs)), .unset]) rfl k) ?_
  show G T2 (mkF m 14 #[rv a1, iv 0, iv (Int32.ofNat cs.length), rv b1, iv (Int32.ofNat (own_kk cs)), .unset] [])
  by_cases hL : own_kk cs = cs.length
  · skip
    refine gb (fun _ k => XS.iload X2.here hx rfl (hb hby d37_14) rfl (XS.iloadN X2.here hx rfl (hb hby d37_16) rfl (XS.icmpYes X2.here hx rfl (pc0 := 17) (pc' := 64) rfl (hb hby d37_17) rfl (teq (by rw [hL])).1 (by decide) (by decide) (XS.aloadN X2.here hx rfl (hb hby d37_64) rfl rfl k)))) ?_
    show G T2 (mkF m 65 #[rv a1, iv 0, iv (Int32.ofNat cs.length), rv b1, iv (Int32.ofNat (own_kk cs)), .unset] [.ref b1])
    exact go X2 (v := (some (.ref b1))) (fun h => by rw [Bd.returns] at h; cases h) (fun fs hr => retOut X2 hx Bd.returns rfl (Or.inr (Or.inr (Or.inr (Or.inr ⟨rfl, rfl, rfl⟩)))) (hb hby d37_65) hr) (by rw [e2]; exact ⟨_, _, rfl, N, K, g_b1, sz_b1, own_evL hL V_b1⟩) (by decide) (by decide)
  · skip
    refine gb (fun _ k => XS.iload X2.here hx rfl (hb hby d37_14) rfl (XS.iloadN X2.here hx rfl (hb hby d37_16) rfl (XS.icmpNo X2.here hx rfl (hb hby d37_17) rfl (feq (fun q => hL (own_inj (by omega) (by omega) q))).1 (XS.aloadN X2.here hx rfl (hb hby d37_20) rfl rfl (XS.iloadN X2.here hx rfl (hb hby d37_21) rfl (XS.iconst X2.here hx rfl (hb hby d37_22) k)))))) ?_
    show G T2 (mkF m 23 #[rv a1, iv 0, iv (Int32.ofNat cs.length), rv b1, iv (Int32.ofNat (own_kk cs)), .unset] [.int 1, .int 0, .ref a1])
    refine gb (fun _ k => XS.ishl X2.here hx rfl (hb hby d37_23) rfl (XS.iloadN X2.here hx rfl (hb hby d37_24) rfl (XS.iloadN X2.here hx rfl (hb hby d37_25) rfl (XS.iadd X2.here hx rfl (hb hby d37_26) rfl k)))) ?_
    show G T2 (mkF m 27 #[rv a1, iv 0, iv (Int32.ofNat cs.length), rv b1, iv (Int32.ofNat (own_kk cs)), .unset] [.int ((0 : Int32) + (Int32.ofNat cs.length)), .int 0, .ref a1])
    rw [own_0add]
    show G T2 (mkF m 27 #[rv a1, iv 0, iv (Int32.ofNat cs.length), rv b1, iv (Int32.ofNat (own_kk cs)), .unset] [.int (Int32.ofNat cs.length), .int 0, .ref a1])
    obtain ⟨_, _, ⟨T3, Lz3, kz3, nz3⟩, -, X3, ⟨Lc3, hQ3, lq3, yq3, zq3⟩, st3⟩ := Jvm.LawKit.callS X2 hx (y := (⟨"java/lang/StringUTF16", "newBytesLength", "(I)I"⟩ : MethodName)) hown (mvT hZ (ow hw 92 rfl)) (mvT hZ (ow hw 93 rfl)) (mvT hZ (ow hw 81 rfl)) (mvT hZ (ow hw 94 rfl)) (by decide) (backOf (W := 2) (rmNL l Z a0 hw [] cs.length h2 n0 O hr6) hZ (ow hw 94 rfl) (ow hw 81 rfl) (by decide) (by decide)) (g := (mkF m 27 #[rv a1, iv 0, iv (Int32.ofNat cs.length), rv b1, iv (Int32.ofNat (own_kk cs)), .unset] [.int (Int32.ofNat cs.length), .int 0, .ref a1])) rfl (by rw [hml]; rfl) (argsL := [(.int (Int32.ofNat cs.length))]) (rest := [(.int (0 : Int32)), (.ref a1)]) (lenOf pd_0 rfl) rfl (by show 2 * 0 + _ ≤ _; exact Nat.le_of_eq rfl) (hb hby d37_27) (fun _ _ => ⟨rfl, e2, (by decide : 1 + 0 ≤ _), (by decide : 6 + 0 ≤ _)⟩)
    dsimp only [Pt.U, Pt.locs, Pt.cells, Pt.slots] at X3 lq3 yq3 zq3 st3 hQ3
    subst lq3 yq3 zq3
    obtain ⟨rfl, rfl, e3⟩ := hQ3
    try rw [List.append_nil] at X3
    refine gb st3 ?_
    show G T3 (mkF m 30 #[rv a1, iv 0, iv (Int32.ofNat cs.length), rv b1, iv (Int32.ofNat (own_kk cs)), .unset] [.int (Int32.ofNat (2 * cs.length)), .int 0, .ref a1])
    have lt_a1 := V_a1.lt
    have lt_b1 := V_b1.lt
    have szK := K.1
    obtain ⟨_, _, ⟨T4, Lz4, kz4, nz4⟩, -, X4, ⟨Lc4, hQ4, lq4, yq4, zq4⟩, st4⟩ := Jvm.LawKit.callS X3 hx (y := (⟨"java/util/Arrays", "copyOfRange", "([BII)[B"⟩ : MethodName)) hown (mvT hZ (ow hw 177 rfl)) (mvT hZ (ow hw 178 rfl)) (mvT hZ (ow hw 179 rfl)) (mvT hZ (ow hw 180 rfl)) (by decide) (backOf (W := 0) (rmCR l Z a0 hw [] a1 k1 (own_u ds) (2 * ds.length) (2 * cs.length) h2 n0 O V_a1 (own_u_len ds) (by omega) (by omega)) hZ (ow hw 180 rfl) (ow hw 179 rfl) (by decide) (by decide)) (g := (mkF m 30 #[rv a1, iv 0, iv (Int32.ofNat cs.length), rv b1, iv (Int32.ofNat (own_kk cs)), .unset] [.int (Int32.ofNat (2 * cs.length)), .int 0, .ref a1])) rfl (by rw [hml]; rfl) (argsL := [(.ref a1), (.int (0 : Int32)), (.int (Int32.ofNat (2 * cs.length)))]) (rest := []) (lenOf pd_20 rfl) rfl (by show 2 * 0 + _ ≤ _; exact Nat.le_of_eq rfl) (hb hby d37_30) (fun _ _ => ⟨rfl, e3, (by decide : 1 + 1 ≤ _), (by decide : 6 + 12 ≤ _)⟩)
    dsimp only [Pt.U, Pt.locs, Pt.cells, Pt.slots] at X4 lq4 yq4 zq4 st4 hQ4
    subst lq4 yq4 zq4
    obtain ⟨h4, e4⟩ : ∃ z, z = T4.heap := ⟨_, rfl⟩
    rw [← e4] at hQ4
    replace e4 := e4.symm
    obtain ⟨b4, kb4, rfl, Nq4, Kq4, hR4⟩ := hQ4
    have N := Fr.app N Nq4
    have V_a1 := V_a1.keep Kq4 nin0
    have V_b1 := V_b1.keep Kq4 nin0
    obtain ⟨g_b4, sz_b4, V_b4⟩ := hR4
    have O := O.keep Kq4 all0
    have K := K.trans Kq4 all0
    have ne_a1_b4 : a1 ≠ b4 := Nat.ne_of_lt (Nat.lt_of_lt_of_le lt_a1 sz_b4)
    have ne_b1_b4 : b1 ≠ b4 := Nat.ne_of_lt (Nat.lt_of_lt_of_le lt_b1 sz_b4)
    have sz_b4 := Nat.le_trans szK sz_b4
    rw [own_ut hpre] at V_b4
    refine gb st4 ?_
    show G T4 (mkF m 33 #[rv a1, iv 0, iv (Int32.ofNat cs.length), rv b1, iv (Int32.ofNat (own_kk cs)), .unset] [.ref b4])
    refine gb (fun _ k => XS.astore X4.here hx rfl (hb hby d37_33) rfl rfl (l' := #[rv a1, iv 0, iv (Int32.ofNat cs.length), rv b1, iv (Int32.ofNat (own_kk cs)), rv b4]) rfl (XS.aload X4.here hx rfl (hb hby d37_35) rfl rfl (XS.iload X4.here hx rfl (hb hby d37_37) rfl k))) ?_
    show G T4 (mkF m 39 #[rv a1, iv 0, iv (Int32.ofNat cs.length), rv b1, iv (Int32.ofNat (own_kk cs)), rv b4] [.int (Int32.ofNat (own_kk cs)), .ref b4])
    obtain ⟨_, _, ⟨T5, Lz5, kz5, nz5⟩, -, X5, ⟨Lc5, hQ5, lq5, yq5, zq5⟩, st5⟩ := Jvm.LawKit.callS X4 hx (y := (⟨"java/lang/StringUTF16", "getChar", "([BI)C"⟩ : MethodName)) hown (mvT hZ (ow hw 102 rfl)) (mvT hZ (ow hw 103 rfl)) (mvT hZ (ow hw 81 rfl)) (mvT hZ (ow hw 104 rfl)) (by decide) (backOf (W := 0) (rmG l Z a0 hw [] b4 kb4 cs (own_kk cs) h4 n0 O S_ad S_hi S_lo V_b4 (own_kk_hi cs hL).1 hR) hZ (ow hw 104 rfl) (ow hw 81 rfl) (by decide) (by decide)) (g := (mkF m 39 #[rv a1, iv 0, iv (Int32.ofNat cs.length), rv b1, iv (Int32.ofNat (own_kk cs)), rv b4] [.int (Int32.ofNat (own_kk cs)), .ref b4])) rfl (by rw [hml]; rfl) (argsL := [(.ref b4), (.int (Int32.ofNat (own_kk cs)))]) (rest := []) (lenOf pd_5 rfl) rfl (by show 2 * 0 + _ ≤ _; exact Nat.le_of_eq rfl) (hb hby d37_39) (fun _ _ => ⟨rfl, e4, (by decide : 2 + 0 ≤ _), (by decide : 18 + 0 ≤ _)⟩)
    dsimp only [Pt.U, Pt.locs, Pt.cells, Pt.slots] at X5 lq5 yq5 zq5 st5 hQ5
    subst lq5 yq5 zq5
    obtain ⟨rfl, rfl, e5⟩ := hQ5
    try rw [List.append_nil] at X5
    refine gb st5 ?_
    show G T5 (mkF m 42 #[rv a1, iv 0, iv (Int32.ofNat cs.length), rv b1, iv (Int32.ofNat (own_kk cs)), rv b4] [.int (cs.getD (own_kk cs) 0)])
    refine gb (fun _ k => XS.sipush X5.here hx rfl (hb hby d37_42) (XS.icmpYes X5.here hx rfl (pc0 := 45) (pc' := 61) rfl (hb hby d37_45) rfl (tlt (own_kk_hi cs hL).2).2.2.1 (by decide) (by decide) (XS.aload X5.here hx rfl (hb hby d37_61) rfl rfl k))) ?_
    show G T5 (mkF m 63 #[rv a1, iv 0, iv (Int32.ofNat cs.length), rv b1, iv (Int32.ofNat (own_kk cs)), rv b4] [.ref b4])
    exact go X5 (v := (some (.ref b4))) (fun h => by rw [Bd.returns] at h; cases h) (fun fs hr => retOut X5 hx Bd.returns rfl (Or.inr (Or.inr (Or.inr (Or.inr ⟨rfl, rfl, rfl⟩)))) (hb hby d37_63) hr) (by rw [e5]; exact ⟨_, _, rfl, N, K, g_b4, sz_b4, own_evU hL V_b4⟩) (by decide) (by decide)
section OwnLdcW
open Jvm.Free.SB Jvm.Free.SBG
variable {p : Program} {l : Launch} {e : Env} {R : Room} {s : State} {m : MethodId} {args : Array Value} {below : List Frame} {meth : Method} {c : Code} {T : State} {locs : List Loc} {cells slots : Nat} {Z : State} {a0 : Array Value} {EL : List (String × Nat)} {h : Heap} {vm0 : Vm} {own : String} {index : Nat}
set_option maxHeartbeats 8000000 in
/-- 'ldc_w' of the empty text, and what is pushed: an older String (nothing is booked), or one that this step makes -/
theorem own_ldcNW (X : Stand p l e R s m args below meth c T locs cells slots) (hx : p.tables.exec = Jvm.exec) (hown : s.vm.findClass own = some m.cls) (hlink : (Cond.stringLink own index "").before args s = true) (hA : ∀ a ∈ Bundle.stringAtoms, a.before args s = true)
    {g : JFrame} (hg : g.method = m) (hd : decode c.code g.pc = .ok (.ldc_w index, 3)) (hc : cells + 2 ≤ R.cells) (hl : slots + 4 ≤ R.slots) :
    ∃ (a : Addr) (T' : State), Stand p l e R (s.setVm T'.vm) m args below meth c T' locs (cells + 2) (slots + 4) ∧ s.Since T'.vm T'.heap.size ∧ (∃ k, T'.vm.classes[m.cls]? = some k ∧ k.resolved[index]? = some (some (.string a))) ∧ Ext T.heap T'.heap ∧ T.Warmed39 T'.vm ∧
      (T'.vm.interned = T.vm.interned ∨ ∃ u : Array UInt16, T'.vm.interned = T.vm.interned.push (u, a) ∧ T.vm.interned.find? (fun q => q.1 == u) = none ∧ (u.all (· < 256) = true → SlIn 0 T.heap.size T' a u)) ∧
      ∀ target, Steps p.tables e below (T'.setTop { g with pc := g.pc + 3, stack := .ref a :: g.stack }) target → Steps p.tables e below (T.setTop g) target := by
  obtain ⟨k, cf, i, us, hk, hcf, hpool, hutf, hnames, htext, hres⟩ := Cond.stringLink_spec hown hlink
  obtain ⟨k', hk', ek⟩ := X.warmed.alike.2.2 _ _ hk
  have hcf' : k'.cf = some cf := by rw [ek]; exact hcf
  have hz : (stringBytes us).size = 0 := Nat.le_zero.mp (text_bytes_le htext)
  subst hg
  have rows : ∀ {q : Class}, q.cf = some cf → q.cf.bind (namesOf? ·.constantPool index) = some (.string "") ∧ q.cf.bind (·.constantPool[index]?) = some (.string i) ∧ q.cf.bind (·.constantPool.utf8? i) = some us := fun hq => by
    rw [hq]; exact ⟨hnames, hpool, by simp [ConstantPool.utf8?, hutf]⟩
  obtain ⟨s1, s2, s3⟩ := rows hcf
  obtain ⟨t1, t2, t3⟩ := rows hcf'
  by_cases ho : ∃ a, k'.resolved[index]? = some (some (.string a))
  · obtain ⟨a, ha⟩ := ho
    refine ⟨a, T, (X.mono (by omega) (by omega)).retabled X.warmed.wide, X.warmed.since _, ⟨k', hk', ha⟩, ⟨Nat.le_refl _, fun _ _ q => q⟩, State.Warmed39.refl T, Or.inl rfl, fun t q => ?_⟩
    jvm_step X.here [hx, hd, ldc_w.wp_string (e := e) (s := T) (f := g) X.here.top hk' hcf' hpool ha]
    exact q
  · have hopen : k'.resolved[index]? = some none ∧ k.resolved[index]? = some none := by
      rcases X.warmed.wide.entry hk hk' index with q | ⟨-, r, q, hr | ⟨a, _, rfl, -⟩⟩
      · rcases hres with z | ⟨a, z⟩
        · exact ⟨q.trans z, z⟩
        · exact absurd ⟨a, q.trans z⟩ ho
      · exfalso
        cases r <;> simp [State.rightAt, hk, hcf, hnames] at hr
      · exact absurd ⟨a, q⟩ ho
    cases hf : T.vm.interned.find? (fun q => q.1 == us) with
    | some pr =>
      obtain ⟨u', a⟩ := pr
      obtain rfl : u' = us := by simpa using Array.find?_some hf
      have hW := X.warmed.wide.notedString hk (Or.inl hopen.2) s1 s2 s3 hf
      refine ⟨a, T.setVm (T.vm.noted g.method.cls index (.string a)), (X.mono (by omega) (by omega)).retabled hW, ⟨hW, State.Booked.step (T₂ := T.setVm (T.vm.noted g.method.cls index (.string a))) (X.warmed.no_new_pair _) X.same.2.1 ⟨Nat.le_refl _, Or.inl rfl⟩⟩, ⟨_, Vm.classes_note_self index (.string a) hk', Class.resolved_note_self (.string a) hopen.1⟩, ⟨Nat.le_refl _, fun _ _ q => q⟩, (State.Warmed39.refl T).notedString hk' (Or.inl hopen.1) t1 t2 t3 hf, Or.inl rfl, fun t q => ?_⟩
      jvm_step X.here [hx, hd, ldc_w.wp_string_found (e := e) (s := T) (f := g) X.here.top hk' hcf' hpool hutf hopen.1 hf]
      exact q
    | none =>
      obtain ⟨Zs, LZ, hn4, fitv, fitc⟩ := StringT.of_atoms (args := args) hA
      obtain ⟨kS, kB, LW, hty⟩ := LZ.warmer X.warmed.alike
      have hfs : T.fitsSlot = s.fitsSlot := (show T.fitsSlot = (s.setVm T.vm).fitsSlot from rfl).trans (State.fitsSlot_setVm X.warmed.alike)
      have hpush : ({ T.vm with interned := T.vm.interned.push (us, T.heap.size + 1) } : Vm).interned.find? (fun q => q.1 == us) = some (us, T.heap.size + 1) := by
        show (T.vm.interned.push (us, T.heap.size + 1)).find? _ = _
        rw [Array.find?_push, hf]; simp
      have hW := (X.warmed.wide.interns us (T.heap.size + 1)).notedString hk (Or.inl hopen.2) s1 s2 s3 hpush
      have hW2 := ((State.Warmed39.refl T).interns us (T.heap.size + 1)).notedString hk' (Or.inl hopen.1) t1 t2 t3 hpush
      have hheap : (withString T Zs.cB Zs.cS kS Zs.fv Zs.fc us).heap = (T.heap.push (bytesOf Zs.cB us)).push (stringAt Zs.cS kS Zs.fv Zs.fc us T.heap.size) := by rw [withString_eq]; rfl
      have b1 : (bytesOf Zs.cB us).slots.size = 0 := by rw [(Cell.writeAll_facts _ _).2.2]; simp [bytes0, hz]
      have b2 : (stringAt Zs.cS kS Zs.fv Zs.fc us T.heap.size).slots.size = 4 := by simp [string0, Cell.setSlot, hty, hn4]
      have X2 := (X.pushed (bytesOf Zs.cB us)).pushed (stringAt Zs.cS kS Zs.fv Zs.fc us T.heap.size)
      rw [← withString_eq] at X2
      have hsz : (withString T Zs.cB Zs.cS kS Zs.fv Zs.fc us).heap.size = T.heap.size + 2 := by rw [hheap]; simp [Array.size_push]
      have hc0 : (withString T Zs.cB Zs.cS kS Zs.fv Zs.fc us).heap[T.heap.size]? = some (bytesOf Zs.cB us) := by
        rw [hheap, Array.getElem?_push, if_neg (by rw [Array.size_push]; omega), Array.getElem?_push, if_pos rfl]
      have hc1 : (withString T Zs.cB Zs.cS kS Zs.fv Zs.fc us).heap[T.heap.size + 1]? = some (stringAt Zs.cS kS Zs.fv Zs.fc us T.heap.size) := by
        rw [hheap, Array.getElem?_push, if_pos (by rw [Array.size_push])]
      refine ⟨T.heap.size + 1, (withString T Zs.cB Zs.cS kS Zs.fv Zs.fc us).setVm (({ T.vm with interned := T.vm.interned.push (us, T.heap.size + 1) } : Vm).noted g.method.cls index (.string (T.heap.size + 1))), (X2.mono (by omega) (by rw [b1, b2]; omega)).retabled hW,
        ⟨hW, State.Booked.step (X.warmed.no_new_pair _) X.same.2.1 ⟨by show T.heap.size ≤ (withString T Zs.cB Zs.cS kS Zs.fv Zs.fc us).heap.size; omega, Or.inr ⟨us, T.heap.size + 1, rfl, by omega, by show T.heap.size + 1 < (withString T Zs.cB Zs.cS kS Zs.fv Zs.fc us).heap.size; omega⟩⟩⟩,
        ⟨_, Vm.classes_note_self (vm := { T.vm with interned := T.vm.interned.push (us, T.heap.size + 1) }) index (.string (T.heap.size + 1)) hk', Class.resolved_note_self (.string (T.heap.size + 1)) hopen.1⟩,
        ⟨by show T.heap.size ≤ (withString T Zs.cB Zs.cS kS Zs.fv Zs.fc us).heap.size; omega, fun y cy q => ?_⟩, hW2, Or.inr ⟨us, rfl, hf, fun hlat => made_sl (W := (withString T Zs.cB Zs.cS kS Zs.fv Zs.fc us).setVm (({ T.vm with interned := T.vm.interned.push (us, T.heap.size + 1) } : Vm).noted g.method.cls index (.string (T.heap.size + 1)))) hA LZ hn4 hty hW.alike hc0 hc1 hlat (by omega) 0⟩, fun t q => ?_⟩
      · show (withString T Zs.cB Zs.cS kS Zs.fv Zs.fc us).heap[y]? = some cy
        have hy := (Array.getElem?_eq_some_iff.mp q).1
        rw [hheap, Array.getElem?_push, if_neg (by rw [Array.size_push]; omega), Array.getElem?_push, if_neg (by omega)]; exact q
      · refine Steps.instr (c := _) (by simpa using X.here) ?_
        simp [jvm, wpRun, exec, X.here.top, hx, hd]
        refine ldc_w.wp_string_new (e := e) (s := T) (f := g) X.here.top hk' hcf' hpool hutf hopen.1 hf LW.found LW.cls LW.initialized LW.ordinary LW.foundB LW.clsB LW.kindB LW.value LW.coder (by omega) (by rw [hz]; omega) (X.cellsAbove hc) (by have q := X.slotsAbove hl; rw [hz, hty, hn4]; omega)
          (stringBytes_fit LW.clsB LW.kindB us) LW.valueSlot LW.coderSlot (by rw [hfs]; exact fitv _) (by rw [hfs]; exact fitc _) (fun d' acts' => ?_)
        intro acts''
        have w1 : (withString T Zs.cB Zs.cS kS Zs.fv Zs.fc us).topJava?.isSome := by simpa [withString] using X.here.top
        have w2 : ((withString T Zs.cB Zs.cS kS Zs.fv Zs.fc us).setVm (({ T.vm with interned := T.vm.interned.push (us, T.heap.size + 1) } : Vm).noted g.method.cls index (.string (T.heap.size + 1)))).topJava?.isSome := by simpa using w1
        simp [jvm, afterInstr, w1, w2]
        rw [State.modifyTopJava_setTop]
        exact q
/-- the cells of a booked empty text -/
theorem own_read (hW : Z.Warmed39 vm0) {q : SQ} {u : Array UInt16} (hu : u = #[]) (F : SlB (Wst Z vm0 h) q u) : ∃ kb : ClassId, Exa Z h q.sa "java/lang/String" ∧ Fld Z h q.sa "java/lang/String" "coder" "B" (.int 0) ∧ Fld Z h q.sa "java/lang/String" "value" "[B" (.ref q.sd) ∧ Arv Z h q.sd kb .byte 0 [] (.int 0) := by
  have hal : Z.vm.Alike vm0 := hW.alike
  obtain ⟨cS, ⟨⟨g1, g2, g3, ⟨cv, kv, iv, g4, g4'⟩, ⟨cc, kc, ic, g5, g5'⟩, g6, g7, g8, g9, g10, g11, g12, -⟩, hS, hcS⟩, ⟨kS, k1, -, k3⟩, -, hbyt⟩ := F
  have hS : vm0.findClass "java/lang/String" = some cS := hS
  have k1 : vm0.classes[cS]? = some kS := k1
  have hSZ : Z.vm.findClass "java/lang/String" = some q.sC.cls := by rw [← hal.findClass, hcS]; exact hS
  obtain ⟨kz, z1, -⟩ := Vm.findClass_spec hSZ
  obtain ⟨kz', z2, z3⟩ := hal.2.2 _ _ z1
  cases z2.symm.trans (hcS ▸ k1)
  obtain ⟨kv', y4⟩ := ff_back (U := Wst Z vm0 h) hal g4
  obtain ⟨kc', y5⟩ := ff_back (U := Wst Z vm0 h) hal g5
  have hA : Z.isArrayOf q.SA .byte := State.isArrayOf_alike (s := Wst Z vm0 h) hal.symm g11
  have hsz : q.SA.slots.size = 0 := by rw [hbyt, hu]; simp [stringBytes]
  refine ⟨q.SA.cls, ⟨q.sC, kz, g1, hSZ, z1, g3, fun _ => by rw [k3, z3]⟩, ⟨q.sC, cc, kc', ic, q.fSC, g1, y5, g7, g2, g3, by rw [← hal.assignable]; exact g5', g9⟩, ⟨q.sC, cv, kv', iv, q.fSV, g1, y4, g6, g2, g3, by rw [← hal.assignable]; exact g4', g8⟩,
    ⟨q.SA, ⟨g10, hA, g12⟩, rfl, hsz, by decide, fun j hj => absurd hj (by omega), fun j hj => absurd hj (by omega)⟩⟩
set_option maxHeartbeats 8000000 in
theorem own_ldcCHW (X : Stand p l e R (s.setVm vm0) m args below meth c T locs cells slots) (hx : p.tables.exec = Jvm.exec) (hZ : Z.Warmed39 vm0) (hown : vm0.findClass own = some m.cls) (w : (Cond.stringLink own index "").before a0 Z = true) (wS : ∀ a ∈ Bundle.stringAtoms, a.before a0 Z = true)
    (eT : T.heap = h) {k0 : Nat} (hS : s.Since vm0 k0) (hk : k0 ≤ h.size) (hEL : EW Z a0 EL) (hmem : (own, index) ∈ EL) (H : CHv Z EL vm0 h)
    {vs : List Value} {z : Int32} (ht : (∀ c ∈ "".toList, c.toNat < 256) ∧ "".toList.map (fun c => Value.int (Jvm.Lit.byteI c.toNat.toUInt16)) = vs) (hz : ¬ z < 0) (hl : z.toNatClampNeg = vs.length)
    {g : JFrame} (hg : g.method = m) (hd : decode c.code g.pc = .ok (.ldc_w index, 3)) {n : Nat} (hn : 4 * "".toList.length ≤ n) (hbig : n ≤ 536870912) (hc : cells + 2 ≤ R.cells) (hl' : slots + (n + 4) ≤ R.slots) :
    ∃ (a : Addr) (T' : State) (h' : Heap) (k1 : Nat) (b : Addr) (k : ClassId), Stand p l e R (s.setVm T'.vm) m args below meth c T' locs (cells + 2) (slots + (n + 4)) ∧ T'.heap = h' ∧ Ext h h' ∧ s.Since T'.vm k1 ∧ k1 ≤ h'.size ∧ Z.Warmed39 (s.setVm T'.vm).vm ∧ (s.setVm T'.vm).vm.findClass own = some m.cls ∧
      Exa Z h' a "java/lang/String" ∧ Fld Z h' a "java/lang/String" "coder" "B" (.int 0) ∧ Fld Z h' a "java/lang/String" "value" "[B" (.ref b) ∧ Arv Z h' b k .byte 0 [] (.int 0) ∧ True ∧ True ∧ CHr Z EL vm0 h T'.vm h' ∧ True ∧ (∀ x, Safe Z EL T'.vm h' x → x ≠ a ∧ x ≠ b) ∧
      ∀ target, Steps p.tables e below (T'.setTop { g with pc := g.pc + 3, stack := .ref a :: g.stack }) target → Steps p.tables e below (T.setTop g) target := by
  subst eT
  have hA : ∀ d ∈ Bundle.stringAtoms, d.before args (s.setVm vm0) = true := fun d hd => by
    have q := wS d hd
    simp only [Bundle.stringAtoms, List.mem_cons, List.not_mem_nil, or_false] at hd
    rcases hd with rfl | rfl | rfl | rfl | rfl | rfl | rfl <;> first | exact mvA (s := s.setVm vm0) hZ q | exact mv (s := s.setVm vm0) hZ q
  obtain ⟨a, T', X', hS', ⟨k, hkk, hrr⟩, E, hTW, hint, st⟩ := own_ldcNW X hx hown (mvS hZ w) hA hg hd hc (by omega)
  have hW : Z.Warmed39 T'.vm := State.Warmed39.trans (t := s.setVm vm0) hZ hS'.1
  have A := CHv.at X hZ hEL H
  have hZT : Z.Warmed39 T.vm := wtrans (s := s.setVm vm0) hZ X.warmed
  have B := CHv.later (vm := T.vm) (vm1 := T'.vm) hZT (show (Wst Z T.vm T.heap).Warmed39 T'.vm from hTW) hEL E (hint.imp id fun ⟨us, e1, e2, e3⟩ => ⟨us, a, e1, e2, fun hlat => by
    obtain ⟨q, cS, hq, r1, r2, r3, r4, r5⟩ := e3 hlat
    have F : SlB T' q us := ⟨cS, r1, r2, r3, r4⟩
    refine ⟨q, hq, F.carry (V := Wst Z T'.vm T'.heap) (Vm.Alike.refl _) F.ha F.hd, ?_⟩
    rcases r5 with ⟨y, -⟩ | y
    · exact absurd y (Nat.not_lt_zero _)
    · exact y⟩) A.1
  have hC : CHr Z EL vm0 T.heap T'.vm T'.heap := A.trans ⟨B.1, E.1, B.2⟩
  have hf : T'.vm.findClass own = some m.cls := by rw [hS'.1.alike.findClass]; exact hown
  obtain ⟨k2, cf, i, units, hk2, hcf, hp, hu, -, htext, -⟩ := Cond.stringLink_spec (args := a0) (s := Wst Z T'.vm T'.heap) hf (mvS (s := { Z with heap := T'.heap }) hW w)
  have hk2 : T'.vm.classes[m.cls]? = some k2 := hk2
  cases hkk.symm.trans hk2
  have hB : Booksv T'.vm own index units a := ⟨m.cls, k, cf, i, hf, hkk, hcf, hp, hu, Or.inl hrr⟩
  obtain ⟨q, rfl, F⟩ := SlB.of (hC.1 _ hmem units a hB)
  have hu0 : units = #[] := by
    have := Jvm.ClassFile.units_of_text htext ht.1
    apply Array.toList_inj.mp; rw [this]; rfl
  obtain ⟨kb, r1, r2, r3, r4⟩ := own_read hW hu0 F
  exact ⟨q.sa, T', _, _, q.sd, kb, X'.more (Nat.le_refl _) (by omega), rfl, E, hS.trans hS' (Nat.le_trans hk E.1), Nat.le_refl _, hW, hf, r1, r2, r3, r4, trivial, trivial, hC, trivial, fun x S => ⟨fun e1 => S ⟨_, hmem, units, _, hB, q, rfl, F, Or.inl e1⟩, fun e1 => S ⟨_, hmem, units, _, hB, q, rfl, F, Or.inr e1⟩⟩, st⟩
end OwnLdcW
def Q_rmIB (Z : State) (a1 a2 : Addr) (c0 : Int32) (h0 : Heap) (n0 : Nat) : Option Value → Heap → List Loc → Prop := fun v h L => v = none ∧ Fr n0 L ∧ Keep h0 h [a1] ∧ Exa Z h a1 "java/lang/String" ∧ Fld Z h a1 "java/lang/String" "coder" "B" (.int c0) ∧ Fld Z h a1 "java/lang/String" "value" "[B" (.ref a2)
set_option maxRecDepth 65536 in
set_option maxHeartbeats 40000000 in
theorem rmIB (l : Launch) (Z : State) (a0 : Array Value) (hw : ∀ d ∈ tables_1, d.before a0 Z = true) (ws : List Jvm.Cond) (a1 a2 : Addr) (c0 : Int32) (h0 : Heap) (n0 : Nat) (O : Old Z n0 h0) (E_a1 : Exa Z h0 a1 "java/lang/String") (F_coder_a1 : Fld Z h0 a1 "java/lang/String" "coder" "B" (.int (0 : Int32))) (F_value_a1 : Fld Z h0 a1 "java/lang/String" "value" "[B" .null) (g_a1 : n0 ≤ a1) (hcn : narrow .byte (.int c0) = .int c0) (hcf : fits .byte (.int c0) = true) :
    MetFree l (⟨"java/lang/String", "<init>", "([BB)V"⟩ : MethodName) (head1 (Jvm.Cond.code (⟨"java/lang/String", "<init>", "([BB)V"⟩ : MethodName) jdk_42_method_151_code 3 none :: ws) ({ frames := 1, cells := 0, slots := 0, locals := 12 } : Room)) (fun a U => a = #[(.ref a1), (.ref a2), (.int c0)] ∧ Z.Warmed39 U.vm ∧ U.heap = h0) (fun _ _ _ _ _ => True) (fun _ U o U' => ∃ v L, o = .returned v ∧ (Q_rmIB Z a1 a2 c0 h0 n0) v U'.heap L ∧ FrameEnd U o U' L ({ frames := 1, cells := 0, slots := 0, locals := 12 } : Room).cells ({ frames := 1, cells := 0, slots := 0, locals := 12 } : Room).slots) := by
  refine MetFree.of_bodySF (plainFor_of_name pn_1) hisR ?_
  intro p e s m args below meth c s₁ Bd hml0 hP hK
  obtain ⟨rfl, hZ, hh⟩ := hP
  have hx := Bd.exec
  have hby := Bd.bytes
  have hml : c.maxLocals = 3 := hml0
  have hown : s.vm.findClass "java/lang/String" = some m.cls := findClass_of_methodNamed Bd.named
  have hnm := (name_of_methodNamed Bd.named Bd.method).1
  have hlk := BodyLoose.notSynchronized Bd
  have X0 : Stand p l e ({ frames := 1, cells := 0, slots := 0, locals := 12 } : Room) s m #[(.ref a1), (.ref a2), (.int c0)] below meth c s₁ [] 0 0 := Stand.of_body Bd
  have e0 : s₁.heap = h0 := by rw [← hh, Bd.state]; rfl
  have N := Fr.nil n0
  have K := Keep.refl h0 [a1]
  obtain ⟨G, hG⟩ : ∃ G : State → JFrame → Prop, G = OwnG p e below s ({ frames := 1, cells := 0, slots := 0, locals := 12 } : Room).cells ({ frames := 1, cells := 0, slots := 0, locals := 12 } : Room).slots (Q_rmIB Z a1 a2 c0 h0 n0) := ⟨_, rfl⟩
  have gb : ∀ {T T' : State} {g g' : JFrame}, (∀ t, Steps p.tables e below (T'.setTop g') t → Steps p.tables e below (T.setTop g) t) → G T' g' → G T g := by subst hG; exact fun k h => own_by k h
  have go : ∀ {T : State} {locs : List Loc} {cells slots : Nat} {g : JFrame} {v : Option Value}, Stand p l e ({ frames := 1, cells := 0, slots := 0, locals := 12 } : Room) s m #[(.ref a1), (.ref a2), (.int c0)] below meth c T locs cells slots → (meth.sig.returnType = none → v = none) → (∀ fs, (∀ (f : JFrame) (acts : List Action), f.method = m → f.locked = none → f.entered = [] → (doReturn e (T.setTop f) acts v).1 = T.setFrames fs) → Steps p.tables e below (T.setTop g) (T.setFrames fs)) → (Q_rmIB Z a1 a2 c0 h0 n0) v T.heap locs → cells ≤ ({ frames := 1, cells := 0, slots := 0, locals := 12 } : Room).cells → slots ≤ ({ frames := 1, cells := 0, slots := 0, locals := 12 } : Room).slots → G T g := by subst hG; exact fun X h1 h2 h3 h4 h5 => own_out X hlk h1 h2 h3 h4 h5
  show OwnG p e below s ({ frames := 1, cells := 0, slots := 0, locals := 12 } : Room).cells ({ frames := 1, cells := 0, slots := 0, locals := 12 } : Room).slots (Q_rmIB Z a1 a2 c0 h0 n0) s₁ (entryFrame m #[(.ref a1), (.ref a2), (.int c0)] 3)
  rw [← hG, ef_rmIB m a1 a2 c0]
  clear hG
  show G s₁ (mkF m 0 #[.val (.ref a1), .val (.ref a2), .val (.int c0)] [])
  refine gb (fun _ k => XS.aloadN X0.here hx rfl (hb hby d47_0) rfl rfl k) ?_
  show G s₁ (mkF m 1 #[rv a1, rv a2, iv c0] [.ref a1])
  obtain ⟨T1, X1, e1, st1⟩ := initO X0 hx hZ hown (ow hw 15 rfl) (ow hw 16 rfl) (ow hw 17 rfl) e0 (g := (mkF m 1 #[rv a1, rv a2, iv c0] [.ref a1])) rfl (by rw [hml]; rfl) rfl (hb hby d47_1) (by decide) (W := 0) (by show 2 * 0 + _ ≤ _; exact Nat.le_of_eq rfl) (by decide)
  refine gb st1 ?_
  show G T1 (mkF m 4 #[rv a1, rv a2, iv c0] [])
  refine gb (fun _ k => XS.aloadN X1.here hx rfl (hb hby d47_4) rfl rfl (XS.aloadN X1.here hx rfl (hb hby d47_5) rfl rfl k)) ?_
  show G T1 (mkF m 6 #[rv a1, rv a2, iv c0] [.ref a2, .ref a1])
  obtain ⟨T2, h2, X2, e2, W2, st2⟩ := putF X1 hx hZ hown (host := "") (Or.inl (ow hw 24 rfl)) Via.refl e1 F_value_a1 E_a1 (Or.inr ⟨(ow hw 20 rfl), rfl, hnm⟩) (ow hw 2 rfl) (ty := (.array .byte)) (by decide) rfl rfl (g := (mkF m 6 #[rv a1, rv a2, iv c0] [.ref a2, .ref a1])) rfl rfl (hb hby d47_6)
  refine gb st2 ?_
  have F_value_a1 := F_value_a1.same W2
  have E_a1 := E_a1.wr W2
  have F_coder_a1 := F_coder_a1.other W2 (Or.inr (slot_ne (Or.inr (ow hw 21 rfl)) (Or.inr (ow hw 20 rfl)) (by decide) (t := .byte) (t' := (.array .byte)) (by decide) (by decide)))
  have O := O.wr W2 g_a1
  have K := K.wr W2 (Or.inl (List.mem_of_getElem? (i := 0) rfl))
  have N := Fr.snoc X2 N g_a1
  show G T2 (mkF m 9 #[rv a1, rv a2, iv c0] [])
  refine gb (fun _ k => XS.aloadN X2.here hx rfl (hb hby d47_9) rfl rfl (XS.iloadN X2.here hx rfl (hb hby d47_10) rfl k)) ?_
  show G T2 (mkF m 11 #[rv a1, rv a2, iv c0] [.int c0, .ref a1])
  obtain ⟨T3, h3, X3, e3, W3, st3⟩ := putFN X2 hx hZ hown (ow hw 25 rfl) Via.refl e2 F_coder_a1 E_a1 (Or.inr ⟨(ow hw 21 rfl), rfl, hnm⟩) (ow hw 2 rfl) (ty := .byte) (v' := (.int c0)) (by decide) hcn hcf (g := (mkF m 11 #[rv a1, rv a2, iv c0] [.int c0, .ref a1])) rfl rfl (hb hby d47_11)
  refine gb st3 ?_
  have F_coder_a1 := F_coder_a1.same W3
  have E_a1 := E_a1.wr W3
  have F_value_a1 := F_value_a1.other W3 (Or.inr (slot_ne (Or.inr (ow hw 20 rfl)) (Or.inr (ow hw 21 rfl)) (by decide) (t := (.array .byte)) (t' := .byte) (by decide) (by decide)))
  have O := O.wr W3 g_a1
  have K := K.wr W3 (Or.inl (List.mem_of_getElem? (i := 0) rfl))
  have N := Fr.snoc X3 N g_a1
  show G T3 (mkF m 14 #[rv a1, rv a2, iv c0] [])
  exact go X3 (v := none) (fun _ => rfl) (fun fs hr => X3.returnOut hx Bd.returns (hb hby d47_14) hr) (by rw [e3]; exact ⟨rfl, N, K, E_a1, F_coder_a1, F_value_a1⟩) (by decide) (by decide)
def Q_rmLNS (Z : State) (a1 : Addr) (k1 : ClassId) (cs ds : List Int32) (h0 : Heap) (n0 : Nat) : Option Value → Heap → List Loc → Prop := fun v h L => ∃ (x b : Addr) (kb : ClassId), v = some (.ref x) ∧ Fr n0 L ∧ Keep h0 h [] ∧ Exa Z h x "java/lang/String" ∧ Fld Z h x "java/lang/String" "coder" "B" (.int (own_cd cs)) ∧ Fld Z h x "java/lang/String" "value" "[B" (.ref b) ∧ Arv Z h b kb .byte (Int32.ofNat (own_enc cs).length) ((own_enc cs).map Value.int) (.int (0 : Int32))
set_option maxRecDepth 65536 in
set_option maxHeartbeats 40000000 in
theorem rmLNS (l : Launch) (Z : State) (a0 : Array Value) (hw : ∀ d ∈ tables_1, d.before a0 Z = true) (ws : List Jvm.Cond) (a1 : Addr) (k1 : ClassId) (cs ds : List Int32) (h0 : Heap) (n0 : Nat) (O : Old Z n0 h0) (hEL : EW Z a0 [("java/lang/String", 7), ("java/lang/StringLatin1", 151), ("java/lang/StringUTF16", 295)]) (V_a1 : Arv Z h0 a1 k1 .byte (Int32.ofNat ds.length) ((ds.map own_lb).map Value.int) (.int (0 : Int32))) (hpre : cs = ds.take cs.length) (hlt : cs.length < ds.length) (hRd : own_R ds) (hR : own_R cs) (hL : own_kk cs = cs.length) :
    MetFree l (⟨"java/lang/StringLatin1", "newString", "([BII)Ljava/lang/String;"⟩ : MethodName) (head1 (Jvm.Cond.code (⟨"java/lang/StringLatin1", "newString", "([BII)Ljava/lang/String;"⟩ : MethodName) jdk_43_method_47_code 3 (some (.object "java/lang/String")) :: ws) ({ frames := 3, cells := 2, slots := 16, locals := 72 } : Room)) (fun a U => a = #[(.ref a1), (.int (0 : Int32)), (.int (Int32.ofNat cs.length))] ∧ Z.Warmed39 U.vm ∧ U.heap = h0 ∧ CHv Z [("java/lang/String", 7), ("java/lang/StringLatin1", 151), ("java/lang/StringUTF16", 295)] U.vm h0) (fun _ _ _ _ _ => True) (fun _ U o U' => ∃ v L, o = .returned v ∧ (Q_rmLNS Z a1 k1 cs ds h0 n0) v U'.heap L ∧ CHr Z [("java/lang/String", 7), ("java/lang/StringLatin1", 151), ("java/lang/StringUTF16", 295)] U.vm U.heap U'.vm U'.heap ∧ ReturnedEndW U o U' L ({ frames := 3, cells := 2, slots := 16, locals := 72 } : Room).cells ({ frames := 3, cells := 2, slots := 16, locals := 72 } : Room).slots) := by
  refine MetFree.of_bodySF (plainFor_of_name pn_6) hisR ?_
  intro p e s m args below meth c s₁ Bd hml0 hP hK
  obtain ⟨rfl, hZ, hh, hHC⟩ := hP
  have hx := Bd.exec
  have hby := Bd.bytes
  have hml : c.maxLocals = 3 := hml0
  have hown : s.vm.findClass "java/lang/StringLatin1" = some m.cls := findClass_of_methodNamed Bd.named
  have hnm := (name_of_methodNamed Bd.named Bd.method).1
  have hlk := BodyLoose.notSynchronized Bd
  have X0 : Stand p l e ({ frames := 3, cells := 2, slots := 16, locals := 72 } : Room) (s.setVm s.vm) m #[(.ref a1), (.int (0 : Int32)), (.int (Int32.ofNat cs.length))] below meth c s₁ [] 0 0 := Stand.of_body Bd
  have e0 : s₁.heap = h0 := by rw [← hh, Bd.state]; rfl
  have N := Fr.nil n0
  have hS : s.Since s.vm h0.size := (State.WarmedH.refl s).since _
  have hk := Nat.le_refl h0.size
  have HR : CHr Z [("java/lang/String", 7), ("java/lang/StringLatin1", 151), ("java/lang/StringUTF16", 295)] s.vm h0 s.vm h0 := CHr.refl hHC
  have K := Keep.refl h0 []
  obtain ⟨G, hG⟩ : ∃ G : State → JFrame → Prop, G = OwnGH p e below s Z [("java/lang/String", 7), ("java/lang/StringLatin1", 151), ("java/lang/StringUTF16", 295)] ({ frames := 3, cells := 2, slots := 16, locals := 72 } : Room).cells ({ frames := 3, cells := 2, slots := 16, locals := 72 } : Room).slots (Q_rmLNS Z a1 k1 cs ds h0 n0) := ⟨_, rfl⟩
  have gb : ∀ {T T' : State} {g g' : JFrame}, (∀ t, Steps p.tables e below (T'.setTop g') t → Steps p.tables e below (T.setTop g) t) → G T' g' → G T g := by subst hG; exact fun k h => own_byH k h
  have go : ∀ {T : State} {locs : List Loc} {cells slots : Nat} {g : JFrame} {v : Option Value} {vm : Vm} {k : Nat}, Stand p l e ({ frames := 3, cells := 2, slots := 16, locals := 72 } : Room) (s.setVm vm) m #[(.ref a1), (.int (0 : Int32)), (.int (Int32.ofNat cs.length))] below meth c T locs cells slots → s.Since vm k → k ≤ T.heap.size → CHr Z [("java/lang/String", 7), ("java/lang/StringLatin1", 151), ("java/lang/StringUTF16", 295)] s.vm h0 vm T.heap → Z.Warmed39 vm → (meth.sig.returnType = none → v = none) → (∀ fs, (∀ (f : JFrame) (acts : List Action), f.method = m → f.locked = none → f.entered = [] → (doReturn e (T.setTop f) acts v).1 = T.setFrames fs) → Steps p.tables e below (T.setTop g) (T.setFrames fs)) → (Q_rmLNS Z a1 k1 cs ds h0 n0) v T.heap locs → cells ≤ ({ frames := 3, cells := 2, slots := 16, locals := 72 } : Room).cells → slots ≤ ({ frames := 3, cells := 2, slots := 16, locals := 72 } : Room).slots → G T g := by subst hG; exact fun X a b c' d h1 h2 h3 h4 h5 => own_outH X hh hEL a b c' d hlk h1 h2 h3 h4 h5
  show OwnGH p e below s Z [("java/lang/String", 7), ("java/lang/StringLatin1", 151), ("java/lang/StringUTF16", 295)] ({ frames := 3, cells := 2, slots := 16, locals := 72 } : Room).cells ({ frames := 3, cells := 2, slots := 16, locals := 72 } : Room).slots (Q_rmLNS Z a1 k1 cs ds h0 n0) s₁ (entryFrame m #[(.ref a1), (.int (0 : Int32)), (.int (Int32.ofNat cs.length))] 3)
  rw [← hG, ef_rmLNS m a1 (0 : Int32) (Int32.ofNat cs.length)]
  clear hG
  show G s₁ (mkF m 0 #[.val (.ref a1), .val (.int (0 : Int32)), .val (.int (Int32.ofNat cs.length))] [])
  have hr6 := hR.1
  have hr7 := hRd.1
  refine gb (fun _ k => XS.iloadN X0.here hx rfl (hb hby d48_0) rfl k) ?_
  show G s₁ (mkF m 1 #[rv a1, iv 0, iv (Int32.ofNat cs.length)] [.int (Int32.ofNat cs.length)])
  by_cases hcs : cs = []
  · skip
    refine gb (fun _ k => XS.ifNo X0.here hx rfl (hb hby d48_1) rfl ((if0 _ _).trans (teq (by rw [hcs]; rfl)).2) k) ?_
    show G s₁ (mkF m 4 #[rv a1, iv 0, iv (Int32.ofNat cs.length)] [])
    have lt_a1 := V_a1.lt
    obtain ⟨b1, T1, h1, kn1, bb1, kb1, X1, e1, E1, hS, hk1, hZ, hown, E_b1, F_coder_b1, F_value_b1, V_bb1, -, -, hC1, -, hne1, st1⟩ := ldcCH X0 hx hZ hown (ow hw 204 rfl) (own_wS hw) e0 hS hk hEL (List.mem_of_getElem? (i := 1) rfl) HR.1 (z := (0 : Int32)) ⟨by decide, rfl⟩ (by decide) rfl (g := (mkF m 4 #[rv a1, iv 0, iv (Int32.ofNat cs.length)] [])) rfl (hb hby d48_4) (n := 0) (by decide) (by decide) (by decide) (by decide)
    have HR := HR.trans hC1
    have V_a1 := V_a1.ext E1
    have O := O.ext E1
    have hk := Nat.le_trans hk E1.1
    have K := K.ext E1
    have hk := hk1
    have V_bb1 : Arv Z h1 bb1 kb1 .byte (0 : Int32) [] (.int (0 : Int32)) := V_bb1
    refine gb st1 ?_
    show G T1 (mkF m 6 #[rv a1, iv 0, iv (Int32.ofNat cs.length)] [.ref b1])
    exact go X1 hS (Nat.le_trans hk (Nat.le_of_eq (congrArg Array.size e1.symm))) (by rw [e1]; exact HR) hZ (v := (some (.ref b1))) (fun h => by rw [Bd.returns] at h; cases h) (fun fs hr => retOut X1 hx Bd.returns rfl (Or.inr (Or.inr (Or.inr (Or.inr ⟨rfl, rfl, rfl⟩)))) (hb hby d48_6) hr) (by rw [e1]; exact ⟨_, _, _, rfl, N, K, E_b1, by rw [hcs]; exact F_coder_b1, F_value_b1, by rw [hcs]; exact V_bb1⟩) (by decide) (by decide)
  · skip
    refine gb (fun _ k => XS.ifYes X0.here hx rfl (pc0 := 1) (pc' := 7) rfl (hb hby d48_1) rfl ((if0 _ _).trans (feq (own_ne0 (own_pos hcs) (by omega))).2) (by decide) (by decide) k) ?_
    show G s₁ (mkF m 7 #[rv a1, iv 0, iv (Int32.ofNat cs.length)] [])
    obtain ⟨T2, h2, X2, e2, E2, A2, D2, U2, st2⟩ := newO X0 hx hZ hown (ow hw 205 rfl) (ow hw 2 rfl) (ow hw 3 rfl) e0 (g := (mkF m 7 #[rv a1, iv 0, iv (Int32.ofNat cs.length)] [])) rfl (hb hby d48_7) (by decide) (by decide)
    obtain ⟨b2, g2⟩ : ∃ z, z = h0.size := ⟨_, rfl⟩
    rw [← g2] at A2 D2 U2 st2
    have g_b2 : n0 ≤ b2 := Nat.le_trans (by have := O.2.1; rw [O.1] at this; exact this) (Nat.le_of_eq g2.symm)
    have sz_b2 : h0.size ≤ b2 := Nat.le_trans K.1 (Nat.le_of_eq g2.symm)
    have ne_a1_b2 : a1 ≠ b2 := Nat.ne_of_lt (Nat.lt_of_lt_of_le V_a1.lt (Nat.le_of_eq g2.symm))
    have Sf_b2 := Safe.ext E2 HR.1 (Safe.new (x := b2) (Nat.le_of_eq g2.symm))
    have HR := HR.trans (CHr.ext E2 HR.1)
    have V_a1 := V_a1.ext E2
    have O := O.ext E2
    have hk := Nat.le_trans hk E2.1
    have K := K.ext E2
    have E_b2 := A2
    have F_value_b2 : Fld Z h2 b2 "java/lang/String" "value" "[B" .null := D2 (Or.inr (ow hw 20 rfl)) (ty := (.array .byte)) (by decide)
    have F_coder_b2 : Fld Z h2 b2 "java/lang/String" "coder" "B" (.int (0 : Int32)) := D2 (Or.inr (ow hw 21 rfl)) (ty := .byte) (by decide)
    refine gb st2 ?_
    show G T2 (mkF m 10 #[rv a1, iv 0, iv (Int32.ofNat cs.length)] [.ref b2])
    refine gb (fun _ k => XS.dup X2.here hx rfl (hb hby d48_10) rfl rfl (XS.aloadN X2.here hx rfl (hb hby d48_11) rfl rfl (XS.iloadN X2.here hx rfl (hb hby d48_12) rfl (XS.iloadN X2.here hx rfl (hb hby d48_13) rfl (XS.iloadN X2.here hx rfl (hb hby d48_14) rfl (XS.iadd X2.here hx rfl (hb hby d48_15) rfl k)))))) ?_
    show G T2 (mkF m 16 #[rv a1, iv 0, iv (Int32.ofNat cs.length)] [.int ((0 : Int32) + (Int32.ofNat cs.length)), .int 0, .ref a1, .ref b2, .ref b2])
    rw [own_0add]
    show G T2 (mkF m 16 #[rv a1, iv 0, iv (Int32.ofNat cs.length)] [.int (Int32.ofNat cs.length), .int 0, .ref a1, .ref b2, .ref b2])
    have lt_a1 := V_a1.lt
    have lt_b2 := E_b2.lt
    have szK := K.1
    have Sk3 := sf0 (Z := Z) (EL := [("java/lang/String", 7), ("java/lang/StringLatin1", 151), ("java/lang/StringUTF16", 295)]) (vm := s.vm) (h := h2)
    obtain ⟨_, _, ⟨T3, Lz3, kz3, nz3⟩, -, X3, ⟨Lc3, hQ3, lq3, yq3, zq3⟩, st3⟩ := Jvm.LawKit.callS X2 hx (y := (⟨"java/util/Arrays", "copyOfRange", "([BII)[B"⟩ : MethodName)) hown (mvT hZ (ow hw 206 rfl)) (mvT hZ (ow hw 178 rfl)) (mvT hZ (ow hw 179 rfl)) (mvT hZ (ow hw 180 rfl)) (by decide) (backOf (W := 2) (rmCR l Z a0 hw [] a1 k1 (ds.map own_lb) ds.length cs.length h2 n0 O V_a1 (List.length_map ..) hlt (by omega)) hZ (ow hw 180 rfl) (ow hw 179 rfl) (by decide) (by decide)) (g := (mkF m 16 #[rv a1, iv 0, iv (Int32.ofNat cs.length)] [.int (Int32.ofNat cs.length), .int 0, .ref a1, .ref b2, .ref b2])) rfl (by rw [hml]; rfl) (argsL := [(.ref a1), (.int (0 : Int32)), (.int (Int32.ofNat cs.length))]) (rest := [(.ref b2), (.ref b2)]) (lenOf pd_20 rfl) rfl (by show 2 * 0 + _ ≤ _; exact Nat.le_of_eq rfl) (hb hby d48_16) (fun _ _ => ⟨rfl, e2, (by decide : 1 + 1 ≤ _), (by decide : 4 + 12 ≤ _)⟩)
    dsimp only [Pt.U, Pt.locs, Pt.cells, Pt.slots] at X3 lq3 yq3 zq3 st3 hQ3
    subst lq3 yq3 zq3
    obtain ⟨h3, e3⟩ : ∃ z, z = T3.heap := ⟨_, rfl⟩
    rw [← e3] at hQ3
    replace e3 := e3.symm
    obtain ⟨b3, kb3, rfl, Nq3, Kq3, hR3⟩ := hQ3
    have N := Fr.app N Nq3
    have Sf_b2 := Safe.keep Kq3 Sk3 HR.1 Sf_b2
    have HR := HR.trans (CHr.keep Kq3 Sk3 HR.1)
    have V_a1 := V_a1.keep Kq3 nin0
    have E_b2 := E_b2.keep Kq3
    have F_value_b2 := F_value_b2.keep Kq3 nin0
    have F_coder_b2 := F_coder_b2.keep Kq3 nin0
    have hk := Nat.le_trans hk Kq3.1
    obtain ⟨g_b3, sz_b3, V_b3⟩ := hR3
    have O := O.keep Kq3 all0
    have K := K.trans Kq3 all0
    have ne_a1_b3 : a1 ≠ b3 := Nat.ne_of_lt (Nat.lt_of_lt_of_le lt_a1 sz_b3)
    have ne_b2_b3 : b2 ≠ b3 := Nat.ne_of_lt (Nat.lt_of_lt_of_le lt_b2 sz_b3)
    have sz_b3 := Nat.le_trans szK sz_b3
    rw [own_lt' hpre] at V_b3
    refine gb st3 ?_
    show G T3 (mkF m 19 #[rv a1, iv 0, iv (Int32.ofNat cs.length)] [.ref b3, .ref b2, .ref b2])
    refine gb (fun _ k => XS.iconst X3.here hx rfl (hb hby d48_19) k) ?_
    show G T3 (mkF m 20 #[rv a1, iv 0, iv (Int32.ofNat cs.length)] [.int 0, .ref b3, .ref b2, .ref b2])
    have Sk4 : ∀ x ∈ [b2], Safe Z [("java/lang/String", 7), ("java/lang/StringLatin1", 151), ("java/lang/StringUTF16", 295)] _ _ x := (sfS Sf_b2 sf0)
    obtain ⟨_, _, ⟨T4, Lz4, kz4, nz4⟩, -, X4, ⟨Lc4, hQ4, lq4, yq4, zq4⟩, st4⟩ := X3.specialBack hx (y := (⟨"java/lang/String", "<init>", "([BB)V"⟩ : MethodName)) rfl hown (mvT hZ (ow hw 207 rfl)) (mvT hZ (ow hw 198 rfl)) (mvT hZ (ow hw 199 rfl)) (by decide) (backOf (W := 1) (rmIB l Z a0 hw [] b2 b3 (0 : Int32) h3 n0 O E_b2 F_coder_b2 F_value_b2 g_b2 rfl rfl) hZ (ow hw 199 rfl) (ow hw 3 rfl) (by decide) (by decide)) (g := (mkF m 20 #[rv a1, iv 0, iv (Int32.ofNat cs.length)] [.int 0, .ref b3, .ref b2, .ref b2])) rfl (by rw [hml]; rfl) (Steps.refl _) (a := b2) (argsL := [(.ref b3), (.int (0 : Int32))]) (rest := [(.ref b2)]) (lenOf pd_23 rfl) rfl (by show 2 * 0 + _ ≤ _; exact Nat.le_of_eq rfl) (hb hby d48_20) (fun _ _ => ⟨rfl, e3, (by decide : 2 + 0 ≤ _), (by decide : 16 + 0 ≤ _)⟩)
    dsimp only [Pt.U, Pt.locs, Pt.cells, Pt.slots] at X4 lq4 yq4 zq4 st4 hQ4
    subst lq4 yq4 zq4
    obtain ⟨h4, e4⟩ : ∃ z, z = T4.heap := ⟨_, rfl⟩
    rw [← e4] at hQ4
    replace e4 := e4.symm
    obtain ⟨rfl, Nq4, Kq4, hR4⟩ := hQ4
    have N := Fr.app N Nq4
    have Sf_b2 := Safe.keep Kq4 Sk4 HR.1 Sf_b2
    have HR := HR.trans (CHr.keep Kq4 Sk4 HR.1)
    have V_a1 := V_a1.keep Kq4 (ninS ne_a1_b2 nin0)
    have E_b2 := E_b2.keep Kq4
    have V_b3 := V_b3.keep Kq4 (ninS (Ne.symm ne_b2_b3) nin0)
    have hk := Nat.le_trans hk Kq4.1
    obtain ⟨E_b2, F_coder_b2, F_value_b2⟩ := hR4
    have O := O.keep Kq4 (allS g_b2 all0)
    have K := K.trans Kq4 (allS (Or.inr sz_b2) all0)
    refine gb (fun _ k => st4.trans k) ?_
    show G T4 (mkF m 23 #[rv a1, iv 0, iv (Int32.ofNat cs.length)] [.ref b2])
    exact go X4 hS (Nat.le_trans hk (Nat.le_of_eq (congrArg Array.size e4.symm))) (by rw [e4]; exact HR) hZ (v := (some (.ref b2))) (fun h => by rw [Bd.returns] at h; cases h) (fun fs hr => retOut X4 hx Bd.returns rfl (Or.inr (Or.inr (Or.inr (Or.inr ⟨rfl, rfl, rfl⟩)))) (hb hby d48_23) hr) (by rw [e4]; exact ⟨_, _, _, rfl, N, K, E_b2, by rw [own_cL hL]; exact F_coder_b2, F_value_b2, by rw [own_elL hL, own_eL hL]; exact V_b3⟩) (by decide) (by decide)
def Q_rmUNS (Z : State) (a1 : Addr) (k1 : ClassId) (cs ds : List Int32) (h0 : Heap) (n0 : Nat) (sf : Value) (zc : Int32) : Option Value → Heap → List Loc → Prop := fun v h L => ∃ (x b : Addr) (kb : ClassId), v = some (.ref x) ∧ Fr n0 L ∧ Keep h0 h [] ∧ Exa Z h x "java/lang/String" ∧ Fld Z h x "java/lang/String" "coder" "B" (.int (own_cd cs)) ∧ Fld Z h x "java/lang/String" "value" "[B" (.ref b) ∧ Arv Z h b kb .byte (Int32.ofNat (own_enc cs).length) ((own_enc cs).map Value.int) (.int (0 : Int32))
set_option maxRecDepth 65536 in
set_option maxHeartbeats 40000000 in
theorem rmUNS (l : Launch) (Z : State) (a0 : Array Value) (hw : ∀ d ∈ tables_1, d.before a0 Z = true) (ws : List Jvm.Cond) (a1 : Addr) (k1 : ClassId) (cs ds : List Int32) (h0 : Heap) (n0 : Nat) (O : Old Z n0 h0) (hEL : EW Z a0 [("java/lang/String", 7), ("java/lang/StringLatin1", 151), ("java/lang/StringUTF16", 295)]) (S_ad : Sta Z Z.heap "java/lang/StringUTF16" "$assertionsDisabled" "Z" (.int (1 : Int32))) (S_hi : Sta Z Z.heap "java/lang/StringUTF16" "HI_BYTE_SHIFT" "I" (.int (0 : Int32))) (S_lo : Sta Z Z.heap "java/lang/StringUTF16" "LO_BYTE_SHIFT" "I" (.int (8 : Int32))) (sf : Value) (hr_sf : sf.isRef = true) (S_sf : Sta Z Z.heap "jdk/internal/util/Preconditions" "SIOOBE_FORMATTER" "Ljava/util/function/BiFunction;" sf) (V_a1 : Arv Z h0 a1 k1 .byte (Int32.ofNat (2 * ds.length)) ((own_u ds).map Value.int) (.int (0 : Int32))) (hpre : cs = ds.take cs.length) (hlt : cs.length < ds.length) (hRd : own_R ds) (hR : own_R cs) (zc : Int32) (S_cs : Sta Z Z.heap "java/lang/String" "COMPACT_STRINGS" "Z" (.int zc)) (hzc : ¬ zc = (0 : Int32)) :
    MetFree l (⟨"java/lang/StringUTF16", "newString", "([BII)Ljava/lang/String;"⟩ : MethodName) (head1 (Jvm.Cond.code (⟨"java/lang/StringUTF16", "newString", "([BII)Ljava/lang/String;"⟩ : MethodName) jdk_52_method_69_code 5 (some (.object "java/lang/String")) :: ws) ({ frames := 5, cells := 3, slots := 22, locals := 87 } : Room)) (fun a U => a = #[(.ref a1), (.int (0 : Int32)), (.int (Int32.ofNat cs.length))] ∧ Z.Warmed39 U.vm ∧ U.heap = h0 ∧ CHv Z [("java/lang/String", 7), ("java/lang/StringLatin1", 151), ("java/lang/StringUTF16", 295)] U.vm h0) (fun _ _ _ _ _ => True) (fun _ U o U' => ∃ v L, o = .returned v ∧ (Q_rmUNS Z a1 k1 cs ds h0 n0 sf zc) v U'.heap L ∧ CHr Z [("java/lang/String", 7), ("java/lang/StringLatin1", 151), ("java/lang/StringUTF16", 295)] U.vm U.heap U'.vm U'.heap ∧ ReturnedEndW U o U' L ({ frames := 5, cells := 3, slots := 22, locals := 87 } : Room).cells ({ frames := 5, cells := 3, slots := 22, locals := 87 } : Room).slots) := by
  refine MetFree.of_bodySF (plainFor_of_name pn_0) hisR ?_
  intro p e s m args below meth c s₁ Bd hml0 hP hK
  obtain ⟨rfl, hZ, hh, hHC⟩ := hP
  have hx := Bd.exec
  have hby := Bd.bytes
  have hml : c.maxLocals = 5 := hml0
  have hown : s.vm.findClass "java/lang/StringUTF16" = some m.cls := findClass_of_methodNamed Bd.named
  have hnm := (name_of_methodNamed Bd.named Bd.method).1
  have hlk := BodyLoose.notSynchronized Bd
  have X0 : Stand p l e ({ frames := 5, cells := 3, slots := 22, locals := 87 } : Room) (s.setVm s.vm) m #[(.ref a1), (.int (0 : Int32)), (.int (Int32.ofNat cs.length))] below meth c s₁ [] 0 0 := Stand.of_body Bd
  have e0 : s₁.heap = h0 := by rw [← hh, Bd.state]; rfl
  have N := Fr.nil n0
  have hS : s.Since s.vm h0.size := (State.WarmedH.refl s).since _
  have hk := Nat.le_refl h0.size
  have HR : CHr Z [("java/lang/String", 7), ("java/lang/StringLatin1", 151), ("java/lang/StringUTF16", 295)] s.vm h0 s.vm h0 := CHr.refl hHC
  have K := Keep.refl h0 []
  obtain ⟨G, hG⟩ : ∃ G : State → JFrame → Prop, G = OwnGH p e below s Z [("java/lang/String", 7), ("java/lang/StringLatin1", 151), ("java/lang/StringUTF16", 295)] ({ frames := 5, cells := 3, slots := 22, locals := 87 } : Room).cells ({ frames := 5, cells := 3, slots := 22, locals := 87 } : Room).slots (Q_rmUNS Z a1 k1 cs ds h0 n0 sf zc) := ⟨_, rfl⟩
  have gb : ∀ {T T' : State} {g g' : JFrame}, (∀ t, Steps p.tables e below (T'.setTop g') t → Steps p.tables e below (T.setTop g) t) → G T' g' → G T g := by subst hG; exact fun k h => own_byH k h
  have go : ∀ {T : State} {locs : List Loc} {cells slots : Nat} {g : JFrame} {v : Option Value} {vm : Vm} {k : Nat}, Stand p l e ({ frames := 5, cells := 3, slots := 22, locals := 87 } : Room) (s.setVm vm) m #[(.ref a1), (.int (0 : Int32)), (.int (Int32.ofNat cs.length))] below meth c T locs cells slots → s.Since vm k → k ≤ T.heap.size → CHr Z [("java/lang/String", 7), ("java/lang/StringLatin1", 151), ("java/lang/StringUTF16", 295)] s.vm h0 vm T.heap → Z.Warmed39 vm → (meth.sig.returnType = none → v = none) → (∀ fs, (∀ (f : JFrame) (acts : List Action), f.method = m → f.locked = none → f.entered = [] → (doReturn e (T.setTop f) acts v).1 = T.setFrames fs) → Steps p.tables e below (T.setTop g) (T.setFrames fs)) → (Q_rmUNS Z a1 k1 cs ds h0 n0 sf zc) v T.heap locs → cells ≤ ({ frames := 5, cells := 3, slots := 22, locals := 87 } : Room).cells → slots ≤ ({ frames := 5, cells := 3, slots := 22, locals := 87 } : Room).slots → G T g := by subst hG; exact fun X a b c' d h1 h2 h3 h4 h5 => own_outH X hh hEL a b c' d hlk h1 h2 h3 h4 h5
  show OwnGH p e below s Z [("java/lang/String", 7), ("java/lang/StringLatin1", 151), ("java/lang/StringUTF16", 295)] ({ frames := 5, cells := 3, slots := 22, locals := 87 } : Room).cells ({ frames := 5, cells := 3, slots := 22, locals := 87 } : Room).slots (Q_rmUNS Z a1 k1 cs ds h0 n0 sf zc) s₁ (entryFrame m #[(.ref a1), (.int (0 : Int32)), (.int (Int32.ofNat cs.length))] 5)
  rw [← hG, ef_rmUNS m a1 (0 : Int32) (Int32.ofNat cs.length)]
  clear hG
  show G s₁ (mkF m 0 #[.val (.ref a1), .val (.int (0 : Int32)), .val (.int (Int32.ofNat cs.length)), .unset, .unset] [])
  have hr6 := hR.1
  have hr7 := hRd.1
  refine gb (fun _ k => XS.iloadN X0.here hx rfl (hb hby d36_0) rfl k) ?_
  show G s₁ (mkF m 1 #[rv a1, iv 0, iv (Int32.ofNat cs.length), .unset, .unset] [.int (Int32.ofNat cs.length)])
  by_cases hcs : cs = []
  · skip
    refine gb (fun _ k => XS.ifNo X0.here hx rfl (hb hby d36_1) rfl ((if0 _ _).trans (teq (by rw [hcs]; rfl)).2) k) ?_
    show G s₁ (mkF m 4 #[rv a1, iv 0, iv (Int32.ofNat cs.length), .unset, .unset] [])
    have lt_a1 := V_a1.lt
    obtain ⟨b1, T1, h1, kn1, bb1, kb1, X1, e1, E1, hS, hk1, hZ, hown, E_b1, F_coder_b1, F_value_b1, V_bb1, -, -, hC1, -, hne1, st1⟩ := own_ldcCHW X0 hx hZ hown (ow hw 200 rfl) (own_wS hw) e0 hS hk hEL (List.mem_of_getElem? (i := 2) rfl) HR.1 (z := (0 : Int32)) ⟨by decide, rfl⟩ (by decide) rfl (g := (mkF m 4 #[rv a1, iv 0, iv (Int32.ofNat cs.length), .unset, .unset] [])) rfl (hb hby d36_4) (n := 0) (by decide) (by decide) (by decide) (by decide)
    have HR := HR.trans hC1
    have V_a1 := V_a1.ext E1
    have O := O.ext E1
    have hk := Nat.le_trans hk E1.1
    have K := K.ext E1
    have hk := hk1
    have V_bb1 : Arv Z h1 bb1 kb1 .byte (0 : Int32) [] (.int (0 : Int32)) := V_bb1
    refine gb st1 ?_
    show G T1 (mkF m 7 #[rv a1, iv 0, iv (Int32.ofNat cs.length), .unset, .unset] [.ref b1])
    exact go X1 hS (Nat.le_trans hk (Nat.le_of_eq (congrArg Array.size e1.symm))) (by rw [e1]; exact HR) hZ (v := (some (.ref b1))) (fun h => by rw [Bd.returns] at h; cases h) (fun fs hr => retOut X1 hx Bd.returns rfl (Or.inr (Or.inr (Or.inr (Or.inr ⟨rfl, rfl, rfl⟩)))) (hb hby d36_7) hr) (by rw [e1]; exact ⟨_, _, _, rfl, N, K, E_b1, by rw [hcs]; exact F_coder_b1, F_value_b1, by rw [hcs]; exact V_bb1⟩) (by decide) (by decide)
  · skip
    refine gb (fun _ k => XS.ifYes X0.here hx rfl (pc0 := 1) (pc' := 8) rfl (hb hby d36_1) rfl ((if0 _ _).trans (feq (own_ne0 (own_pos hcs) (by omega))).2) (by decide) (by decide) k) ?_
    show G s₁ (mkF m 8 #[rv a1, iv 0, iv (Int32.ofNat cs.length), .unset, .unset] [])
    obtain ⟨T2, X2, e2, st2⟩ := getS2 X0 hx hZ hown (host := "") (Or.inl (ow hw 158 rfl)) Via.refl e0 (S_cs.ext O.2) (g := (mkF m 8 #[rv a1, iv 0, iv (Int32.ofNat cs.length), .unset, .unset] [])) rfl (hb hby d36_8)
    refine gb st2 ?_
    show G T2 (mkF m 11 #[rv a1, iv 0, iv (Int32.ofNat cs.length), .unset, .unset] [.int zc])
    refine gb (fun _ k => XS.ifNo X2.here hx rfl (hb hby d36_11) rfl ((if0 _ _).trans (feq hzc).1) (XS.aloadN X2.here hx rfl (hb hby d36_14) rfl rfl (XS.iloadN X2.here hx rfl (hb hby d36_15) rfl (XS.iloadN X2.here hx rfl (hb hby d36_16) rfl k)))) ?_
    show G T2 (mkF m 17 #[rv a1, iv 0, iv (Int32.ofNat cs.length), .unset, .unset] [.int (Int32.ofNat cs.length), .int 0, .ref a1])
    have lt_a1 := V_a1.lt
    have szK := K.1
    have Sk3 := sf0 (Z := Z) (EL := [("java/lang/String", 7), ("java/lang/StringLatin1", 151), ("java/lang/StringUTF16", 295)]) (vm := s.vm) (h := h0)
    obtain ⟨_, _, ⟨T3, Lz3, kz3, nz3⟩, -, X3, ⟨Lc3, hQ3, lq3, yq3, zq3⟩, st3⟩ := Jvm.LawKit.callS X2 hx (y := (⟨"java/lang/StringUTF16", "compress", "([BII)[B"⟩ : MethodName)) hown (mvT hZ (ow hw 159 rfl)) (mvT hZ (ow hw 160 rfl)) (mvT hZ (ow hw 81 rfl)) (mvT hZ (ow hw 161 rfl)) (by decide) (backOf (W := 0) (rmC1b l Z a0 hw [] a1 k1 cs ds h0 n0 O S_ad S_hi S_lo sf hr_sf S_sf V_a1 hpre hlt hRd hR) hZ (ow hw 161 rfl) (ow hw 81 rfl) (by decide) (by decide)) (g := (mkF m 17 #[rv a1, iv 0, iv (Int32.ofNat cs.length), .unset, .unset] [.int (Int32.ofNat cs.length), .int 0, .ref a1])) rfl (by rw [hml]; rfl) (argsL := [(.ref a1), (.int (0 : Int32)), (.int (Int32.ofNat cs.length))]) (rest := []) (lenOf pd_20 rfl) rfl (by show 2 * 0 + _ ≤ _; exact Nat.le_of_eq rfl) (hb hby d36_17) (fun _ _ => ⟨rfl, e2, (by decide : 0 + 2 ≤ _), (by decide : 0 + 18 ≤ _)⟩)
    dsimp only [Pt.U, Pt.locs, Pt.cells, Pt.slots] at X3 lq3 yq3 zq3 st3 hQ3
    subst lq3 yq3 zq3
    obtain ⟨h3, e3⟩ : ∃ z, z = T3.heap := ⟨_, rfl⟩
    rw [← e3] at hQ3
    replace e3 := e3.symm
    obtain ⟨b3, kb3, rfl, Nq3, Kq3, hR3⟩ := hQ3
    have N := Fr.app N Nq3
    have HR := HR.trans (CHr.keep Kq3 Sk3 HR.1)
    have V_a1 := V_a1.keep Kq3 nin0
    have hk := Nat.le_trans hk Kq3.1
    obtain ⟨g_b3, sz_b3, V_b3⟩ := hR3
    have O := O.keep Kq3 all0
    have K := K.trans Kq3 all0
    have ne_a1_b3 : a1 ≠ b3 := Nat.ne_of_lt (Nat.lt_of_lt_of_le lt_a1 sz_b3)
    have sz_b3 := Nat.le_trans szK sz_b3
    refine gb st3 ?_
    show G T3 (mkF m 20 #[rv a1, iv 0, iv (Int32.ofNat cs.length), .unset, .unset] [.ref b3])
    refine gb (fun _ k => XS.astoreN X3.here hx rfl (hb hby d36_20) rfl rfl (l' := #[rv a1, iv 0, iv (Int32.ofNat cs.length), rv b3, .unset]) rfl (XS.aloadN X3.here hx rfl (hb hby d36_21) rfl rfl (XS.iloadN X3.here hx rfl (hb hby d36_22) rfl k))) ?_
    show G T3 (mkF m 23 #[rv a1, iv 0, iv (Int32.ofNat cs.length), rv b3, .unset] [.int (Int32.ofNat cs.length), .ref b3])
    obtain ⟨_, _, ⟨T4, Lz4, kz4, nz4⟩, -, X4, ⟨Lc4, hQ4, lq4, yq4, zq4⟩, st4⟩ := Jvm.LawKit.callS X3 hx (y := (⟨"java/lang/StringUTF16", "coderFromArrayLen", "([BI)B"⟩ : MethodName)) hown (mvT hZ (ow hw 195 rfl)) (mvT hZ (ow hw 106 rfl)) (mvT hZ (ow hw 81 rfl)) (mvT hZ (ow hw 107 rfl)) (by decide) (backOf (W := 0) (rmCo l Z a0 hw [] b3 kb3 cs h3 n0 O V_b3 hR (own_pos hcs)) hZ (ow hw 107 rfl) (ow hw 81 rfl) (by decide) (by decide)) (g := (mkF m 23 #[rv a1, iv 0, iv (Int32.ofNat cs.length), rv b3, .unset] [.int (Int32.ofNat cs.length), .ref b3])) rfl (by rw [hml]; rfl) (argsL := [(.ref b3), (.int (Int32.ofNat cs.length))]) (rest := []) (lenOf pd_6 rfl) rfl (by show 2 * 0 + _ ≤ _; exact Nat.le_of_eq rfl) (hb hby d36_23) (fun _ _ => ⟨rfl, e3, (by decide : 2 + 0 ≤ _), (by decide : 18 + 0 ≤ _)⟩)
    dsimp only [Pt.U, Pt.locs, Pt.cells, Pt.slots] at X4 lq4 yq4 zq4 st4 hQ4
    subst lq4 yq4 zq4
    obtain ⟨rfl, rfl, e4⟩ := hQ4
    try rw [List.append_nil] at X4
    refine gb st4 ?_
    show G T4 (mkF m 26 #[rv a1, iv 0, iv (Int32.ofNat cs.length), rv b3, .unset] [.int (own_cd cs)])
    refine gb (fun _ k => XS.istore X4.here hx rfl (hb hby d36_26) rfl (l' := #[rv a1, iv 0, iv (Int32.ofNat cs.length), rv b3, iv (own_cd cs)]) rfl k) ?_
    show G T4 (mkF m 28 #[rv a1, iv 0, iv (Int32.ofNat cs.length), rv b3, iv (own_cd cs)] [])
    obtain ⟨T5, h5, X5, e5, E5, A5, D5, U5, st5⟩ := newO X4 hx hZ hown (ow hw 196 rfl) (ow hw 2 rfl) (ow hw 3 rfl) e4 (g := (mkF m 28 #[rv a1, iv 0, iv (Int32.ofNat cs.length), rv b3, iv (own_cd cs)] [])) rfl (hb hby d36_28) (by decide) (by decide)
    obtain ⟨b5, g5⟩ : ∃ z, z = h3.size := ⟨_, rfl⟩
    rw [← g5] at A5 D5 U5 st5
    have g_b5 : n0 ≤ b5 := Nat.le_trans (by have := O.2.1; rw [O.1] at this; exact this) (Nat.le_of_eq g5.symm)
    have sz_b5 : h0.size ≤ b5 := Nat.le_trans K.1 (Nat.le_of_eq g5.symm)
    have ne_a1_b5 : a1 ≠ b5 := Nat.ne_of_lt (Nat.lt_of_lt_of_le V_a1.lt (Nat.le_of_eq g5.symm))
    have ne_b3_b5 : b3 ≠ b5 := Nat.ne_of_lt (Nat.lt_of_lt_of_le V_b3.lt (Nat.le_of_eq g5.symm))
    have Sf_b5 := Safe.ext E5 HR.1 (Safe.new (x := b5) (Nat.le_of_eq g5.symm))
    have HR := HR.trans (CHr.ext E5 HR.1)
    have V_a1 := V_a1.ext E5
    have V_b3 := V_b3.ext E5
    have O := O.ext E5
    have hk := Nat.le_trans hk E5.1
    have K := K.ext E5
    have E_b5 := A5
    have F_value_b5 : Fld Z h5 b5 "java/lang/String" "value" "[B" .null := D5 (Or.inr (ow hw 20 rfl)) (ty := (.array .byte)) (by decide)
    have F_coder_b5 : Fld Z h5 b5 "java/lang/String" "coder" "B" (.int (0 : Int32)) := D5 (Or.inr (ow hw 21 rfl)) (ty := .byte) (by decide)
    refine gb st5 ?_
    show G T5 (mkF m 31 #[rv a1, iv 0, iv (Int32.ofNat cs.length), rv b3, iv (own_cd cs)] [.ref b5])
    refine gb (fun _ k => XS.dup X5.here hx rfl (hb hby d36_31) rfl rfl (XS.aloadN X5.here hx rfl (hb hby d36_32) rfl rfl (XS.iload X5.here hx rfl (hb hby d36_33) rfl k))) ?_
    show G T5 (mkF m 35 #[rv a1, iv 0, iv (Int32.ofNat cs.length), rv b3, iv (own_cd cs)] [.int (own_cd cs), .ref b3, .ref b5, .ref b5])
    have Sk6 : ∀ x ∈ [b5], Safe Z [("java/lang/String", 7), ("java/lang/StringLatin1", 151), ("java/lang/StringUTF16", 295)] _ _ x := (sfS Sf_b5 sf0)
    obtain ⟨_, _, ⟨T6, Lz6, kz6, nz6⟩, -, X6, ⟨Lc6, hQ6, lq6, yq6, zq6⟩, st6⟩ := X5.specialBack hx (y := (⟨"java/lang/String", "<init>", "([BB)V"⟩ : MethodName)) rfl hown (mvT hZ (ow hw 197 rfl)) (mvT hZ (ow hw 198 rfl)) (mvT hZ (ow hw 199 rfl)) (by decide) (backOf (W := 1) (rmIB l Z a0 hw [] b5 b3 (own_cd cs) h5 n0 O E_b5 F_coder_b5 F_value_b5 g_b5 (own_cdn cs) (own_cdf cs)) hZ (ow hw 199 rfl) (ow hw 3 rfl) (by decide) (by decide)) (g := (mkF m 35 #[rv a1, iv 0, iv (Int32.ofNat cs.length), rv b3, iv (own_cd cs)] [.int (own_cd cs), .ref b3, .ref b5, .ref b5])) rfl (by rw [hml]; rfl) (Steps.refl _) (a := b5) (argsL := [(.ref b3), (.int (own_cd cs))]) (rest := [(.ref b5)]) (lenOf pd_23 rfl) rfl (by show 2 * 0 + _ ≤ _; exact Nat.le_of_eq rfl) (hb hby d36_35) (fun _ _ => ⟨rfl, e5, (by decide : 3 + 0 ≤ _), (by decide : 22 + 0 ≤ _)⟩)
    dsimp only [Pt.U, Pt.locs, Pt.cells, Pt.slots] at X6 lq6 yq6 zq6 st6 hQ6
    subst lq6 yq6 zq6
    obtain ⟨h6, e6⟩ : ∃ z, z = T6.heap := ⟨_, rfl⟩
    rw [← e6] at hQ6
    replace e6 := e6.symm
    obtain ⟨rfl, Nq6, Kq6, hR6⟩ := hQ6
    have N := Fr.app N Nq6
    have Sf_b5 := Safe.keep Kq6 Sk6 HR.1 Sf_b5
    have HR := HR.trans (CHr.keep Kq6 Sk6 HR.1)
    have V_a1 := V_a1.keep Kq6 (ninS ne_a1_b5 nin0)
    have V_b3 := V_b3.keep Kq6 (ninS ne_b3_b5 nin0)
    have E_b5 := E_b5.keep Kq6
    have hk := Nat.le_trans hk Kq6.1
    obtain ⟨E_b5, F_coder_b5, F_value_b5⟩ := hR6
    have O := O.keep Kq6 (allS g_b5 all0)
    have K := K.trans Kq6 (allS (Or.inr sz_b5) all0)
    refine gb (fun _ k => st6.trans k) ?_
    show G T6 (mkF m 38 #[rv a1, iv 0, iv (Int32.ofNat cs.length), rv b3, iv (own_cd cs)] [.ref b5])
    exact go X6 hS (Nat.le_trans hk (Nat.le_of_eq (congrArg Array.size e6.symm))) (by rw [e6]; exact HR) hZ (v := (some (.ref b5))) (fun h => by rw [Bd.returns] at h; cases h) (fun fs hr => retOut X6 hx Bd.returns rfl (Or.inr (Or.inr (Or.inr (Or.inr ⟨rfl, rfl, rfl⟩)))) (hb hby d36_38) hr) (by rw [e6]; exact ⟨_, _, _, rfl, N, K, E_b5, F_coder_b5, F_value_b5, V_b3⟩) (by decide) (by decide)
theorem own_same1 {Z : State} {h : Heap} {x b : Addr} {kb : ClassId} {cs ds : List Int32} (e : cs = ds) (E : Exa Z h x "java/lang/String") (C : Fld Z h x "java/lang/String" "coder" "B" (.int (own_cd ds))) (F : Fld Z h x "java/lang/String" "value" "[B" (.ref b)) (V : Arv Z h b kb .byte (Int32.ofNat (own_enc ds).length) ((own_enc ds).map Value.int) (.int (0 : Int32))) : Exa Z h x "java/lang/String" ∧ Fld Z h x "java/lang/String" "coder" "B" (.int (own_cd cs)) ∧ Fld Z h x "java/lang/String" "value" "[B" (.ref b) ∧ Arv Z h b kb .byte (Int32.ofNat (own_enc cs).length) ((own_enc cs).map Value.int) (.int (0 : Int32)) := by subst e; exact ⟨E, C, F, V⟩
theorem own_kkt {cs ds : List Int32} (h : cs = ds.take cs.length) (hl : cs.length ≤ ds.length) (hd : own_kk ds = ds.length) : own_kk cs = cs.length := own_kk_all cs (fun j hj => by rw [← own_pg h hj]; exact own_kk_no ds j (by omega))
theorem own_eqt {cs ds : List Int32} (h : cs = ds.take cs.length) (e : cs.length = ds.length) : cs = ds := by rw [h, e, List.take_length]
def Q_rmSS (Z : State) (a1 a2 : Addr) (k2 : ClassId) (cs ds : List Int32) (h0 : Heap) (n0 : Nat) (sf : Value) (zc : Int32) : Option Value → Heap → List Loc → Prop := fun v h L => ∃ (x b : Addr) (kb : ClassId), v = some (.ref x) ∧ Fr n0 L ∧ Keep h0 h [] ∧ Exa Z h x "java/lang/String" ∧ Fld Z h x "java/lang/String" "coder" "B" (.int (own_cd cs)) ∧ Fld Z h x "java/lang/String" "value" "[B" (.ref b) ∧ Arv Z h b kb .byte (Int32.ofNat (own_enc cs).length) ((own_enc cs).map Value.int) (.int (0 : Int32))
set_option maxRecDepth 65536 in
set_option maxHeartbeats 40000000 in
theorem rmSS (l : Launch) (Z : State) (a0 : Array Value) (hw : ∀ d ∈ tables_1, d.before a0 Z = true) (ws : List Jvm.Cond) (a1 a2 : Addr) (k2 : ClassId) (cs ds : List Int32) (h0 : Heap) (n0 : Nat) (O : Old Z n0 h0) (hEL : EW Z a0 [("java/lang/String", 7), ("java/lang/StringLatin1", 151), ("java/lang/StringUTF16", 295)]) (S_ad : Sta Z Z.heap "java/lang/StringUTF16" "$assertionsDisabled" "Z" (.int (1 : Int32))) (S_hi : Sta Z Z.heap "java/lang/StringUTF16" "HI_BYTE_SHIFT" "I" (.int (0 : Int32))) (S_lo : Sta Z Z.heap "java/lang/StringUTF16" "LO_BYTE_SHIFT" "I" (.int (8 : Int32))) (sf : Value) (hr_sf : sf.isRef = true) (S_sf : Sta Z Z.heap "jdk/internal/util/Preconditions" "SIOOBE_FORMATTER" "Ljava/util/function/BiFunction;" sf) (E_a1 : Exa Z h0 a1 "java/lang/String") (F_coder_a1 : Fld Z h0 a1 "java/lang/String" "coder" "B" (.int (own_cd ds))) (F_value_a1 : Fld Z h0 a1 "java/lang/String" "value" "[B" (.ref a2)) (V_a2 : Arv Z h0 a2 k2 .byte (Int32.ofNat (own_enc ds).length) ((own_enc ds).map Value.int) (.int (0 : Int32))) (zc : Int32) (S_cs : Sta Z Z.heap "java/lang/String" "COMPACT_STRINGS" "Z" (.int zc)) (hzc : ¬ zc = (0 : Int32)) (hpre : cs = ds.take cs.length) (hle : cs.length ≤ ds.length) (hRd : own_R ds) (hR : own_R cs) :
    MetFree l (⟨"java/lang/String", "substring", "(II)Ljava/lang/String;"⟩ : MethodName) (head1 (Jvm.Cond.code (⟨"java/lang/String", "substring", "(II)Ljava/lang/String;"⟩ : MethodName) jdk_42_method_92_code 5 (some (.object "java/lang/String")) :: ws) ({ frames := 6, cells := 3, slots := 22, locals := 103 } : Room)) (fun a U => a = #[(.ref a1), (.int (0 : Int32)), (.int (Int32.ofNat cs.length))] ∧ Z.Warmed39 U.vm ∧ U.heap = h0 ∧ CHv Z [("java/lang/String", 7), ("java/lang/StringLatin1", 151), ("java/lang/StringUTF16", 295)] U.vm h0) (fun _ _ _ _ _ => True) (fun _ U o U' => ∃ v L, o = .returned v ∧ (Q_rmSS Z a1 a2 k2 cs ds h0 n0 sf zc) v U'.heap L ∧ CHr Z [("java/lang/String", 7), ("java/lang/StringLatin1", 151), ("java/lang/StringUTF16", 295)] U.vm U.heap U'.vm U'.heap ∧ ReturnedEndW U o U' L ({ frames := 6, cells := 3, slots := 22, locals := 103 } : Room).cells ({ frames := 6, cells := 3, slots := 22, locals := 103 } : Room).slots) := by
  refine MetFree.of_bodySF (plainFor_of_name pn_1) hisR ?_
  intro p e s m args below meth c s₁ Bd hml0 hP hK
  obtain ⟨rfl, hZ, hh, hHC⟩ := hP
  have hx := Bd.exec
  have hby := Bd.bytes
  have hml : c.maxLocals = 5 := hml0
  have hown : s.vm.findClass "java/lang/String" = some m.cls := findClass_of_methodNamed Bd.named
  have hnm := (name_of_methodNamed Bd.named Bd.method).1
  have hlk := BodyLoose.notSynchronized Bd
  have X0 : Stand p l e ({ frames := 6, cells := 3, slots := 22, locals := 103 } : Room) (s.setVm s.vm) m #[(.ref a1), (.int (0 : Int32)), (.int (Int32.ofNat cs.length))] below meth c s₁ [] 0 0 := Stand.of_body Bd
  have e0 : s₁.heap = h0 := by rw [← hh, Bd.state]; rfl
  have N := Fr.nil n0
  have hS : s.Since s.vm h0.size := (State.WarmedH.refl s).since _
  have hk := Nat.le_refl h0.size
  have HR : CHr Z [("java/lang/String", 7), ("java/lang/StringLatin1", 151), ("java/lang/StringUTF16", 295)] s.vm h0 s.vm h0 := CHr.refl hHC
  have K := Keep.refl h0 []
  obtain ⟨G, hG⟩ : ∃ G : State → JFrame → Prop, G = OwnGH p e below s Z [("java/lang/String", 7), ("java/lang/StringLatin1", 151), ("java/lang/StringUTF16", 295)] ({ frames := 6, cells := 3, slots := 22, locals := 103 } : Room).cells ({ frames := 6, cells := 3, slots := 22, locals := 103 } : Room).slots (Q_rmSS Z a1 a2 k2 cs ds h0 n0 sf zc) := ⟨_, rfl⟩
  have gb : ∀ {T T' : State} {g g' : JFrame}, (∀ t, Steps p.tables e below (T'.setTop g') t → Steps p.tables e below (T.setTop g) t) → G T' g' → G T g := by subst hG; exact fun k h => own_byH k h
  have go : ∀ {T : State} {locs : List Loc} {cells slots : Nat} {g : JFrame} {v : Option Value} {vm : Vm} {k : Nat}, Stand p l e ({ frames := 6, cells := 3, slots := 22, locals := 103 } : Room) (s.setVm vm) m #[(.ref a1), (.int (0 : Int32)), (.int (Int32.ofNat cs.length))] below meth c T locs cells slots → s.Since vm k → k ≤ T.heap.size → CHr Z [("java/lang/String", 7), ("java/lang/StringLatin1", 151), ("java/lang/StringUTF16", 295)] s.vm h0 vm T.heap → Z.Warmed39 vm → (meth.sig.returnType = none → v = none) → (∀ fs, (∀ (f : JFrame) (acts : List Action), f.method = m → f.locked = none → f.entered = [] → (doReturn e (T.setTop f) acts v).1 = T.setFrames fs) → Steps p.tables e below (T.setTop g) (T.setFrames fs)) → (Q_rmSS Z a1 a2 k2 cs ds h0 n0 sf zc) v T.heap locs → cells ≤ ({ frames := 6, cells := 3, slots := 22, locals := 103 } : Room).cells → slots ≤ ({ frames := 6, cells := 3, slots := 22, locals := 103 } : Room).slots → G T g := by subst hG; exact fun X a b c' d h1 h2 h3 h4 h5 => own_outH X hh hEL a b c' d hlk h1 h2 h3 h4 h5
  show OwnGH p e below s Z [("java/lang/String", 7), ("java/lang/StringLatin1", 151), ("java/lang/StringUTF16", 295)] ({ frames := 6, cells := 3, slots := 22, locals := 103 } : Room).cells ({ frames := 6, cells := 3, slots := 22, locals := 103 } : Room).slots (Q_rmSS Z a1 a2 k2 cs ds h0 n0 sf zc) s₁ (entryFrame m #[(.ref a1), (.int (0 : Int32)), (.int (Int32.ofNat cs.length))] 5)
  rw [← hG, ef_rmSS m a1 (0 : Int32) (Int32.ofNat cs.length)]
  clear hG
  show G s₁ (mkF m 0 #[.val (.ref a1), .val (.int (0 : Int32)), .val (.int (Int32.ofNat cs.length)), .unset, .unset] [])
  have hr6 := hR.1
  have hr7 := hRd.1
  refine gb (fun _ k => XS.aloadN X0.here hx rfl (hb hby d9_0) rfl rfl k) ?_
  show G s₁ (mkF m 1 #[rv a1, iv 0, iv (Int32.ofNat cs.length), .unset, .unset] [.ref a1])
  obtain ⟨cq1, kq1, q1a, q1b, q1c⟩ := isOf hZ e0 E_a1
  obtain ⟨_, _, ⟨T1, Lz1, kz1, nz1⟩, -, X1, ⟨Lc1, hQ1, lq1, yq1, zq1⟩, st1⟩ := X0.virtualBack hx (y := (⟨"java/lang/String", "length", "()I"⟩ : MethodName)) (z := (⟨"java/lang/String", "length", "()I"⟩ : MethodName)) hown (mvT hZ (ow hw 49 rfl)) (mvT hZ (ow hw 34 rfl)) (notFace_of_selects (args := #[]) (mvT hZ (ow hw 36 rfl))) (mvT hZ (ow hw 36 rfl)) (mvT hZ (ow hw 35 rfl)) (by decide) (backOf (W := 0) (rmLn l Z a0 hw [] a1 a2 k2 ds h0 n0 O E_a1 F_coder_a1 F_value_a1 V_a2 zc S_cs hzc hRd) hZ (ow hw 37 rfl) (ow hw 3 rfl) (by decide) (by decide)) q1a q1c (g := (mkF m 1 #[rv a1, iv 0, iv (Int32.ofNat cs.length), .unset, .unset] [.ref a1])) rfl (by rw [hml]; rfl) (Steps.refl _) (argsL := []) (rest := []) (lenOf pd_24 rfl) rfl (by show 2 * 0 + _ ≤ _; exact Nat.le_of_eq rfl) (hb hby d9_1) (fun _ _ => ⟨rfl, e0, (by decide : 0 + 0 ≤ _), (by decide : 0 + 0 ≤ _)⟩)
  dsimp only [Pt.U, Pt.locs, Pt.cells, Pt.slots] at X1 lq1 yq1 zq1 st1 hQ1
  subst lq1 yq1 zq1
  obtain ⟨rfl, rfl, e1⟩ := hQ1
  try rw [List.append_nil] at X1
  refine gb (fun _ k => st1.trans k) ?_
  show G T1 (mkF m 4 #[rv a1, iv 0, iv (Int32.ofNat cs.length), .unset, .unset] [.int (Int32.ofNat ds.length)])
  refine gb (fun _ k => XS.istoreN X1.here hx rfl (hb hby d9_4) rfl (l' := #[rv a1, iv 0, iv (Int32.ofNat cs.length), iv (Int32.ofNat ds.length), .unset]) rfl (XS.iloadN X1.here hx rfl (hb hby d9_5) rfl (XS.iloadN X1.here hx rfl (hb hby d9_6) rfl (XS.iloadN X1.here hx rfl (hb hby d9_7) rfl k)))) ?_
  show G T1 (mkF m 8 #[rv a1, iv 0, iv (Int32.ofNat cs.length), iv (Int32.ofNat ds.length), .unset] [.int (Int32.ofNat ds.length), .int (Int32.ofNat cs.length), .int 0])
  obtain ⟨_, _, ⟨T2, Lz2, kz2, nz2⟩, -, X2, ⟨Lc2, hQ2, lq2, yq2, zq2⟩, st2⟩ := Jvm.LawKit.callS X1 hx (y := (⟨"java/lang/String", "checkBoundsBeginEnd", "(III)V"⟩ : MethodName)) hown (mvT hZ (ow hw 50 rfl)) (mvT hZ (ow hw 51 rfl)) (mvT hZ (ow hw 3 rfl)) (mvT hZ (ow hw 52 rfl)) (by decide) (backOf (W := 0) (rmBE l Z a0 hw [] (Int32.ofNat cs.length) (Int32.ofNat ds.length) sf hr_sf S_sf h0 n0 O (own_nn (by omega)) (own_nlt hle (by omega))) hZ (ow hw 52 rfl) (ow hw 3 rfl) (by decide) (by decide)) (g := (mkF m 8 #[rv a1, iv 0, iv (Int32.ofNat cs.length), iv (Int32.ofNat ds.length), .unset] [.int (Int32.ofNat ds.length), .int (Int32.ofNat cs.length), .int 0])) rfl (by rw [hml]; rfl) (argsL := [(.int (0 : Int32)), (.int (Int32.ofNat cs.length)), (.int (Int32.ofNat ds.length))]) (rest := []) (lenOf pd_25 rfl) rfl (by show 2 * 0 + _ ≤ _; exact Nat.le_of_eq rfl) (hb hby d9_8) (fun _ _ => ⟨rfl, e1, (by decide : 0 + 0 ≤ _), (by decide : 0 + 0 ≤ _)⟩)
  dsimp only [Pt.U, Pt.locs, Pt.cells, Pt.slots] at X2 lq2 yq2 zq2 st2 hQ2
  subst lq2 yq2 zq2
  obtain ⟨rfl, rfl, e2⟩ := hQ2
  try rw [List.append_nil] at X2
  refine gb st2 ?_
  show G T2 (mkF m 11 #[rv a1, iv 0, iv (Int32.ofNat cs.length), iv (Int32.ofNat ds.length), .unset] [])
  refine gb (fun _ k => XS.iloadN X2.here hx rfl (hb hby d9_11) rfl (XS.ifNo X2.here hx rfl (hb hby d9_12) rfl ((if0 _ _).trans (teq (by decide : (0 : Int32) = (0 : Int32))).2) (XS.iloadN X2.here hx rfl (hb hby d9_15) rfl (XS.iloadN X2.here hx rfl (hb hby d9_16) rfl k)))) ?_
  show G T2 (mkF m 17 #[rv a1, iv 0, iv (Int32.ofNat cs.length), iv (Int32.ofNat ds.length), .unset] [.int (Int32.ofNat ds.length), .int (Int32.ofNat cs.length)])
  by_cases hlen : cs.length = ds.length
  · skip
    have heq : cs = ds := own_eqt hpre hlen
    refine gb (fun _ k => XS.icmpNo X2.here hx rfl (hb hby d9_17) rfl (teq (by rw [hlen])).2 (XS.aloadN X2.here hx rfl (hb hby d9_20) rfl rfl k)) ?_
    show G T2 (mkF m 21 #[rv a1, iv 0, iv (Int32.ofNat cs.length), iv (Int32.ofNat ds.length), .unset] [.ref a1])
    exact go X2 hS (Nat.le_trans hk (Nat.le_of_eq (congrArg Array.size e2.symm))) (by rw [e2]; exact HR) hZ (v := (some (.ref a1))) (fun h => by rw [Bd.returns] at h; cases h) (fun fs hr => retOut X2 hx Bd.returns rfl (Or.inr (Or.inr (Or.inr (Or.inr ⟨rfl, rfl, rfl⟩)))) (hb hby d9_21) hr) (by rw [e2]; exact ⟨a1, a2, k2, rfl, N, K, own_same1 heq E_a1 F_coder_a1 F_value_a1 V_a2⟩) (by decide) (by decide)
  · skip
    refine gb (fun _ k => XS.icmpYes X2.here hx rfl (pc0 := 17) (pc' := 22) rfl (hb hby d9_17) rfl (feq (fun q => hlen (own_inj (by omega) (by omega) q))).2 (by decide) (by decide) (XS.iloadN X2.here hx rfl (hb hby d9_22) rfl (XS.iloadN X2.here hx rfl (hb hby d9_23) rfl (XS.isub X2.here hx rfl (hb hby d9_24) rfl k)))) ?_
    show G T2 (mkF m 25 #[rv a1, iv 0, iv (Int32.ofNat cs.length), iv (Int32.ofNat ds.length), .unset] [.int ((Int32.ofNat cs.length) - (0 : Int32))])
    rw [own_sub0]
    show G T2 (mkF m 25 #[rv a1, iv 0, iv (Int32.ofNat cs.length), iv (Int32.ofNat ds.length), .unset] [.int (Int32.ofNat cs.length)])
    refine gb (fun _ k => XS.istore X2.here hx rfl (hb hby d9_25) rfl (l' := #[rv a1, iv 0, iv (Int32.ofNat cs.length), iv (Int32.ofNat ds.length), iv (Int32.ofNat cs.length)]) rfl k) ?_
    show G T2 (mkF m 27 #[rv a1, iv 0, iv (Int32.ofNat cs.length), iv (Int32.ofNat ds.length), iv (Int32.ofNat cs.length)] [])
    by_cases hL : own_kk ds = ds.length
    · skip
      have V_a2 := own_unL hL V_a2
      refine gb (fun _ k => XS.aloadN X2.here hx rfl (hb hby d9_27) rfl rfl k) ?_
      show G T2 (mkF m 28 #[rv a1, iv 0, iv (Int32.ofNat cs.length), iv (Int32.ofNat ds.length), iv (Int32.ofNat cs.length)] [.ref a1])
      obtain ⟨cq3, kq3, q3a, q3b, q3c⟩ := isOf hZ e2 E_a1
      obtain ⟨_, _, ⟨T3, Lz3, kz3, nz3⟩, -, X3, ⟨Lc3, hQ3, lq3, yq3, zq3⟩, st3⟩ := X2.virtualBack hx (y := (⟨"java/lang/String", "isLatin1", "()Z"⟩ : MethodName)) (z := (⟨"java/lang/String", "isLatin1", "()Z"⟩ : MethodName)) hown (mvT hZ (ow hw 116 rfl)) (mvT hZ (ow hw 117 rfl)) (notFace_of_selects (args := #[]) (mvT hZ (ow hw 119 rfl))) (mvT hZ (ow hw 119 rfl)) (mvT hZ (ow hw 118 rfl)) (by decide) (backOf (W := 0) (rmILL l Z a0 hw [] a1 ds h0 n0 O F_coder_a1 zc S_cs hzc hL) hZ (ow hw 120 rfl) (ow hw 3 rfl) (by decide) (by decide)) q3a q3c (g := (mkF m 28 #[rv a1, iv 0, iv (Int32.ofNat cs.length), iv (Int32.ofNat ds.length), iv (Int32.ofNat cs.length)] [.ref a1])) rfl (by rw [hml]; rfl) (Steps.refl _) (argsL := []) (rest := []) (lenOf pd_16 rfl) rfl (by show 2 * 0 + _ ≤ _; exact Nat.le_of_eq rfl) (hb hby d9_28) (fun _ _ => ⟨rfl, e2, (by decide : 0 + 0 ≤ _), (by decide : 0 + 0 ≤ _)⟩)
      dsimp only [Pt.U, Pt.locs, Pt.cells, Pt.slots] at X3 lq3 yq3 zq3 st3 hQ3
      subst lq3 yq3 zq3
      obtain ⟨rfl, rfl, e3⟩ := hQ3
      try rw [List.append_nil] at X3
      refine gb (fun _ k => st3.trans k) ?_
      show G T3 (mkF m 31 #[rv a1, iv 0, iv (Int32.ofNat cs.length), iv (Int32.ofNat ds.length), iv (Int32.ofNat cs.length)] [.int 1])
      refine gb (fun _ k => XS.ifNo X3.here hx rfl (hb hby d9_31) rfl ((if0 _ _).trans (feq (by decide : ¬ ((1 : Int32) = (0 : Int32)))).1) (XS.aloadN X3.here hx rfl (hb hby d9_34) rfl rfl k)) ?_
      show G T3 (mkF m 35 #[rv a1, iv 0, iv (Int32.ofNat cs.length), iv (Int32.ofNat ds.length), iv (Int32.ofNat cs.length)] [.ref a1])
      obtain ⟨T4, X4, e4, st4⟩ := getF X3 hx hZ hown (host := "") (Or.inl (ow hw 24 rfl)) Via.refl e3 F_value_a1 (g := (mkF m 35 #[rv a1, iv 0, iv (Int32.ofNat cs.length), iv (Int32.ofNat ds.length), iv (Int32.ofNat cs.length)] [.ref a1])) rfl rfl (hb hby d9_35)
      refine gb st4 ?_
      show G T4 (mkF m 38 #[rv a1, iv 0, iv (Int32.ofNat cs.length), iv (Int32.ofNat ds.length), iv (Int32.ofNat cs.length)] [.ref a2])
      refine gb (fun _ k => XS.iloadN X4.here hx rfl (hb hby d9_38) rfl (XS.iload X4.here hx rfl (hb hby d9_39) rfl k)) ?_
      show G T4 (mkF m 41 #[rv a1, iv 0, iv (Int32.ofNat cs.length), iv (Int32.ofNat ds.length), iv (Int32.ofNat cs.length)] [.int (Int32.ofNat cs.length), .int 0, .ref a2])
      have lt_a1 := E_a1.lt
      have lt_a2 := V_a2.lt
      obtain ⟨_, _, ⟨T5, Lz5, kz5, nz5⟩, -, X5, hS5, hg5, ⟨Lc5, hQ5, lq5, yq5, zq5, hC5⟩, st5⟩ := callSS X4 hx (y := (⟨"java/lang/StringLatin1", "newString", "([BII)Ljava/lang/String;"⟩ : MethodName)) hown (mvT hZ (ow hw 201 rfl)) (mvT hZ (ow hw 202 rfl)) (mvT hZ (ow hw 66 rfl)) (mvT hZ (ow hw 203 rfl)) (by decide) (backOfSH (W := 0) (rmLNS l Z a0 hw [] a2 k2 cs ds h0 n0 O hEL V_a2 hpre (by omega) hRd hR (own_kkt hpre hle hL)) hZ (ow hw 203 rfl) (ow hw 66 rfl) (by decide) (by decide) hEL HR.1) (g := (mkF m 41 #[rv a1, iv 0, iv (Int32.ofNat cs.length), iv (Int32.ofNat ds.length), iv (Int32.ofNat cs.length)] [.int (Int32.ofNat cs.length), .int 0, .ref a2])) rfl (by rw [hml]; rfl) (argsL := [(.ref a2), (.int (0 : Int32)), (.int (Int32.ofNat cs.length))]) (rest := []) (lenOf pd_26 rfl) rfl (by show 2 * 0 + _ ≤ _; exact Nat.le_of_eq rfl) (hb hby d9_41) (fun _ _ => ⟨rfl, e4, (by decide : 0 + 2 ≤ _), (by decide : 0 + 16 ≤ _)⟩)
      dsimp only [Pt.U, Pt.locs, Pt.cells, Pt.slots] at X5 lq5 yq5 zq5 st5 hQ5 hS5 hg5 hC5
      subst lq5 yq5 zq5
      obtain ⟨X5, hS, hZ, hown⟩ := rebS hS (Nat.le_trans hk (Nat.le_of_eq (congrArg Array.size e4.symm))) X5 hS5 hg5 hZ hown
      obtain ⟨h5, e5⟩ : ∃ z, z = T5.heap := ⟨_, rfl⟩
      rw [← e5] at hQ5 hC5
      replace e5 := e5.symm
      obtain ⟨x5, b5, kb5, rfl, Nq5, Kq5, hR5⟩ := hQ5
      have N := Fr.app N Nq5
      have HR := HR.trans hC5
      have E_a1 := E_a1.keep Kq5
      have F_coder_a1 := F_coder_a1.keep Kq5 nin0
      have F_value_a1 := F_value_a1.keep Kq5 nin0
      have V_a2 := V_a2.keep Kq5 nin0
      have hk := Nat.le_trans hk Kq5.1
      have hk : T5.heap.size ≤ h5.size := by rw [e5]; exact Nat.le_refl _
      obtain ⟨E_x5, F_coder_x5, F_value_x5, V_b5⟩ := hR5
      have O := O.keep Kq5 all0
      have K := K.trans Kq5 all0
      refine gb (fun _ k => st5.trans k) ?_
      show G T5 (mkF m 44 #[rv a1, iv 0, iv (Int32.ofNat cs.length), iv (Int32.ofNat ds.length), iv (Int32.ofNat cs.length)] [.ref x5])
      refine gb (fun _ k => XS.goto X5.here hx rfl (pc0 := 44) (pc' := 57) rfl (hb hby d9_44) (by decide) (by decide) k) ?_
      show G T5 (mkF m 57 #[rv a1, iv 0, iv (Int32.ofNat cs.length), iv (Int32.ofNat ds.length), iv (Int32.ofNat cs.length)] [.ref x5])
      exact go X5 hS (Nat.le_trans hk (Nat.le_of_eq (congrArg Array.size e5.symm))) (by rw [e5]; exact HR) hZ (v := (some (.ref x5))) (fun h => by rw [Bd.returns] at h; cases h) (fun fs hr => retOut X5 hx Bd.returns rfl (Or.inr (Or.inr (Or.inr (Or.inr ⟨rfl, rfl, rfl⟩)))) (hb hby d9_57) hr) (by rw [e5]; exact ⟨_, _, _, rfl, N, K, E_x5, F_coder_x5, F_value_x5, V_b5⟩) (by decide) (by decide)
    · skip
      have V_a2 := own_unU hL V_a2
      refine gb (fun _ k => XS.aloadN X2.here hx rfl (hb hby d9_27) rfl rfl k) ?_
      show G T2 (mkF m 28 #[rv a1, iv 0, iv (Int32.ofNat cs.length), iv (Int32.ofNat ds.length), iv (Int32.ofNat cs.length)] [.ref a1])
      obtain ⟨cq6, kq6, q6a, q6b, q6c⟩ := isOf hZ e2 E_a1
      obtain ⟨_, _, ⟨T6, Lz6, kz6, nz6⟩, -, X6, ⟨Lc6, hQ6, lq6, yq6, zq6⟩, st6⟩ := X2.virtualBack hx (y := (⟨"java/lang/String", "isLatin1", "()Z"⟩ : MethodName)) (z := (⟨"java/lang/String", "isLatin1", "()Z"⟩ : MethodName)) hown (mvT hZ (ow hw 116 rfl)) (mvT hZ (ow hw 117 rfl)) (notFace_of_selects (args := #[]) (mvT hZ (ow hw 119 rfl))) (mvT hZ (ow hw 119 rfl)) (mvT hZ (ow hw 118 rfl)) (by decide) (backOf (W := 0) (rmILU l Z a0 hw [] a1 ds h0 n0 O F_coder_a1 zc S_cs hzc hL) hZ (ow hw 120 rfl) (ow hw 3 rfl) (by decide) (by decide)) q6a q6c (g := (mkF m 28 #[rv a1, iv 0, iv (Int32.ofNat cs.length), iv (Int32.ofNat ds.length), iv (Int32.ofNat cs.length)] [.ref a1])) rfl (by rw [hml]; rfl) (Steps.refl _) (argsL := []) (rest := []) (lenOf pd_16 rfl) rfl (by show 2 * 0 + _ ≤ _; exact Nat.le_of_eq rfl) (hb hby d9_28) (fun _ _ => ⟨rfl, e2, (by decide : 0 + 0 ≤ _), (by decide : 0 + 0 ≤ _)⟩)
      dsimp only [Pt.U, Pt.locs, Pt.cells, Pt.slots] at X6 lq6 yq6 zq6 st6 hQ6
      subst lq6 yq6 zq6
      obtain ⟨rfl, rfl, e6⟩ := hQ6
      try rw [List.append_nil] at X6
      refine gb (fun _ k => st6.trans k) ?_
      show G T6 (mkF m 31 #[rv a1, iv 0, iv (Int32.ofNat cs.length), iv (Int32.ofNat ds.length), iv (Int32.ofNat cs.length)] [.int 0])
      refine gb (fun _ k => XS.ifYes X6.here hx rfl (pc0 := 31) (pc' := 47) rfl (hb hby d9_31) rfl ((if0 _ _).trans (teq (by decide : (0 : Int32) = (0 : Int32))).1) (by decide) (by decide) (XS.aloadN X6.here hx rfl (hb hby d9_47) rfl rfl k)) ?_
      show G T6 (mkF m 48 #[rv a1, iv 0, iv (Int32.ofNat cs.length), iv (Int32.ofNat ds.length), iv (Int32.ofNat cs.length)] [.ref a1])
      obtain ⟨T7, X7, e7, st7⟩ := getF X6 hx hZ hown (host := "") (Or.inl (ow hw 24 rfl)) Via.refl e6 F_value_a1 (g := (mkF m 48 #[rv a1, iv 0, iv (Int32.ofNat cs.length), iv (Int32.ofNat ds.length), iv (Int32.ofNat cs.length)] [.ref a1])) rfl rfl (hb hby d9_48)
      refine gb st7 ?_
      show G T7 (mkF m 51 #[rv a1, iv 0, iv (Int32.ofNat cs.length), iv (Int32.ofNat ds.length), iv (Int32.ofNat cs.length)] [.ref a2])
      refine gb (fun _ k => XS.iloadN X7.here hx rfl (hb hby d9_51) rfl (XS.iload X7.here hx rfl (hb hby d9_52) rfl k)) ?_
      show G T7 (mkF m 54 #[rv a1, iv 0, iv (Int32.ofNat cs.length), iv (Int32.ofNat ds.length), iv (Int32.ofNat cs.length)] [.int (Int32.ofNat cs.length), .int 0, .ref a2])
      have lt_a1 := E_a1.lt
      have lt_a2 := V_a2.lt
      obtain ⟨_, _, ⟨T8, Lz8, kz8, nz8⟩, -, X8, hS8, hg8, ⟨Lc8, hQ8, lq8, yq8, zq8, hC8⟩, st8⟩ := callSS X7 hx (y := (⟨"java/lang/StringUTF16", "newString", "([BII)Ljava/lang/String;"⟩ : MethodName)) hown (mvT hZ (ow hw 155 rfl)) (mvT hZ (ow hw 156 rfl)) (mvT hZ (ow hw 81 rfl)) (mvT hZ (ow hw 157 rfl)) (by decide) (backOfSH (W := 0) (rmUNS l Z a0 hw [] a2 k2 cs ds h0 n0 O hEL S_ad S_hi S_lo sf hr_sf S_sf V_a2 hpre (by omega) hRd hR zc S_cs hzc) hZ (ow hw 157 rfl) (ow hw 81 rfl) (by decide) (by decide) hEL HR.1) (g := (mkF m 54 #[rv a1, iv 0, iv (Int32.ofNat cs.length), iv (Int32.ofNat ds.length), iv (Int32.ofNat cs.length)] [.int (Int32.ofNat cs.length), .int 0, .ref a2])) rfl (by rw [hml]; rfl) (argsL := [(.ref a2), (.int (0 : Int32)), (.int (Int32.ofNat cs.length))]) (rest := []) (lenOf pd_26 rfl) rfl (by show 2 * 0 + _ ≤ _; exact Nat.le_of_eq rfl) (hb hby d9_54) (fun _ _ => ⟨rfl, e7, (by decide : 0 + 3 ≤ _), (by decide : 0 + 22 ≤ _)⟩)
      dsimp only [Pt.U, Pt.locs, Pt.cells, Pt.slots] at X8 lq8 yq8 zq8 st8 hQ8 hS8 hg8 hC8
      subst lq8 yq8 zq8
      obtain ⟨X8, hS, hZ, hown⟩ := rebS hS (Nat.le_trans hk (Nat.le_of_eq (congrArg Array.size e7.symm))) X8 hS8 hg8 hZ hown
      obtain ⟨h8, e8⟩ : ∃ z, z = T8.heap := ⟨_, rfl⟩
      rw [← e8] at hQ8 hC8
      replace e8 := e8.symm
      obtain ⟨x8, b8, kb8, rfl, Nq8, Kq8, hR8⟩ := hQ8
      have N := Fr.app N Nq8
      have HR := HR.trans hC8
      have E_a1 := E_a1.keep Kq8
      have F_coder_a1 := F_coder_a1.keep Kq8 nin0
      have F_value_a1 := F_value_a1.keep Kq8 nin0
      have V_a2 := V_a2.keep Kq8 nin0
      have hk := Nat.le_trans hk Kq8.1
      have hk : T8.heap.size ≤ h8.size := by rw [e8]; exact Nat.le_refl _
      obtain ⟨E_x8, F_coder_x8, F_value_x8, V_b8⟩ := hR8
      have O := O.keep Kq8 all0
      have K := K.trans Kq8 all0
      refine gb (fun _ k => st8.trans k) ?_
      show G T8 (mkF m 57 #[rv a1, iv 0, iv (Int32.ofNat cs.length), iv (Int32.ofNat ds.length), iv (Int32.ofNat cs.length)] [.ref x8])
      exact go X8 hS (Nat.le_trans hk (Nat.le_of_eq (congrArg Array.size e8.symm))) (by rw [e8]; exact HR) hZ (v := (some (.ref x8))) (fun h => by rw [Bd.returns] at h; cases h) (fun fs hr => retOut X8 hx Bd.returns rfl (Or.inr (Or.inr (Or.inr (Or.inr ⟨rfl, rfl, rfl⟩)))) (hb hby d9_57) hr) (by rw [e8]; exact ⟨_, _, _, rfl, N, K, E_x8, F_coder_x8, F_value_x8, V_b8⟩) (by decide) (by decide)
def own_un (p : Int32) : List Int32 := if p < (65536 : Int32) then [p] else [(55296 : Int32) + ((p - (65536 : Int32)) >>> ((10 : Int32) &&& 31)), (56320 : Int32) + ((p - (65536 : Int32)) &&& (1023 : Int32))]
def own_us : List Int32 → List Int32
  | [] => []
  | p :: r => own_un p ++ own_us r
def own_V (p : Int32) : Prop := 0 ≤ p.toInt ∧ p.toInt ≤ 1114111 ∧ ¬ (55296 ≤ p.toInt ∧ p.toInt ≤ 57343)
def own_ld (mx : Int32) : Int32 → List Int32 → List Int32
  | _, [] => []
  | t, p :: r => if mx < t + own_sz p then [] else p :: own_ld mx (t + own_sz p) r
theorem own_us_app : ∀ a b : List Int32, own_us (a ++ b) = own_us a ++ own_us b
  | [], b => rfl
  | p :: r, b => by
    show own_un p ++ own_us (r ++ b) = (own_un p ++ own_us r) ++ own_us b
    rw [own_us_app r b, List.append_assoc]
theorem own_us1 (a : List Int32) (p : Int32) : own_us (a ++ [p]) = own_us a ++ own_un p := by
  rw [own_us_app]
  show own_us a ++ (own_un p ++ []) = _
  rw [List.append_nil]
theorem own_un_cc (p : Int32) : Int32.ofNat (own_un p).length = own_cc p := by
  by_cases h : p < (65536 : Int32)
  · rw [show own_un p = [p] from if_pos h, show own_cc p = 1 from if_pos h]; rfl
  · rw [show own_un p = [(55296 : Int32) + ((p - (65536 : Int32)) >>> ((10 : Int32) &&& 31)), (56320 : Int32) + ((p - (65536 : Int32)) &&& (1023 : Int32))] from if_neg h, show own_cc p = 2 from if_neg h]; rfl
theorem own_un_len (p : Int32) : 0 < (own_un p).length ∧ (own_un p).length ≤ 2 := by
  by_cases h : p < (65536 : Int32)
  · rw [show own_un p = [p] from if_pos h]; exact ⟨by show 0 < 1; decide, by show 1 ≤ 2; decide⟩
  · rw [show own_un p = [(55296 : Int32) + ((p - (65536 : Int32)) >>> ((10 : Int32) &&& 31)), (56320 : Int32) + ((p - (65536 : Int32)) &&& (1023 : Int32))] from if_neg h]; exact ⟨Nat.succ_pos _, Nat.le_refl _⟩
/-- the two units of a point above 65535 -/
theorem own_b3 : (-56613888 : Int32).toInt = -56613888 := by decide
theorem own_pair {p c d : Int32} (hV : own_V p) (h : ¬ p < (65536 : Int32)) (hc : c = (55296 : Int32) + ((p - (65536 : Int32)) >>> ((10 : Int32) &&& 31))) (hd : d = (56320 : Int32) + ((p - (65536 : Int32)) &&& (1023 : Int32))) : (55296 ≤ c.toInt ∧ c.toInt ≤ 56319) ∧ (56320 ≤ d.toInt ∧ d.toInt ≤ 57343) ∧ own_tcp c d = p := by
  obtain ⟨v1, v2, -⟩ := hV
  have a6 : (65536 : Int32).toInt = 65536 := rfl
  rw [Int32.lt_iff_toInt_lt, a6] at h
  have e1 := c_isub p (65536 : Int32)
  rw [a6] at e1
  have r1 := Int32.toInt_lt (p - (65536 : Int32))
  have r2 := Int32.le_toInt (p - (65536 : Int32))
  generalize (p - (65536 : Int32)) = x at e1 r1 r2 hc hd
  have hx : x.toInt = p.toInt - 65536 := by omega
  clear e1 r1 r2
  have e2 := c_ishr x (10 : Int32) 10 (by decide)
  have e3 := c_mask x (1023 : Int32) 10 (by decide) (by decide)
  generalize (x >>> ((10 : Int32) &&& 31)) = y at e2 hc
  generalize (x &&& (1023 : Int32)) = w at e3 hd
  have p10 : ((2 ^ 10 : Nat) : Int) = 1024 := rfl
  rw [p10] at e2 e3
  have f1 := c_iadd (55296 : Int32) y
  have f2 := c_iadd (56320 : Int32) w
  have b1 : (55296 : Int32).toInt = 55296 := rfl
  have b2 : (56320 : Int32).toInt = 56320 := rfl
  rw [b1, ← hc] at f1
  rw [b2, ← hd] at f2
  have hy : 0 ≤ y.toInt ∧ y.toInt ≤ 1023 := by omega
  have hw : 0 ≤ w.toInt ∧ w.toInt ≤ 1023 := by omega
  have hxy : x.toInt = 1024 * y.toInt + w.toInt := by omega
  clear e2 e3
  have t1 := Int32.toInt_lt c
  have t2 := Int32.le_toInt c
  have t3 := Int32.toInt_lt d
  have t4 := Int32.le_toInt d
  have hcv : c.toInt = 55296 + y.toInt := by omega
  have hdv : d.toInt = 56320 + w.toInt := by omega
  clear t1 t2 t3 t4 f1 f2
  refine ⟨by omega, by omega, ?_⟩
  have g1 := c_ishl c (10 : Int32) 10 (by decide)
  rw [p10] at g1
  have u1 := Int32.toInt_lt (c <<< ((10 : Int32) &&& 31))
  have u2 := Int32.le_toInt (c <<< ((10 : Int32) &&& 31))
  show ((c <<< ((10 : Int32) &&& 31)) + d) + (-56613888 : Int32) = p
  generalize (c <<< ((10 : Int32) &&& 31)) = z at g1 u1 u2 ⊢
  have hz : z.toInt = c.toInt * 1024 := by omega
  clear g1 u1 u2
  have g2 := c_iadd z d
  have u3 := Int32.toInt_lt (z + d)
  have u4 := Int32.le_toInt (z + d)
  generalize (z + d) = zd at g2 u3 u4 ⊢
  have hzd : zd.toInt = z.toInt + d.toInt := by omega
  clear g2 u3 u4
  have g3 := c_iadd zd (-56613888 : Int32)
  rw [own_b3] at g3
  have u5 := Int32.toInt_lt (zd + (-56613888 : Int32))
  have u6 := Int32.le_toInt (zd + (-56613888 : Int32))
  generalize (zd + (-56613888 : Int32)) = k at g3 u5 u6 ⊢
  have hk : k.toInt = zd.toInt - 56613888 := by omega
  exact Int32.toInt_inj.mp (by omega)
theorem own_un_R {p : Int32} (hV : own_V p) : ∀ c ∈ own_un p, 0 ≤ c.toInt ∧ c.toInt ≤ 65535 := by
  intro c hc
  by_cases h : p < (65536 : Int32)
  · rw [show own_un p = [p] from if_pos h] at hc
    cases List.mem_singleton.mp hc
    have a6 : (65536 : Int32).toInt = 65536 := rfl
    rw [Int32.lt_iff_toInt_lt, a6] at h
    exact ⟨hV.1, by omega⟩
  · have q := own_pair hV h rfl rfl
    rw [show own_un p = [(55296 : Int32) + ((p - (65536 : Int32)) >>> ((10 : Int32) &&& 31)), (56320 : Int32) + ((p - (65536 : Int32)) &&& (1023 : Int32))] from if_neg h] at hc
    rcases List.mem_cons.mp hc with rfl | hc
    · exact ⟨by have := q.1.1; omega, by have := q.1.2; omega⟩
    · cases List.mem_singleton.mp hc
      exact ⟨by have := q.2.1.1; omega, by have := q.2.1.2; omega⟩
theorem own_us_R : ∀ ps : List Int32, (∀ p ∈ ps, own_V p) → ∀ c ∈ own_us ps, 0 ≤ c.toInt ∧ c.toInt ≤ 65535
  | [], _, c, hc => by cases hc
  | p :: r, hV, c, hc => by
    rcases List.mem_append.mp (show c ∈ own_un p ++ own_us r from hc) with h | h
    · exact own_un_R (hV p (List.mem_cons_self ..)) c h
    · exact own_us_R r (fun q hq => hV q (List.mem_cons_of_mem _ hq)) c h
theorem own_us_len : ∀ ps : List Int32, (own_us ps).length ≤ 2 * ps.length
  | [] => Nat.le_refl _
  | p :: r => by
    have q := own_us_len r
    have w := (own_un_len p).2
    show (own_un p ++ own_us r).length ≤ 2 * (r.length + 1)
    rw [List.length_append]; omega
theorem own_getA (A B : List Int32) (j : Nat) : (A ++ B).getD (A.length + j) 0 = B.getD j 0 := by
  simp only [List.getD_eq_getElem?_getD]
  rw [List.getElem?_append_right (by omega), Nat.add_sub_cancel_left]
theorem own_cpt_at {cs A B : List Int32} {p : Int32} (hV : own_V p) (h : cs = A ++ (own_un p ++ B)) : own_cpt cs A.length = p := by
  have g0 : cs.getD A.length 0 = (own_un p ++ B).getD 0 0 := by rw [h]; exact own_getA A _ 0
  have g1 : cs.getD (A.length + 1) 0 = (own_un p ++ B).getD 1 0 := by rw [h]; exact own_getA A _ 1
  by_cases q : p < (65536 : Int32)
  · rw [show own_un p = [p] from if_pos q] at g0
    have g0 : cs.getD A.length 0 = p := g0
    unfold own_cpt
    rw [if_neg]
    · exact g0
    · rintro ⟨⟨q1, q2⟩, -⟩
      rw [g0] at q1 q2
      have a1 : (55296 : Int32).toInt = 55296 := rfl
      have a2 : (56320 : Int32).toInt = 56320 := rfl
      rw [Int32.lt_iff_toInt_lt] at q1 q2
      have := hV.2.2
      omega
  · have w := own_pair hV q rfl rfl
    have e : own_un p = [(55296 : Int32) + ((p - (65536 : Int32)) >>> ((10 : Int32) &&& 31)), (56320 : Int32) + ((p - (65536 : Int32)) &&& (1023 : Int32))] := if_neg q
    have hl : A.length + 1 < cs.length := by rw [h, List.length_append, List.length_append, e]; show A.length + 1 < A.length + (2 + B.length); omega
    rw [e] at g0 g1
    have g0 : cs.getD A.length 0 = (55296 : Int32) + ((p - (65536 : Int32)) >>> ((10 : Int32) &&& 31)) := g0
    have g1 : cs.getD (A.length + 1) 0 = (56320 : Int32) + ((p - (65536 : Int32)) &&& (1023 : Int32)) := g1
    unfold own_cpt
    rw [g0, g1, if_pos]
    · exact w.2.2
    · have a1 : (55296 : Int32).toInt = 55296 := rfl
      have a2 : (56320 : Int32).toInt = 56320 := rfl
      have a3 : (57344 : Int32).toInt = 57344 := rfl
      have w1 := w.1
      have w2 := w.2.1
      refine ⟨⟨?_, ?_⟩, hl, ?_, ?_⟩ <;> rw [Int32.lt_iff_toInt_lt] <;> omega
def Q_rmLD (Z : State) (a1 a2 : Addr) (k2 : ClassId) (cs ds ps : List Int32) (mx : Int32) (h0 : Heap) (n0 : Nat) (sf : Value) (zc : Int32) : Option Value → Heap → List Loc → Prop := fun v h L => ∃ (x b : Addr) (kb : ClassId), v = some (.ref x) ∧ Fr n0 L ∧ Keep h0 h [] ∧ Exa Z h x "java/lang/String" ∧ Fld Z h x "java/lang/String" "coder" "B" (.int (own_cd cs)) ∧ Fld Z h x "java/lang/String" "value" "[B" (.ref b) ∧ Arv Z h b kb .byte (Int32.ofNat (own_enc cs).length) ((own_enc cs).map Value.int) (.int (0 : Int32))
set_option maxRecDepth 65536 in
set_option maxHeartbeats 40000000 in
theorem rmLD (l : Launch) (Z : State) (a0 : Array Value) (hw : ∀ d ∈ tables_1, d.before a0 Z = true) (ws : List Jvm.Cond) (a1 a2 : Addr) (k2 : ClassId) (cs ds ps : List Int32) (mx : Int32) (h0 : Heap) (n0 : Nat) (O : Old Z n0 h0) (hEL : EW Z a0 [("java/lang/String", 7), ("java/lang/StringLatin1", 151), ("java/lang/StringUTF16", 295)]) (S_ad : Sta Z Z.heap "java/lang/StringUTF16" "$assertionsDisabled" "Z" (.int (1 : Int32))) (S_hi : Sta Z Z.heap "java/lang/StringUTF16" "HI_BYTE_SHIFT" "I" (.int (0 : Int32))) (S_lo : Sta Z Z.heap "java/lang/StringUTF16" "LO_BYTE_SHIFT" "I" (.int (8 : Int32))) (sf : Value) (hr_sf : sf.isRef = true) (S_sf : Sta Z Z.heap "jdk/internal/util/Preconditions" "SIOOBE_FORMATTER" "Ljava/util/function/BiFunction;" sf) (E_a1 : Exa Z h0 a1 "java/lang/String") (F_coder_a1 : Fld Z h0 a1 "java/lang/String" "coder" "B" (.int (own_cd ds))) (F_value_a1 : Fld Z h0 a1 "java/lang/String" "value" "[B" (.ref a2)) (V_a2 : Arv Z h0 a2 k2 .byte (Int32.ofNat (own_enc ds).length) ((own_enc ds).map Value.int) (.int (0 : Int32))) (zc : Int32) (S_cs : Sta Z Z.heap "java/lang/String" "COMPACT_STRINGS" "Z" (.int zc)) (hzc : ¬ zc = (0 : Int32)) (hds : ds = own_us ps) (hV : ∀ p ∈ ps, own_V p) (hRd : own_R ds) (hcs : cs = own_us (own_ld mx 0 ps)) :
    MetFree l (⟨"com/example/lease/lease/core/Inputs", "leading", "(Ljava/lang/String;I)Ljava/lang/String;"⟩ : MethodName) (head1 (Jvm.Cond.code (⟨"com/example/lease/lease/core/Inputs", "leading", "(Ljava/lang/String;I)Ljava/lang/String;"⟩ : MethodName) prog_13_method_5_code 6 (some (.object "java/lang/String")) :: ws) ({ frames := 7, cells := 3, slots := 22, locals := 119 } : Room)) (fun a U => a = #[(.ref a1), (.int mx)] ∧ Z.Warmed39 U.vm ∧ U.heap = h0 ∧ CHv Z [("java/lang/String", 7), ("java/lang/StringLatin1", 151), ("java/lang/StringUTF16", 295)] U.vm h0) (fun _ _ _ _ _ => True) (fun _ U o U' => ∃ v L, o = .returned v ∧ (Q_rmLD Z a1 a2 k2 cs ds ps mx h0 n0 sf zc) v U'.heap L ∧ CHr Z [("java/lang/String", 7), ("java/lang/StringLatin1", 151), ("java/lang/StringUTF16", 295)] U.vm U.heap U'.vm U'.heap ∧ ReturnedEndW U o U' L ({ frames := 7, cells := 3, slots := 22, locals := 119 } : Room).cells ({ frames := 7, cells := 3, slots := 22, locals := 119 } : Room).slots) := by
  refine MetFree.of_bodySF (plainFor_of_name pn_4) hisR ?_
  intro p e s m args below meth c s₁ Bd hml0 hP hK
  obtain ⟨rfl, hZ, hh, hHC⟩ := hP
  have hx := Bd.exec
  have hby := Bd.bytes
  have hml : c.maxLocals = 6 := hml0
  have hown : s.vm.findClass "com/example/lease/lease/core/Inputs" = some m.cls := findClass_of_methodNamed Bd.named
  have hnm := (name_of_methodNamed Bd.named Bd.method).1
  have hlk := BodyLoose.notSynchronized Bd
  have X0 : Stand p l e ({ frames := 7, cells := 3, slots := 22, locals := 119 } : Room) (s.setVm s.vm) m #[(.ref a1), (.int mx)] below meth c s₁ [] 0 0 := Stand.of_body Bd
  have e0 : s₁.heap = h0 := by rw [← hh, Bd.state]; rfl
  have N := Fr.nil n0
  have hS : s.Since s.vm h0.size := (State.WarmedH.refl s).since _
  have hk := Nat.le_refl h0.size
  have HR : CHr Z [("java/lang/String", 7), ("java/lang/StringLatin1", 151), ("java/lang/StringUTF16", 295)] s.vm h0 s.vm h0 := CHr.refl hHC
  have K := Keep.refl h0 []
  obtain ⟨G, hG⟩ : ∃ G : State → JFrame → Prop, G = OwnGH p e below s Z [("java/lang/String", 7), ("java/lang/StringLatin1", 151), ("java/lang/StringUTF16", 295)] ({ frames := 7, cells := 3, slots := 22, locals := 119 } : Room).cells ({ frames := 7, cells := 3, slots := 22, locals := 119 } : Room).slots (Q_rmLD Z a1 a2 k2 cs ds ps mx h0 n0 sf zc) := ⟨_, rfl⟩
  have gb : ∀ {T T' : State} {g g' : JFrame}, (∀ t, Steps p.tables e below (T'.setTop g') t → Steps p.tables e below (T.setTop g) t) → G T' g' → G T g := by subst hG; exact fun k h => own_byH k h
  have go : ∀ {T : State} {locs : List Loc} {cells slots : Nat} {g : JFrame} {v : Option Value} {vm : Vm} {k : Nat}, Stand p l e ({ frames := 7, cells := 3, slots := 22, locals := 119 } : Room) (s.setVm vm) m #[(.ref a1), (.int mx)] below meth c T locs cells slots → s.Since vm k → k ≤ T.heap.size → CHr Z [("java/lang/String", 7), ("java/lang/StringLatin1", 151), ("java/lang/StringUTF16", 295)] s.vm h0 vm T.heap → Z.Warmed39 vm → (meth.sig.returnType = none → v = none) → (∀ fs, (∀ (f : JFrame) (acts : List Action), f.method = m → f.locked = none → f.entered = [] → (doReturn e (T.setTop f) acts v).1 = T.setFrames fs) → Steps p.tables e below (T.setTop g) (T.setFrames fs)) → (Q_rmLD Z a1 a2 k2 cs ds ps mx h0 n0 sf zc) v T.heap locs → cells ≤ ({ frames := 7, cells := 3, slots := 22, locals := 119 } : Room).cells → slots ≤ ({ frames := 7, cells := 3, slots := 22, locals := 119 } : Room).slots → G T g := by subst hG; exact fun X a b c' d h1 h2 h3 h4 h5 => own_outH X hh hEL a b c' d hlk h1 h2 h3 h4 h5
  show OwnGH p e below s Z [("java/lang/String", 7), ("java/lang/StringLatin1", 151), ("java/lang/StringUTF16", 295)] ({ frames := 7, cells := 3, slots := 22, locals := 119 } : Room).cells ({ frames := 7, cells := 3, slots := 22, locals := 119 } : Room).slots (Q_rmLD Z a1 a2 k2 cs ds ps mx h0 n0 sf zc) s₁ (entryFrame m #[(.ref a1), (.int mx)] 6)
  rw [← hG, ef_rmLD m a1 mx]
  clear hG
  show G s₁ (mkF m 0 #[.val (.ref a1), .val (.int mx), .unset, .unset, .unset, .unset] [])
  have hr7 := hRd.1
  refine gb (fun _ k => XS.iconst X0.here hx rfl (hb hby d6_0) (XS.istoreN X0.here hx rfl (hb hby d6_1) rfl (l' := #[rv a1, iv mx, iv 0, .unset, .unset, .unset]) rfl (XS.iconst X0.here hx rfl (hb hby d6_2) (XS.istoreN X0.here hx rfl (hb hby d6_3) rfl (l' := #[rv a1, iv mx, iv 0, iv 0, .unset, .unset]) rfl k)))) ?_
  show G s₁ (mkF m 4 #[rv a1, iv mx, iv 0, iv 0, .unset, .unset] [])
  have LP : ∀ (todo dn : List Int32) (tt : Int32) (Tq : State) (Xq : Stand p l e ({ frames := 7, cells := 3, slots := 22, locals := 119 } : Room) (s.setVm s.vm) m #[(.ref a1), (.int mx)] below meth c Tq [] 0 0) (eq_ : Tq.heap = h0) (s4 s5 : Slot) (hs45 : (s4 = .unset ∧ s5 = .unset) ∨ ∃ x y : Int32, s4 = iv x ∧ s5 = iv y) (hq1 : ds = own_us dn ++ own_us todo) (hVq : ∀ q ∈ todo, own_V q) (hq2 : cs = own_us dn ++ own_us (own_ld mx tt todo)), G Tq (mkF m 4 #[rv a1, iv mx, iv tt, iv (Int32.ofNat (own_us dn).length), s4, s5] []) := by
    intro todo
    induction todo with
    | nil =>
      intro dn tt Tq Xq eq_ s4 s5 hs45 hq1 hVq hq2
      have hlds : ds.length = (own_us dn).length + (own_us []).length := by rw [hq1, List.length_append]
      have hlt : (own_us dn).length = ds.length := hlds.symm
      show G Tq (mkF m 4 #[rv a1, iv mx, iv tt, iv (Int32.ofNat (own_us dn).length), s4, s5] [])
      refine gb (fun _ k => XS.iloadN Xq.here hx rfl (hb hby d6_4) rfl (XS.aloadN Xq.here hx rfl (hb hby d6_5) rfl rfl k)) ?_
      show G Tq (mkF m 6 #[rv a1, iv mx, iv tt, iv (Int32.ofNat (own_us dn).length), s4, s5] [.ref a1, .int (Int32.ofNat (own_us dn).length)])
      obtain ⟨cq1, kq1, q1a, q1b, q1c⟩ := isOf hZ eq_ E_a1
      obtain ⟨_, _, ⟨T1, Lz1, kz1, nz1⟩, -, X1, ⟨Lc1, hQ1, lq1, yq1, zq1⟩, st1⟩ := Xq.virtualBack hx (y := (⟨"java/lang/String", "length", "()I"⟩ : MethodName)) (z := (⟨"java/lang/String", "length", "()I"⟩ : MethodName)) hown (mvT hZ (ow hw 33 rfl)) (mvT hZ (ow hw 34 rfl)) (notFace_of_selects (args := #[]) (mvT hZ (ow hw 36 rfl))) (mvT hZ (ow hw 36 rfl)) (mvT hZ (ow hw 35 rfl)) (by decide) (backOf (W := 1) (rmLn l Z a0 hw [] a1 a2 k2 ds h0 n0 O E_a1 F_coder_a1 F_value_a1 V_a2 zc S_cs hzc hRd) hZ (ow hw 37 rfl) (ow hw 3 rfl) (by decide) (by decide)) q1a q1c (g := (mkF m 6 #[rv a1, iv mx, iv tt, iv (Int32.ofNat (own_us dn).length), s4, s5] [.ref a1, .int (Int32.ofNat (own_us dn).length)])) rfl (by rw [hml]; rfl) (Steps.refl _) (argsL := []) (rest := [(.int (Int32.ofNat (own_us dn).length))]) (lenOf pd_24 rfl) rfl (by show 2 * 0 + _ ≤ _; exact Nat.le_of_eq rfl) (hb hby d6_6) (fun _ _ => ⟨rfl, eq_, (by decide : 0 + 0 ≤ _), (by decide : 0 + 0 ≤ _)⟩)
      dsimp only [Pt.U, Pt.locs, Pt.cells, Pt.slots] at X1 lq1 yq1 zq1 st1 hQ1
      subst lq1 yq1 zq1
      obtain ⟨rfl, rfl, e1⟩ := hQ1
      try rw [List.append_nil] at X1
      refine gb (fun _ k => st1.trans k) ?_
      show G T1 (mkF m 9 #[rv a1, iv mx, iv tt, iv (Int32.ofNat (own_us dn).length), s4, s5] [.int (Int32.ofNat ds.length), .int (Int32.ofNat (own_us dn).length)])
      refine gb (fun _ k => XS.icmpYes X1.here hx rfl (pc0 := 9) (pc' := 53) rfl (hb hby d6_9) rfl (flt (own_nlt (by omega) (by omega))).2.1 (by decide) (by decide) (XS.aloadN X1.here hx rfl (hb hby d6_53) rfl rfl (XS.iconst X1.here hx rfl (hb hby d6_54) (XS.iloadN X1.here hx rfl (hb hby d6_55) rfl k)))) ?_
      show G T1 (mkF m 56 #[rv a1, iv mx, iv tt, iv (Int32.ofNat (own_us dn).length), s4, s5] [.int (Int32.ofNat (own_us dn).length), .int 0, .ref a1])
      rw [show Int32.ofNat (own_us dn).length = Int32.ofNat cs.length from by rw [hq2, show own_us (own_ld mx tt ([] : List Int32)) = [] from rfl, List.append_nil]]
      show G T1 (mkF m 56 #[rv a1, iv mx, iv tt, iv (Int32.ofNat cs.length), s4, s5] [.int (Int32.ofNat cs.length), .int 0, .ref a1])
      have hks : cs = own_us dn := by rw [hq2]; exact List.append_nil _
      have hpre : cs = ds.take cs.length := by rw [hks, hq1, List.take_left']; rfl
      have hle : cs.length ≤ ds.length := by rw [hks]; omega
      have hR : own_R cs := by rw [hpre]; exact own_Rt hRd _
      have lt_a1 := E_a1.lt
      have lt_a2 := V_a2.lt
      obtain ⟨cq2, kq2, q2a, q2b, q2c⟩ := isOf hZ e1 E_a1
      obtain ⟨_, _, ⟨T2, Lz2, kz2, nz2⟩, -, X2, hS2, hg2, ⟨Lc2, hQ2, lq2, yq2, zq2, hC2⟩, st2⟩ := X1.virtualBackS hx (y := (⟨"java/lang/String", "substring", "(II)Ljava/lang/String;"⟩ : MethodName)) (z := (⟨"java/lang/String", "substring", "(II)Ljava/lang/String;"⟩ : MethodName)) hown (mvT hZ (ow hw 44 rfl)) (mvT hZ (ow hw 45 rfl)) (notFace_of_selects (args := #[]) (mvT hZ (ow hw 47 rfl))) (mvT hZ (ow hw 47 rfl)) (mvT hZ (ow hw 46 rfl)) (by decide) (backOfSH (W := 0) (rmSS l Z a0 hw [] a1 a2 k2 cs ds h0 n0 O hEL S_ad S_hi S_lo sf hr_sf S_sf E_a1 F_coder_a1 F_value_a1 V_a2 zc S_cs hzc hpre hle hRd hR) hZ (ow hw 48 rfl) (ow hw 3 rfl) (by decide) (by decide) hEL HR.1) q2a q2c (g := (mkF m 56 #[rv a1, iv mx, iv tt, iv (Int32.ofNat cs.length), s4, s5] [.int (Int32.ofNat cs.length), .int 0, .ref a1])) rfl (by rw [hml]; rfl) (Steps.refl _) (argsL := [(.int (0 : Int32)), (.int (Int32.ofNat cs.length))]) (rest := []) (lenOf pd_27 rfl) rfl (by show 2 * 0 + _ ≤ _; exact Nat.le_of_eq rfl) (hb hby d6_56) (fun _ _ => ⟨rfl, e1, (by decide : 0 + 3 ≤ _), (by decide : 0 + 22 ≤ _)⟩)
      dsimp only [Pt.U, Pt.locs, Pt.cells, Pt.slots] at X2 lq2 yq2 zq2 st2 hQ2 hS2 hg2 hC2
      subst lq2 yq2 zq2
      obtain ⟨X2, hS, hZ, hown⟩ := rebS hS (Nat.le_trans hk (Nat.le_of_eq (congrArg Array.size e1.symm))) X2 hS2 hg2 hZ hown
      obtain ⟨h2, e2⟩ : ∃ z, z = T2.heap := ⟨_, rfl⟩
      rw [← e2] at hQ2 hC2
      replace e2 := e2.symm
      obtain ⟨x2, b2, kb2, rfl, Nq2, Kq2, hR2⟩ := hQ2
      have N := Fr.app N Nq2
      have HR := HR.trans hC2
      have E_a1 := E_a1.keep Kq2
      have F_coder_a1 := F_coder_a1.keep Kq2 nin0
      have F_value_a1 := F_value_a1.keep Kq2 nin0
      have V_a2 := V_a2.keep Kq2 nin0
      have hk := Nat.le_trans hk Kq2.1
      have hk : T2.heap.size ≤ h2.size := by rw [e2]; exact Nat.le_refl _
      obtain ⟨E_x2, F_coder_x2, F_value_x2, V_b2⟩ := hR2
      have O := O.keep Kq2 all0
      have K := K.trans Kq2 all0
      refine gb (fun _ k => st2.trans k) ?_
      show G T2 (mkF m 59 #[rv a1, iv mx, iv tt, iv (Int32.ofNat cs.length), s4, s5] [.ref x2])
      exact go X2 hS (Nat.le_trans hk (Nat.le_of_eq (congrArg Array.size e2.symm))) (by rw [e2]; exact HR) hZ (v := (some (.ref x2))) (fun h => by rw [Bd.returns] at h; cases h) (fun fs hr => retOut X2 hx Bd.returns rfl (Or.inr (Or.inr (Or.inr (Or.inr ⟨rfl, rfl, rfl⟩)))) (hb hby d6_59) hr) (by rw [e2]; exact ⟨_, _, _, rfl, N, K, E_x2, F_coder_x2, F_value_x2, V_b2⟩) (by decide) (by decide)
    | cons pt r ih =>
      intro dn tt Tq Xq eq_ s4 s5 hs45 hq1 hVq hq2
      have hlds : ds.length = (own_us dn).length + (own_us (pt :: r)).length := by rw [hq1, List.length_append]
      have hone : 0 < (own_us (pt :: r)).length := by show 0 < (own_un pt ++ own_us r).length; rw [List.length_append]; have := (own_un_len pt).1; omega
      have hlt : (own_us dn).length < ds.length := by omega
      rcases hs45 with ⟨rfl, rfl⟩ | ⟨x4, x5, rfl, rfl⟩
      · skip
        show G Tq (mkF m 4 #[rv a1, iv mx, iv tt, iv (Int32.ofNat (own_us dn).length), .unset, .unset] [])
        refine gb (fun _ k => XS.iloadN Xq.here hx rfl (hb hby d6_4) rfl (XS.aloadN Xq.here hx rfl (hb hby d6_5) rfl rfl k)) ?_
        show G Tq (mkF m 6 #[rv a1, iv mx, iv tt, iv (Int32.ofNat (own_us dn).length), .unset, .unset] [.ref a1, .int (Int32.ofNat (own_us dn).length)])
        obtain ⟨cq3, kq3, q3a, q3b, q3c⟩ := isOf hZ eq_ E_a1
        obtain ⟨_, _, ⟨T3, Lz3, kz3, nz3⟩, -, X3, ⟨Lc3, hQ3, lq3, yq3, zq3⟩, st3⟩ := Xq.virtualBack hx (y := (⟨"java/lang/String", "length", "()I"⟩ : MethodName)) (z := (⟨"java/lang/String", "length", "()I"⟩ : MethodName)) hown (mvT hZ (ow hw 33 rfl)) (mvT hZ (ow hw 34 rfl)) (notFace_of_selects (args := #[]) (mvT hZ (ow hw 36 rfl))) (mvT hZ (ow hw 36 rfl)) (mvT hZ (ow hw 35 rfl)) (by decide) (backOf (W := 1) (rmLn l Z a0 hw [] a1 a2 k2 ds h0 n0 O E_a1 F_coder_a1 F_value_a1 V_a2 zc S_cs hzc hRd) hZ (ow hw 37 rfl) (ow hw 3 rfl) (by decide) (by decide)) q3a q3c (g := (mkF m 6 #[rv a1, iv mx, iv tt, iv (Int32.ofNat (own_us dn).length), .unset, .unset] [.ref a1, .int (Int32.ofNat (own_us dn).length)])) rfl (by rw [hml]; rfl) (Steps.refl _) (argsL := []) (rest := [(.int (Int32.ofNat (own_us dn).length))]) (lenOf pd_24 rfl) rfl (by show 2 * 0 + _ ≤ _; exact Nat.le_of_eq rfl) (hb hby d6_6) (fun _ _ => ⟨rfl, eq_, (by decide : 0 + 0 ≤ _), (by decide : 0 + 0 ≤ _)⟩)
        dsimp only [Pt.U, Pt.locs, Pt.cells, Pt.slots] at X3 lq3 yq3 zq3 st3 hQ3
        subst lq3 yq3 zq3
        obtain ⟨rfl, rfl, e3⟩ := hQ3
        try rw [List.append_nil] at X3
        refine gb (fun _ k => st3.trans k) ?_
        show G T3 (mkF m 9 #[rv a1, iv mx, iv tt, iv (Int32.ofNat (own_us dn).length), .unset, .unset] [.int (Int32.ofNat ds.length), .int (Int32.ofNat (own_us dn).length)])
        refine gb (fun _ k => XS.icmpNo X3.here hx rfl (hb hby d6_9) rfl (tlt (own_in hlt (by omega)).2).2.1 (XS.aloadN X3.here hx rfl (hb hby d6_12) rfl rfl (XS.iloadN X3.here hx rfl (hb hby d6_13) rfl k))) ?_
        show G T3 (mkF m 14 #[rv a1, iv mx, iv tt, iv (Int32.ofNat (own_us dn).length), .unset, .unset] [.int (Int32.ofNat (own_us dn).length), .ref a1])
        obtain ⟨cq4, kq4, q4a, q4b, q4c⟩ := isOf hZ e3 E_a1
        obtain ⟨_, _, ⟨T4, Lz4, kz4, nz4⟩, -, X4, ⟨Lc4, hQ4, lq4, yq4, zq4⟩, st4⟩ := X3.virtualBack hx (y := (⟨"java/lang/String", "codePointAt", "(I)I"⟩ : MethodName)) (z := (⟨"java/lang/String", "codePointAt", "(I)I"⟩ : MethodName)) hown (mvT hZ (ow hw 111 rfl)) (mvT hZ (ow hw 112 rfl)) (notFace_of_selects (args := #[]) (mvT hZ (ow hw 114 rfl))) (mvT hZ (ow hw 114 rfl)) (mvT hZ (ow hw 113 rfl)) (by decide) (backOf (W := 0) (rmCP l Z a0 hw [] a1 a2 k2 ds (own_us dn).length h0 n0 O S_ad S_hi S_lo sf hr_sf S_sf E_a1 F_coder_a1 F_value_a1 V_a2 zc S_cs hzc hlt hRd) hZ (ow hw 115 rfl) (ow hw 3 rfl) (by decide) (by decide)) q4a q4c (g := (mkF m 14 #[rv a1, iv mx, iv tt, iv (Int32.ofNat (own_us dn).length), .unset, .unset] [.int (Int32.ofNat (own_us dn).length), .ref a1])) rfl (by rw [hml]; rfl) (Steps.refl _) (argsL := [(.int (Int32.ofNat (own_us dn).length))]) (rest := []) (lenOf pd_0 rfl) rfl (by show 2 * 0 + _ ≤ _; exact Nat.le_of_eq rfl) (hb hby d6_14) (fun _ _ => ⟨rfl, e3, (by decide : 0 + 0 ≤ _), (by decide : 0 + 0 ≤ _)⟩)
        dsimp only [Pt.U, Pt.locs, Pt.cells, Pt.slots] at X4 lq4 yq4 zq4 st4 hQ4
        subst lq4 yq4 zq4
        obtain ⟨rfl, rfl, e4⟩ := hQ4
        try rw [List.append_nil] at X4
        refine gb (fun _ k => st4.trans k) ?_
        show G T4 (mkF m 17 #[rv a1, iv mx, iv tt, iv (Int32.ofNat (own_us dn).length), .unset, .unset] [.int (own_cpt ds (own_us dn).length)])
        rw [own_cpt_at (hVq pt (List.mem_cons_self ..)) hq1]
        show G T4 (mkF m 17 #[rv a1, iv mx, iv tt, iv (Int32.ofNat (own_us dn).length), .unset, .unset] [.int pt])
        refine gb (fun _ k => XS.istore X4.here hx rfl (hb hby d6_17) rfl (l' := #[rv a1, iv mx, iv tt, iv (Int32.ofNat (own_us dn).length), iv pt, .unset]) rfl (XS.iload X4.here hx rfl (hb hby d6_19) rfl k)) ?_
        show G T4 (mkF m 21 #[rv a1, iv mx, iv tt, iv (Int32.ofNat (own_us dn).length), iv pt, .unset] [.int pt])
        obtain ⟨_, _, ⟨T5, Lz5, kz5, nz5⟩, -, X5, ⟨Lc5, hQ5, lq5, yq5, zq5⟩, st5⟩ := Jvm.LawKit.callS X4 hx (y := (⟨"com/example/lease/lease/core/Inputs", "utf8Size", "(I)I"⟩ : MethodName)) hown (mvT hZ (ow hw 138 rfl)) (mvT hZ (ow hw 139 rfl)) (mvT hZ (ow hw 31 rfl)) (mvT hZ (ow hw 140 rfl)) (by decide) (backOf (W := 0) (rmUZ l Z a0 hw [] pt h0 n0 O) hZ (ow hw 140 rfl) (ow hw 31 rfl) (by decide) (by decide)) (g := (mkF m 21 #[rv a1, iv mx, iv tt, iv (Int32.ofNat (own_us dn).length), iv pt, .unset] [.int pt])) rfl (by rw [hml]; rfl) (argsL := [(.int pt)]) (rest := []) (lenOf pd_0 rfl) rfl (by show 2 * 0 + _ ≤ _; exact Nat.le_of_eq rfl) (hb hby d6_21) (fun _ _ => ⟨rfl, e4, (by decide : 0 + 0 ≤ _), (by decide : 0 + 0 ≤ _)⟩)
        dsimp only [Pt.U, Pt.locs, Pt.cells, Pt.slots] at X5 lq5 yq5 zq5 st5 hQ5
        subst lq5 yq5 zq5
        obtain ⟨rfl, rfl, e5⟩ := hQ5
        try rw [List.append_nil] at X5
        refine gb st5 ?_
        show G T5 (mkF m 24 #[rv a1, iv mx, iv tt, iv (Int32.ofNat (own_us dn).length), iv pt, .unset] [.int (own_sz pt)])
        refine gb (fun _ k => XS.istore X5.here hx rfl (hb hby d6_24) rfl (l' := #[rv a1, iv mx, iv tt, iv (Int32.ofNat (own_us dn).length), iv pt, iv (own_sz pt)]) rfl (XS.iloadN X5.here hx rfl (hb hby d6_26) rfl (XS.iload X5.here hx rfl (hb hby d6_27) rfl (XS.iadd X5.here hx rfl (hb hby d6_29) rfl (XS.iloadN X5.here hx rfl (hb hby d6_30) rfl k))))) ?_
        show G T5 (mkF m 31 #[rv a1, iv mx, iv tt, iv (Int32.ofNat (own_us dn).length), iv pt, iv (own_sz pt)] [.int mx, .int (tt + (own_sz pt))])
        by_cases hc31 : mx < (tt + (own_sz pt))
        · skip
          refine gb (fun _ k => XS.icmpNo X5.here hx rfl (hb hby d6_31) rfl (tlt hc31).2.2.2 (XS.goto X5.here hx rfl (pc0 := 34) (pc' := 53) rfl (hb hby d6_34) (by decide) (by decide) (XS.aloadN X5.here hx rfl (hb hby d6_53) rfl rfl (XS.iconst X5.here hx rfl (hb hby d6_54) (XS.iloadN X5.here hx rfl (hb hby d6_55) rfl k))))) ?_
          show G T5 (mkF m 56 #[rv a1, iv mx, iv tt, iv (Int32.ofNat (own_us dn).length), iv pt, iv (own_sz pt)] [.int (Int32.ofNat (own_us dn).length), .int 0, .ref a1])
          rw [show Int32.ofNat (own_us dn).length = Int32.ofNat cs.length from by rw [hq2, show own_ld mx tt (pt :: r) = [] from if_pos hc31, show own_us ([] : List Int32) = [] from rfl, List.append_nil]]
          show G T5 (mkF m 56 #[rv a1, iv mx, iv tt, iv (Int32.ofNat cs.length), iv pt, iv (own_sz pt)] [.int (Int32.ofNat cs.length), .int 0, .ref a1])
          have hks : cs = own_us dn := by rw [hq2, show own_ld mx tt (pt :: r) = [] from if_pos hc31]; exact List.append_nil _
          have hpre : cs = ds.take cs.length := by rw [hks, hq1, List.take_left']; rfl
          have hle : cs.length ≤ ds.length := by rw [hks]; omega
          have hR : own_R cs := by rw [hpre]; exact own_Rt hRd _
          have lt_a1 := E_a1.lt
          have lt_a2 := V_a2.lt
          obtain ⟨cq6, kq6, q6a, q6b, q6c⟩ := isOf hZ e5 E_a1
          obtain ⟨_, _, ⟨T6, Lz6, kz6, nz6⟩, -, X6, hS6, hg6, ⟨Lc6, hQ6, lq6, yq6, zq6, hC6⟩, st6⟩ := X5.virtualBackS hx (y := (⟨"java/lang/String", "substring", "(II)Ljava/lang/String;"⟩ : MethodName)) (z := (⟨"java/lang/String", "substring", "(II)Ljava/lang/String;"⟩ : MethodName)) hown (mvT hZ (ow hw 44 rfl)) (mvT hZ (ow hw 45 rfl)) (notFace_of_selects (args := #[]) (mvT hZ (ow hw 47 rfl))) (mvT hZ (ow hw 47 rfl)) (mvT hZ (ow hw 46 rfl)) (by decide) (backOfSH (W := 0) (rmSS l Z a0 hw [] a1 a2 k2 cs ds h0 n0 O hEL S_ad S_hi S_lo sf hr_sf S_sf E_a1 F_coder_a1 F_value_a1 V_a2 zc S_cs hzc hpre hle hRd hR) hZ (ow hw 48 rfl) (ow hw 3 rfl) (by decide) (by decide) hEL HR.1) q6a q6c (g := (mkF m 56 #[rv a1, iv mx, iv tt, iv (Int32.ofNat cs.length), iv pt, iv (own_sz pt)] [.int (Int32.ofNat cs.length), .int 0, .ref a1])) rfl (by rw [hml]; rfl) (Steps.refl _) (argsL := [(.int (0 : Int32)), (.int (Int32.ofNat cs.length))]) (rest := []) (lenOf pd_27 rfl) rfl (by show 2 * 0 + _ ≤ _; exact Nat.le_of_eq rfl) (hb hby d6_56) (fun _ _ => ⟨rfl, e5, (by decide : 0 + 3 ≤ _), (by decide : 0 + 22 ≤ _)⟩)
          dsimp only [Pt.U, Pt.locs, Pt.cells, Pt.slots] at X6 lq6 yq6 zq6 st6 hQ6 hS6 hg6 hC6
          subst lq6 yq6 zq6
          obtain ⟨X6, hS, hZ, hown⟩ := rebS hS (Nat.le_trans hk (Nat.le_of_eq (congrArg Array.size e5.symm))) X6 hS6 hg6 hZ hown
          obtain ⟨h6, e6⟩ : ∃ z, z = T6.heap := ⟨_, rfl⟩
          rw [← e6] at hQ6 hC6
          replace e6 := e6.symm
          obtain ⟨x6, b6, kb6, rfl, Nq6, Kq6, hR6⟩ := hQ6
          have N := Fr.app N Nq6
          have HR := HR.trans hC6
          have E_a1 := E_a1.keep Kq6
          have F_coder_a1 := F_coder_a1.keep Kq6 nin0
          have F_value_a1 := F_value_a1.keep Kq6 nin0
          have V_a2 := V_a2.keep Kq6 nin0
          have hk := Nat.le_trans hk Kq6.1
          have hk : T6.heap.size ≤ h6.size := by rw [e6]; exact Nat.le_refl _
          obtain ⟨E_x6, F_coder_x6, F_value_x6, V_b6⟩ := hR6
          have O := O.keep Kq6 all0
          have K := K.trans Kq6 all0
          refine gb (fun _ k => st6.trans k) ?_
          show G T6 (mkF m 59 #[rv a1, iv mx, iv tt, iv (Int32.ofNat cs.length), iv pt, iv (own_sz pt)] [.ref x6])
          exact go X6 hS (Nat.le_trans hk (Nat.le_of_eq (congrArg Array.size e6.symm))) (by rw [e6]; exact HR) hZ (v := (some (.ref x6))) (fun h => by rw [Bd.returns] at h; cases h) (fun fs hr => retOut X6 hx Bd.returns rfl (Or.inr (Or.inr (Or.inr (Or.inr ⟨rfl, rfl, rfl⟩)))) (hb hby d6_59) hr) (by rw [e6]; exact ⟨_, _, _, rfl, N, K, E_x6, F_coder_x6, F_value_x6, V_b6⟩) (by decide) (by decide)
        · skip
          refine gb (fun _ k => XS.icmpYes X5.here hx rfl (pc0 := 31) (pc' := 37) rfl (hb hby d6_31) rfl (flt hc31).2.2.2 (by decide) (by decide) (XS.iloadN X5.here hx rfl (hb hby d6_37) rfl (XS.iload X5.here hx rfl (hb hby d6_38) rfl (XS.iadd X5.here hx rfl (hb hby d6_40) rfl (XS.istoreN X5.here hx rfl (hb hby d6_41) rfl (l' := #[rv a1, iv mx, iv (tt + (own_sz pt)), iv (Int32.ofNat (own_us dn).length), iv pt, iv (own_sz pt)]) rfl (XS.iloadN X5.here hx rfl (hb hby d6_42) rfl k)))))) ?_
          show G T5 (mkF m 43 #[rv a1, iv mx, iv (tt + (own_sz pt)), iv (Int32.ofNat (own_us dn).length), iv pt, iv (own_sz pt)] [.int (Int32.ofNat (own_us dn).length)])
          refine gb (fun _ k => XS.iload X5.here hx rfl (hb hby d6_43) rfl k) ?_
          show G T5 (mkF m 45 #[rv a1, iv mx, iv (tt + (own_sz pt)), iv (Int32.ofNat (own_us dn).length), iv pt, iv (own_sz pt)] [.int pt, .int (Int32.ofNat (own_us dn).length)])
          obtain ⟨_, _, ⟨T7, Lz7, kz7, nz7⟩, -, X7, ⟨Lc7, hQ7, lq7, yq7, zq7⟩, st7⟩ := Jvm.LawKit.callS X5 hx (y := (⟨"java/lang/Character", "charCount", "(I)I"⟩ : MethodName)) hown (mvT hZ (ow hw 141 rfl)) (mvT hZ (ow hw 142 rfl)) (mvT hZ (ow hw 135 rfl)) (mvT hZ (ow hw 143 rfl)) (by decide) (backOf (W := 1) (rmCC l Z a0 hw [] pt h0 n0 O) hZ (ow hw 143 rfl) (ow hw 135 rfl) (by decide) (by decide)) (g := (mkF m 45 #[rv a1, iv mx, iv (tt + (own_sz pt)), iv (Int32.ofNat (own_us dn).length), iv pt, iv (own_sz pt)] [.int pt, .int (Int32.ofNat (own_us dn).length)])) rfl (by rw [hml]; rfl) (argsL := [(.int pt)]) (rest := [(.int (Int32.ofNat (own_us dn).length))]) (lenOf pd_0 rfl) rfl (by show 2 * 0 + _ ≤ _; exact Nat.le_of_eq rfl) (hb hby d6_45) (fun _ _ => ⟨rfl, e5, (by decide : 0 + 0 ≤ _), (by decide : 0 + 0 ≤ _)⟩)
          dsimp only [Pt.U, Pt.locs, Pt.cells, Pt.slots] at X7 lq7 yq7 zq7 st7 hQ7
          subst lq7 yq7 zq7
          obtain ⟨rfl, rfl, e7⟩ := hQ7
          try rw [List.append_nil] at X7
          refine gb st7 ?_
          show G T7 (mkF m 48 #[rv a1, iv mx, iv (tt + (own_sz pt)), iv (Int32.ofNat (own_us dn).length), iv pt, iv (own_sz pt)] [.int (own_cc pt), .int (Int32.ofNat (own_us dn).length)])
          refine gb (fun _ k => XS.iadd X7.here hx rfl (hb hby d6_48) rfl k) ?_
          show G T7 (mkF m 49 #[rv a1, iv mx, iv (tt + (own_sz pt)), iv (Int32.ofNat (own_us dn).length), iv pt, iv (own_sz pt)] [.int ((Int32.ofNat (own_us dn).length) + (own_cc pt))])
          rw [show Int32.ofNat (own_us dn).length + own_cc pt = Int32.ofNat (own_us (dn ++ [pt])).length from by rw [own_us1, List.length_append, Int32.ofNat_add, own_un_cc]]
          show G T7 (mkF m 49 #[rv a1, iv mx, iv (tt + (own_sz pt)), iv (Int32.ofNat (own_us dn).length), iv pt, iv (own_sz pt)] [.int (Int32.ofNat (own_us (dn ++ [pt])).length)])
          refine gb (fun _ k => XS.istoreN X7.here hx rfl (hb hby d6_49) rfl (l' := #[rv a1, iv mx, iv (tt + (own_sz pt)), iv (Int32.ofNat (own_us (dn ++ [pt])).length), iv pt, iv (own_sz pt)]) rfl (XS.goto X7.here hx rfl (pc0 := 50) (pc' := 4) rfl (hb hby d6_50) (by decide) (by decide) k)) ?_
          show G T7 (mkF m 4 #[rv a1, iv mx, iv (tt + (own_sz pt)), iv (Int32.ofNat (own_us (dn ++ [pt])).length), iv pt, iv (own_sz pt)] [])
          exact ih (dn ++ [pt]) (tt + own_sz pt) _ X7 e7 (.val (.int pt)) (.val (.int (own_sz pt))) (Or.inr ⟨_, _, rfl, rfl⟩) (by rw [hq1, own_us1, List.append_assoc]; rfl) (fun q hq => hVq q (List.mem_cons_of_mem _ hq)) (by rw [hq2, own_us1, show own_ld mx tt (pt :: r) = pt :: own_ld mx (tt + own_sz pt) r from if_neg hc31, List.append_assoc]; rfl)
      · skip
        show G Tq (mkF m 4 #[rv a1, iv mx, iv tt, iv (Int32.ofNat (own_us dn).length), iv x4, iv x5] [])
        refine gb (fun _ k => XS.iloadN Xq.here hx rfl (hb hby d6_4) rfl (XS.aloadN Xq.here hx rfl (hb hby d6_5) rfl rfl k)) ?_
        show G Tq (mkF m 6 #[rv a1, iv mx, iv tt, iv (Int32.ofNat (own_us dn).length), iv x4, iv x5] [.ref a1, .int (Int32.ofNat (own_us dn).length)])
        obtain ⟨cq8, kq8, q8a, q8b, q8c⟩ := isOf hZ eq_ E_a1
        obtain ⟨_, _, ⟨T8, Lz8, kz8, nz8⟩, -, X8, ⟨Lc8, hQ8, lq8, yq8, zq8⟩, st8⟩ := Xq.virtualBack hx (y := (⟨"java/lang/String", "length", "()I"⟩ : MethodName)) (z := (⟨"java/lang/String", "length", "()I"⟩ : MethodName)) hown (mvT hZ (ow hw 33 rfl)) (mvT hZ (ow hw 34 rfl)) (notFace_of_selects (args := #[]) (mvT hZ (ow hw 36 rfl))) (mvT hZ (ow hw 36 rfl)) (mvT hZ (ow hw 35 rfl)) (by decide) (backOf (W := 1) (rmLn l Z a0 hw [] a1 a2 k2 ds h0 n0 O E_a1 F_coder_a1 F_value_a1 V_a2 zc S_cs hzc hRd) hZ (ow hw 37 rfl) (ow hw 3 rfl) (by decide) (by decide)) q8a q8c (g := (mkF m 6 #[rv a1, iv mx, iv tt, iv (Int32.ofNat (own_us dn).length), iv x4, iv x5] [.ref a1, .int (Int32.ofNat (own_us dn).length)])) rfl (by rw [hml]; rfl) (Steps.refl _) (argsL := []) (rest := [(.int (Int32.ofNat (own_us dn).length))]) (lenOf pd_24 rfl) rfl (by show 2 * 0 + _ ≤ _; exact Nat.le_of_eq rfl) (hb hby d6_6) (fun _ _ => ⟨rfl, eq_, (by decide : 0 + 0 ≤ _), (by decide : 0 + 0 ≤ _)⟩)
        dsimp only [Pt.U, Pt.locs, Pt.cells, Pt.slots] at X8 lq8 yq8 zq8 st8 hQ8
        subst lq8 yq8 zq8
        obtain ⟨rfl, rfl, e8⟩ := hQ8
        try rw [List.append_nil] at X8
        refine gb (fun _ k => st8.trans k) ?_
        show G T8 (mkF m 9 #[rv a1, iv mx, iv tt, iv (Int32.ofNat (own_us dn).length), iv x4, iv x5] [.int (Int32.ofNat ds.length), .int (Int32.ofNat (own_us dn).length)])
        refine gb (fun _ k => XS.icmpNo X8.here hx rfl (hb hby d6_9) rfl (tlt (own_in hlt (by omega)).2).2.1 (XS.aloadN X8.here hx rfl (hb hby d6_12) rfl rfl (XS.iloadN X8.here hx rfl (hb hby d6_13) rfl k))) ?_
        show G T8 (mkF m 14 #[rv a1, iv mx, iv tt, iv (Int32.ofNat (own_us dn).length), iv x4, iv x5] [.int (Int32.ofNat (own_us dn).length), .ref a1])
        obtain ⟨cq9, kq9, q9a, q9b, q9c⟩ := isOf hZ e8 E_a1
        obtain ⟨_, _, ⟨T9, Lz9, kz9, nz9⟩, -, X9, ⟨Lc9, hQ9, lq9, yq9, zq9⟩, st9⟩ := X8.virtualBack hx (y := (⟨"java/lang/String", "codePointAt", "(I)I"⟩ : MethodName)) (z := (⟨"java/lang/String", "codePointAt", "(I)I"⟩ : MethodName)) hown (mvT hZ (ow hw 111 rfl)) (mvT hZ (ow hw 112 rfl)) (notFace_of_selects (args := #[]) (mvT hZ (ow hw 114 rfl))) (mvT hZ (ow hw 114 rfl)) (mvT hZ (ow hw 113 rfl)) (by decide) (backOf (W := 0) (rmCP l Z a0 hw [] a1 a2 k2 ds (own_us dn).length h0 n0 O S_ad S_hi S_lo sf hr_sf S_sf E_a1 F_coder_a1 F_value_a1 V_a2 zc S_cs hzc hlt hRd) hZ (ow hw 115 rfl) (ow hw 3 rfl) (by decide) (by decide)) q9a q9c (g := (mkF m 14 #[rv a1, iv mx, iv tt, iv (Int32.ofNat (own_us dn).length), iv x4, iv x5] [.int (Int32.ofNat (own_us dn).length), .ref a1])) rfl (by rw [hml]; rfl) (Steps.refl _) (argsL := [(.int (Int32.ofNat (own_us dn).length))]) (rest := []) (lenOf pd_0 rfl) rfl (by show 2 * 0 + _ ≤ _; exact Nat.le_of_eq rfl) (hb hby d6_14) (fun _ _ => ⟨rfl, e8, (by decide : 0 + 0 ≤ _), (by decide : 0 + 0 ≤ _)⟩)
        dsimp only [Pt.U, Pt.locs, Pt.cells, Pt.slots] at X9 lq9 yq9 zq9 st9 hQ9
        subst lq9 yq9 zq9
        obtain ⟨rfl, rfl, e9⟩ := hQ9
        try rw [List.append_nil] at X9
        refine gb (fun _ k => st9.trans k) ?_
        show G T9 (mkF m 17 #[rv a1, iv mx, iv tt, iv (Int32.ofNat (own_us dn).length), iv x4, iv x5] [.int (own_cpt ds (own_us dn).length)])
        rw [own_cpt_at (hVq pt (List.mem_cons_self ..)) hq1]
        show G T9 (mkF m 17 #[rv a1, iv mx, iv tt, iv (Int32.ofNat (own_us dn).length), iv x4, iv x5] [.int pt])
        refine gb (fun _ k => XS.istore X9.here hx rfl (hb hby d6_17) rfl (l' := #[rv a1, iv mx, iv tt, iv (Int32.ofNat (own_us dn).length), iv pt, iv x5]) rfl (XS.iload X9.here hx rfl (hb hby d6_19) rfl k)) ?_
        show G T9 (mkF m 21 #[rv a1, iv mx, iv tt, iv (Int32.ofNat (own_us dn).length), iv pt, iv x5] [.int pt])
        obtain ⟨_, _, ⟨T10, Lz10, kz10, nz10⟩, -, X10, ⟨Lc10, hQ10, lq10, yq10, zq10⟩, st10⟩ := Jvm.LawKit.callS X9 hx (y := (⟨"com/example/lease/lease/core/Inputs", "utf8Size", "(I)I"⟩ : MethodName)) hown (mvT hZ (ow hw 138 rfl)) (mvT hZ (ow hw 139 rfl)) (mvT hZ (ow hw 31 rfl)) (mvT hZ (ow hw 140 rfl)) (by decide) (backOf (W := 0) (rmUZ l Z a0 hw [] pt h0 n0 O) hZ (ow hw 140 rfl) (ow hw 31 rfl) (by decide) (by decide)) (g := (mkF m 21 #[rv a1, iv mx, iv tt, iv (Int32.ofNat (own_us dn).length), iv pt, iv x5] [.int pt])) rfl (by rw [hml]; rfl) (argsL := [(.int pt)]) (rest := []) (lenOf pd_0 rfl) rfl (by show 2 * 0 + _ ≤ _; exact Nat.le_of_eq rfl) (hb hby d6_21) (fun _ _ => ⟨rfl, e9, (by decide : 0 + 0 ≤ _), (by decide : 0 + 0 ≤ _)⟩)
        dsimp only [Pt.U, Pt.locs, Pt.cells, Pt.slots] at X10 lq10 yq10 zq10 st10 hQ10
        subst lq10 yq10 zq10
        obtain ⟨rfl, rfl, e10⟩ := hQ10
        try rw [List.append_nil] at X10
        refine gb st10 ?_
        show G T10 (mkF m 24 #[rv a1, iv mx, iv tt, iv (Int32.ofNat (own_us dn).length), iv pt, iv x5] [.int (own_sz pt)])
        refine gb (fun _ k => XS.istore X10.here hx rfl (hb hby d6_24) rfl (l' := #[rv a1, iv mx, iv tt, iv (Int32.ofNat (own_us dn).length), iv pt, iv (own_sz pt)]) rfl (XS.iloadN X10.here hx rfl (hb hby d6_26) rfl (XS.iload X10.here hx rfl (hb hby d6_27) rfl (XS.iadd X10.here hx rfl (hb hby d6_29) rfl (XS.iloadN X10.here hx rfl (hb hby d6_30) rfl k))))) ?_
        show G T10 (mkF m 31 #[rv a1, iv mx, iv tt, iv (Int32.ofNat (own_us dn).length), iv pt, iv (own_sz pt)] [.int mx, .int (tt + (own_sz pt))])
        by_cases hc31 : mx < (tt + (own_sz pt))
        · skip
          refine gb (fun _ k => XS.icmpNo X10.here hx rfl (hb hby d6_31) rfl (tlt hc31).2.2.2 (XS.goto X10.here hx rfl (pc0 := 34) (pc' := 53) rfl (hb hby d6_34) (by decide) (by decide) (XS.aloadN X10.here hx rfl (hb hby d6_53) rfl rfl (XS.iconst X10.here hx rfl (hb hby d6_54) (XS.iloadN X10.here hx rfl (hb hby d6_55) rfl k))))) ?_
          show G T10 (mkF m 56 #[rv a1, iv mx, iv tt, iv (Int32.ofNat (own_us dn).length), iv pt, iv (own_sz pt)] [.int (Int32.ofNat (own_us dn).length), .int 0, .ref a1])
          rw [show Int32.ofNat (own_us dn).length = Int32.ofNat cs.length from by rw [hq2, show own_ld mx tt (pt :: r) = [] from if_pos hc31, show own_us ([] : List Int32) = [] from rfl, List.append_nil]]
          show G T10 (mkF m 56 #[rv a1, iv mx, iv tt, iv (Int32.ofNat cs.length), iv pt, iv (own_sz pt)] [.int (Int32.ofNat cs.length), .int 0, .ref a1])
          have hks : cs = own_us dn := by rw [hq2, show own_ld mx tt (pt :: r) = [] from if_pos hc31]; exact List.append_nil _
          have hpre : cs = ds.take cs.length := by rw [hks, hq1, List.take_left']; rfl
          have hle : cs.length ≤ ds.length := by rw [hks]; omega
          have hR : own_R cs := by rw [hpre]; exact own_Rt hRd _
          have lt_a1 := E_a1.lt
          have lt_a2 := V_a2.lt
          obtain ⟨cq11, kq11, q11a, q11b, q11c⟩ := isOf hZ e10 E_a1
          obtain ⟨_, _, ⟨T11, Lz11, kz11, nz11⟩, -, X11, hS11, hg11, ⟨Lc11, hQ11, lq11, yq11, zq11, hC11⟩, st11⟩ := X10.virtualBackS hx (y := (⟨"java/lang/String", "substring", "(II)Ljava/lang/String;"⟩ : MethodName)) (z := (⟨"java/lang/String", "substring", "(II)Ljava/lang/String;"⟩ : MethodName)) hown (mvT hZ (ow hw 44 rfl)) (mvT hZ (ow hw 45 rfl)) (notFace_of_selects (args := #[]) (mvT hZ (ow hw 47 rfl))) (mvT hZ (ow hw 47 rfl)) (mvT hZ (ow hw 46 rfl)) (by decide) (backOfSH (W := 0) (rmSS l Z a0 hw [] a1 a2 k2 cs ds h0 n0 O hEL S_ad S_hi S_lo sf hr_sf S_sf E_a1 F_coder_a1 F_value_a1 V_a2 zc S_cs hzc hpre hle hRd hR) hZ (ow hw 48 rfl) (ow hw 3 rfl) (by decide) (by decide) hEL HR.1) q11a q11c (g := (mkF m 56 #[rv a1, iv mx, iv tt, iv (Int32.ofNat cs.length), iv pt, iv (own_sz pt)] [.int (Int32.ofNat cs.length), .int 0, .ref a1])) rfl (by rw [hml]; rfl) (Steps.refl _) (argsL := [(.int (0 : Int32)), (.int (Int32.ofNat cs.length))]) (rest := []) (lenOf pd_27 rfl) rfl (by show 2 * 0 + _ ≤ _; exact Nat.le_of_eq rfl) (hb hby d6_56) (fun _ _ => ⟨rfl, e10, (by decide : 0 + 3 ≤ _), (by decide : 0 + 22 ≤ _)⟩)
          dsimp only [Pt.U, Pt.locs, Pt.cells, Pt.slots] at X11 lq11 yq11 zq11 st11 hQ11 hS11 hg11 hC11
          subst lq11 yq11 zq11
          obtain ⟨X11, hS, hZ, hown⟩ := rebS hS (Nat.le_trans hk (Nat.le_of_eq (congrArg Array.size e10.symm))) X11 hS11 hg11 hZ hown
          obtain ⟨h11, e11⟩ : ∃ z, z = T11.heap := ⟨_, rfl⟩
          rw [← e11] at hQ11 hC11
          replace e11 := e11.symm
          obtain ⟨x11, b11, kb11, rfl, Nq11, Kq11, hR11⟩ := hQ11
          have N := Fr.app N Nq11
          have HR := HR.trans hC11
          have E_a1 := E_a1.keep Kq11
          have F_coder_a1 := F_coder_a1.keep Kq11 nin0
          have F_value_a1 := F_value_a1.keep Kq11 nin0
          have V_a2 := V_a2.keep Kq11 nin0
          have hk := Nat.le_trans hk Kq11.1
          have hk : T11.heap.size ≤ h11.size := by rw [e11]; exact Nat.le_refl _
          obtain ⟨E_x11, F_coder_x11, F_value_x11, V_b11⟩ := hR11
          have O := O.keep Kq11 all0
          have K := K.trans Kq11 all0
          refine gb (fun _ k => st11.trans k) ?_
          show G T11 (mkF m 59 #[rv a1, iv mx, iv tt, iv (Int32.ofNat cs.length), iv pt, iv (own_sz pt)] [.ref x11])
          exact go X11 hS (Nat.le_trans hk (Nat.le_of_eq (congrArg Array.size e11.symm))) (by rw [e11]; exact HR) hZ (v := (some (.ref x11))) (fun h => by rw [Bd.returns] at h; cases h) (fun fs hr => retOut X11 hx Bd.returns rfl (Or.inr (Or.inr (Or.inr (Or.inr ⟨rfl, rfl, rfl⟩)))) (hb hby d6_59) hr) (by rw [e11]; exact ⟨_, _, _, rfl, N, K, E_x11, F_coder_x11, F_value_x11, V_b11⟩) (by decide) (by decide)
        · skip
          refine gb (fun _ k => XS.icmpYes X10.here hx rfl (pc0 := 31) (pc' := 37) rfl (hb hby d6_31) rfl (flt hc31).2.2.2 (by decide) (by decide) (XS.iloadN X10.here hx rfl (hb hby d6_37) rfl (XS.iload X10.here hx rfl (hb hby d6_38) rfl (XS.iadd X10.here hx rfl (hb hby d6_40) rfl (XS.istoreN X10.here hx rfl (hb hby d6_41) rfl (l' := #[rv a1, iv mx, iv (tt + (own_sz pt)), iv (Int32.ofNat (own_us dn).length), iv pt, iv (own_sz pt)]) rfl (XS.iloadN X10.here hx rfl (hb hby d6_42) rfl k)))))) ?_
          show G T10 (mkF m 43 #[rv a1, iv mx, iv (tt + (own_sz pt)), iv (Int32.ofNat (own_us dn).length), iv pt, iv (own_sz pt)] [.int (Int32.ofNat (own_us dn).length)])
          refine gb (fun _ k => XS.iload X10.here hx rfl (hb hby d6_43) rfl k) ?_
          show G T10 (mkF m 45 #[rv a1, iv mx, iv (tt + (own_sz pt)), iv (Int32.ofNat (own_us dn).length), iv pt, iv (own_sz pt)] [.int pt, .int (Int32.ofNat (own_us dn).length)])
          obtain ⟨_, _, ⟨T12, Lz12, kz12, nz12⟩, -, X12, ⟨Lc12, hQ12, lq12, yq12, zq12⟩, st12⟩ := Jvm.LawKit.callS X10 hx (y := (⟨"java/lang/Character", "charCount", "(I)I"⟩ : MethodName)) hown (mvT hZ (ow hw 141 rfl)) (mvT hZ (ow hw 142 rfl)) (mvT hZ (ow hw 135 rfl)) (mvT hZ (ow hw 143 rfl)) (by decide) (backOf (W := 1) (rmCC l Z a0 hw [] pt h0 n0 O) hZ (ow hw 143 rfl) (ow hw 135 rfl) (by decide) (by decide)) (g := (mkF m 45 #[rv a1, iv mx, iv (tt + (own_sz pt)), iv (Int32.ofNat (own_us dn).length), iv pt, iv (own_sz pt)] [.int pt, .int (Int32.ofNat (own_us dn).length)])) rfl (by rw [hml]; rfl) (argsL := [(.int pt)]) (rest := [(.int (Int32.ofNat (own_us dn).length))]) (lenOf pd_0 rfl) rfl (by show 2 * 0 + _ ≤ _; exact Nat.le_of_eq rfl) (hb hby d6_45) (fun _ _ => ⟨rfl, e10, (by decide : 0 + 0 ≤ _), (by decide : 0 + 0 ≤ _)⟩)
          dsimp only [Pt.U, Pt.locs, Pt.cells, Pt.slots] at X12 lq12 yq12 zq12 st12 hQ12
          subst lq12 yq12 zq12
          obtain ⟨rfl, rfl, e12⟩ := hQ12
          try rw [List.append_nil] at X12
          refine gb st12 ?_
          show G T12 (mkF m 48 #[rv a1, iv mx, iv (tt + (own_sz pt)), iv (Int32.ofNat (own_us dn).length), iv pt, iv (own_sz pt)] [.int (own_cc pt), .int (Int32.ofNat (own_us dn).length)])
          refine gb (fun _ k => XS.iadd X12.here hx rfl (hb hby d6_48) rfl k) ?_
          show G T12 (mkF m 49 #[rv a1, iv mx, iv (tt + (own_sz pt)), iv (Int32.ofNat (own_us dn).length), iv pt, iv (own_sz pt)] [.int ((Int32.ofNat (own_us dn).length) + (own_cc pt))])
          rw [show Int32.ofNat (own_us dn).length + own_cc pt = Int32.ofNat (own_us (dn ++ [pt])).length from by rw [own_us1, List.length_append, Int32.ofNat_add, own_un_cc]]
          show G T12 (mkF m 49 #[rv a1, iv mx, iv (tt + (own_sz pt)), iv (Int32.ofNat (own_us dn).length), iv pt, iv (own_sz pt)] [.int (Int32.ofNat (own_us (dn ++ [pt])).length)])
          refine gb (fun _ k => XS.istoreN X12.here hx rfl (hb hby d6_49) rfl (l' := #[rv a1, iv mx, iv (tt + (own_sz pt)), iv (Int32.ofNat (own_us (dn ++ [pt])).length), iv pt, iv (own_sz pt)]) rfl (XS.goto X12.here hx rfl (pc0 := 50) (pc' := 4) rfl (hb hby d6_50) (by decide) (by decide) k)) ?_
          show G T12 (mkF m 4 #[rv a1, iv mx, iv (tt + (own_sz pt)), iv (Int32.ofNat (own_us (dn ++ [pt])).length), iv pt, iv (own_sz pt)] [])
          exact ih (dn ++ [pt]) (tt + own_sz pt) _ X12 e12 (.val (.int pt)) (.val (.int (own_sz pt))) (Or.inr ⟨_, _, rfl, rfl⟩) (by rw [hq1, own_us1, List.append_assoc]; rfl) (fun q hq => hVq q (List.mem_cons_of_mem _ hq)) (by rw [hq2, own_us1, show own_ld mx tt (pt :: r) = pt :: own_ld mx (tt + own_sz pt) r from if_neg hc31, List.append_assoc]; rfl)
  exact LP ps [] 0 _ X0 e0 .unset .unset (Or.inl ⟨rfl, rfl⟩) hds hV hcs
def Q_rmLE (Z : State) (a3 a4 : Addr) (k3 k4 : ClassId) (z3 z4 : Int32) (xs ys : List Int32) (h0 : Heap) (n0 : Nat) : Option Value → Heap → List Loc → Prop := fun v h L => v = some (.int (if xs = ys then (1 : Int32) else (0 : Int32))) ∧ L = [] ∧ h = h0
set_option maxRecDepth 65536 in
set_option maxHeartbeats 40000000 in
theorem rmLE (l : Launch) (Z : State) (a0 : Array Value) (hw : ∀ d ∈ tables_1, d.before a0 Z = true) (ws : List Jvm.Cond) (a3 a4 : Addr) (k3 k4 : ClassId) (z3 z4 : Int32) (xs ys : List Int32) (h0 : Heap) (n0 : Nat) (O : Old Z n0 h0) (V_a3 : Arv Z h0 a3 k3 .byte z3 (xs.map Value.int) (.int (0 : Int32))) (V_a4 : Arv Z h0 a4 k4 .byte z4 (ys.map Value.int) (.int (0 : Int32))) (hz3 : z3.toNatClampNeg = xs.length) (hz4 : z4.toNatClampNeg = ys.length) :
    MetFree l (⟨"java/lang/StringLatin1", "equals", "([B[B)Z"⟩ : MethodName) (head1 (Jvm.Cond.code (⟨"java/lang/StringLatin1", "equals", "([B[B)Z"⟩ : MethodName) jdk_43_method_13_code 3 (some .boolean) :: ws) ({ frames := 0, cells := 0, slots := 0, locals := 0 } : Room)) (fun a U => a = #[(.ref a3), (.ref a4)] ∧ Z.Warmed39 U.vm ∧ U.heap = h0) (fun _ _ _ _ _ => True) (fun _ U o U' => ∃ v L, o = .returned v ∧ (Q_rmLE Z a3 a4 k3 k4 z3 z4 xs ys h0 n0) v U'.heap L ∧ FrameEnd U o U' L ({ frames := 0, cells := 0, slots := 0, locals := 0 } : Room).cells ({ frames := 0, cells := 0, slots := 0, locals := 0 } : Room).slots) := by
  refine MetFree.of_bodySF (plainFor_of_name pn_6) hisR ?_
  intro p e s m args below meth c s₁ Bd hml0 hP hK
  obtain ⟨rfl, hZ, hh⟩ := hP
  have hx := Bd.exec
  have hby := Bd.bytes
  have hml : c.maxLocals = 3 := hml0
  have hown : s.vm.findClass "java/lang/StringLatin1" = some m.cls := findClass_of_methodNamed Bd.named
  have hnm := (name_of_methodNamed Bd.named Bd.method).1
  have hlk := BodyLoose.notSynchronized Bd
  have X0 : Stand p l e ({ frames := 0, cells := 0, slots := 0, locals := 0 } : Room) s m #[(.ref a3), (.ref a4)] below meth c s₁ [] 0 0 := Stand.of_body Bd
  have e0 : s₁.heap = h0 := by rw [← hh, Bd.state]; rfl
  have N := Fr.nil n0
  obtain ⟨G, hG⟩ : ∃ G : State → JFrame → Prop, G = OwnG p e below s ({ frames := 0, cells := 0, slots := 0, locals := 0 } : Room).cells ({ frames := 0, cells := 0, slots := 0, locals := 0 } : Room).slots (Q_rmLE Z a3 a4 k3 k4 z3 z4 xs ys h0 n0) := ⟨_, rfl⟩
  have gb : ∀ {T T' : State} {g g' : JFrame}, (∀ t, Steps p.tables e below (T'.setTop g') t → Steps p.tables e below (T.setTop g) t) → G T' g' → G T g := by subst hG; exact fun k h => own_by k h
  have go : ∀ {T : State} {locs : List Loc} {cells slots : Nat} {g : JFrame} {v : Option Value}, Stand p l e ({ frames := 0, cells := 0, slots := 0, locals := 0 } : Room) s m #[(.ref a3), (.ref a4)] below meth c T locs cells slots → (meth.sig.returnType = none → v = none) → (∀ fs, (∀ (f : JFrame) (acts : List Action), f.method = m → f.locked = none → f.entered = [] → (doReturn e (T.setTop f) acts v).1 = T.setFrames fs) → Steps p.tables e below (T.setTop g) (T.setFrames fs)) → (Q_rmLE Z a3 a4 k3 k4 z3 z4 xs ys h0 n0) v T.heap locs → cells ≤ ({ frames := 0, cells := 0, slots := 0, locals := 0 } : Room).cells → slots ≤ ({ frames := 0, cells := 0, slots := 0, locals := 0 } : Room).slots → G T g := by subst hG; exact fun X h1 h2 h3 h4 h5 => own_out X hlk h1 h2 h3 h4 h5
  show OwnG p e below s ({ frames := 0, cells := 0, slots := 0, locals := 0 } : Room).cells ({ frames := 0, cells := 0, slots := 0, locals := 0 } : Room).slots (Q_rmLE Z a3 a4 k3 k4 z3 z4 xs ys h0 n0) s₁ (entryFrame m #[(.ref a3), (.ref a4)] 3)
  rw [← hG, ef_rmLE m a3 a4]
  clear hG
  show G s₁ (mkF m 0 #[.val (.ref a3), .val (.ref a4), .unset] [])
  have hn3 : ¬ z3 < 0 := by obtain ⟨_, _, _, _, q, _⟩ := V_a3; exact q
  have hn4 : ¬ z4 < 0 := by obtain ⟨_, _, _, _, q, _⟩ := V_a4; exact q
  refine gb (fun _ k => XS.aloadN X0.here hx rfl (hb hby d13_0) rfl rfl k) ?_
  show G s₁ (mkF m 1 #[rv a3, rv a4, .unset] [.ref a3])
  have V'1 := V_a3
  obtain ⟨cl1, Ar1, qk1, sz1, nn1, hs1, ft1⟩ := V'1
  refine gb (X0.arraylength hx (by rw [e0]; exact Ar1.1) (State.isArrayOf_alike hZ.alike Ar1.2.1) (g := (mkF m 1 #[rv a3, rv a4, .unset] [.ref a3])) rfl rfl (hb hby d13_1)) ?_
  rw [len_of sz1 nn1]
  show G s₁ (mkF m 2 #[rv a3, rv a4, .unset] [.int z3])
  refine gb (fun _ k => XS.aloadN X0.here hx rfl (hb hby d13_2) rfl rfl k) ?_
  show G s₁ (mkF m 3 #[rv a3, rv a4, .unset] [.ref a4, .int z3])
  have V'2 := V_a4
  obtain ⟨cl2, Ar2, qk2, sz2, nn2, hs2, ft2⟩ := V'2
  refine gb (X0.arraylength hx (by rw [e0]; exact Ar2.1) (State.isArrayOf_alike hZ.alike Ar2.2.1) (g := (mkF m 3 #[rv a3, rv a4, .unset] [.ref a4, .int z3])) rfl rfl (hb hby d13_3)) ?_
  rw [len_of sz2 nn2]
  show G s₁ (mkF m 4 #[rv a3, rv a4, .unset] [.int z4, .int z3])
  by_cases hc4 : z3 = z4
  · skip
    refine gb (fun _ k => XS.icmpNo X0.here hx rfl (hb hby d13_4) rfl (teq hc4).2 (XS.iconst X0.here hx rfl (hb hby d13_7) (XS.istoreN X0.here hx rfl (hb hby d13_8) rfl (l' := #[rv a3, rv a4, iv 0]) rfl k))) ?_
    show G s₁ (mkF m 9 #[rv a3, rv a4, iv 0] [])
    have hl : xs.length = ys.length := (own_zeq hz3 hz4 hn3 hn4).mp hc4
    have L9 : ∀ (k i : Nat), i + k = xs.length → (∀ j, j < i → xs.getD j 0 = ys.getD j 0) → G s₁ (mkF m 9 #[rv a3, rv a4, iv (Int32.ofNat i)] []) := by
      intro k
      induction k with
      | zero =>
        intro i hi hp
        show G s₁ (mkF m 9 #[rv a3, rv a4, iv (Int32.ofNat i)] [])
        refine gb (fun _ k => XS.iloadN X0.here hx rfl (hb hby d13_9) rfl (XS.aloadN X0.here hx rfl (hb hby d13_10) rfl rfl k)) ?_
        show G s₁ (mkF m 11 #[rv a3, rv a4, iv (Int32.ofNat i)] [.ref a3, .int (Int32.ofNat i)])
        have V'3 := V_a3
        obtain ⟨cl3, Ar3, qk3, sz3, nn3, hs3, ft3⟩ := V'3
        refine gb (X0.arraylength hx (by rw [e0]; exact Ar3.1) (State.isArrayOf_alike hZ.alike Ar3.2.1) (g := (mkF m 11 #[rv a3, rv a4, iv (Int32.ofNat i)] [.ref a3, .int (Int32.ofNat i)])) rfl rfl (hb hby d13_11)) ?_
        rw [len_of sz3 nn3]
        show G s₁ (mkF m 12 #[rv a3, rv a4, iv (Int32.ofNat i)] [.int z3, .int (Int32.ofNat i)])
        refine gb (fun _ k => XS.icmpYes X0.here hx rfl (pc0 := 12) (pc' := 32) rfl (hb hby d13_12) rfl (flt (own_ofNatG hz3 hn3 (by omega))).2.1 (by decide) (by decide) (XS.iconst X0.here hx rfl (hb hby d13_32) k)) ?_
        show G s₁ (mkF m 33 #[rv a3, rv a4, iv (Int32.ofNat i)] [.int 1])
        exact go X0 (v := (some (.int (1 : Int32)))) (fun h => by rw [Bd.returns] at h; cases h) (fun fs hr => retOut X0 hx Bd.returns rfl (Or.inl ⟨rfl, by simp, _, rfl⟩) (hb hby d13_33) hr) (⟨by rw [if_pos (own_lists hl (fun j hj => hp j (by omega)))], rfl, e0⟩) (by decide) (by decide)
      | succ k ih =>
        intro i hi hp
        show G s₁ (mkF m 9 #[rv a3, rv a4, iv (Int32.ofNat i)] [])
        obtain ⟨hi1, hi2, hi3⟩ := own_ofNat hz3 (show i < xs.length by omega)
        obtain ⟨hj1, hj2, hj3⟩ := own_ofNat hz4 (show i < ys.length by omega)
        refine gb (fun _ k => XS.iloadN X0.here hx rfl (hb hby d13_9) rfl (XS.aloadN X0.here hx rfl (hb hby d13_10) rfl rfl k)) ?_
        show G s₁ (mkF m 11 #[rv a3, rv a4, iv (Int32.ofNat i)] [.ref a3, .int (Int32.ofNat i)])
        have V'4 := V_a3
        obtain ⟨cl4, Ar4, qk4, sz4, nn4, hs4, ft4⟩ := V'4
        refine gb (X0.arraylength hx (by rw [e0]; exact Ar4.1) (State.isArrayOf_alike hZ.alike Ar4.2.1) (g := (mkF m 11 #[rv a3, rv a4, iv (Int32.ofNat i)] [.ref a3, .int (Int32.ofNat i)])) rfl rfl (hb hby d13_11)) ?_
        rw [len_of sz4 nn4]
        show G s₁ (mkF m 12 #[rv a3, rv a4, iv (Int32.ofNat i)] [.int z3, .int (Int32.ofNat i)])
        refine gb (fun _ k => XS.icmpNo X0.here hx rfl (hb hby d13_12) rfl (tlt hi1).2.1 (XS.aloadN X0.here hx rfl (hb hby d13_15) rfl rfl (XS.iloadN X0.here hx rfl (hb hby d13_16) rfl k))) ?_
        show G s₁ (mkF m 17 #[rv a3, rv a4, iv (Int32.ofNat i)] [.int (Int32.ofNat i), .ref a3])
        have V'5 := V_a3
        obtain ⟨cl5, Ar5, qk5, sz5, nn5, hs5, ft5⟩ := V'5
        have hin5 : ¬ ((Int32.ofNat i) < 0 ∨ cl5.slots.size ≤ ((Int32.ofNat i)).toNatClampNeg) := inb_of sz5 ⟨hi2, hi1⟩
        have hat5 : cl5.slots[((Int32.ofNat i)).toNatClampNeg]? = some (.int (xs.getD i 0)) := hs5.at hin5 (by rw [hi3]; exact own_getD xs i)
        refine gb (X0.baloadBytes hx (j := (Int32.ofNat i)) (v := (.int (xs.getD i 0))) (by rw [e0]; exact Ar5.1) (State.isArrayOf_alike hZ.alike Ar5.2.1) Ar5.2.2 hin5 hat5 (g := (mkF m 17 #[rv a3, rv a4, iv (Int32.ofNat i)] [.int (Int32.ofNat i), .ref a3])) rfl rfl (hb hby d13_17)) ?_
        show G s₁ (mkF m 18 #[rv a3, rv a4, iv (Int32.ofNat i)] [.int (xs.getD i 0)])
        refine gb (fun _ k => XS.aloadN X0.here hx rfl (hb hby d13_18) rfl rfl (XS.iloadN X0.here hx rfl (hb hby d13_19) rfl k)) ?_
        show G s₁ (mkF m 20 #[rv a3, rv a4, iv (Int32.ofNat i)] [.int (Int32.ofNat i), .ref a4, .int (xs.getD i 0)])
        have V'6 := V_a4
        obtain ⟨cl6, Ar6, qk6, sz6, nn6, hs6, ft6⟩ := V'6
        have hin6 : ¬ ((Int32.ofNat i) < 0 ∨ cl6.slots.size ≤ ((Int32.ofNat i)).toNatClampNeg) := inb_of sz6 ⟨hj2, hj1⟩
        have hat6 : cl6.slots[((Int32.ofNat i)).toNatClampNeg]? = some (.int (ys.getD i 0)) := hs6.at hin6 (by rw [hj3]; exact own_getD ys i)
        refine gb (X0.baloadBytes hx (j := (Int32.ofNat i)) (v := (.int (ys.getD i 0))) (by rw [e0]; exact Ar6.1) (State.isArrayOf_alike hZ.alike Ar6.2.1) Ar6.2.2 hin6 hat6 (g := (mkF m 20 #[rv a3, rv a4, iv (Int32.ofNat i)] [.int (Int32.ofNat i), .ref a4, .int (xs.getD i 0)])) rfl rfl (hb hby d13_20)) ?_
        show G s₁ (mkF m 21 #[rv a3, rv a4, iv (Int32.ofNat i)] [.int (ys.getD i 0), .int (xs.getD i 0)])
        by_cases hc21 : (xs.getD i 0) = (ys.getD i 0)
        · skip
          refine gb (fun _ k => XS.icmpYes X0.here hx rfl (pc0 := 21) (pc' := 26) rfl (hb hby d13_21) rfl (teq hc21).1 (by decide) (by decide) (XS.iinc X0.here hx rfl (hb hby d13_26) rfl (l' := #[rv a3, rv a4, iv ((Int32.ofNat i) + (1 : Int32))]) rfl (XS.goto X0.here hx rfl (pc0 := 29) (pc' := 9) rfl (hb hby d13_29) (by decide) (by decide) k))) ?_
          show G s₁ (mkF m 9 #[rv a3, rv a4, iv ((Int32.ofNat i) + (1 : Int32))] [])
          rw [own_succ32]
          exact ih (i + 1) (by omega) (fun j hj => by rcases Nat.lt_succ_iff_lt_or_eq.mp hj with q | q; exact hp j q; rw [q]; exact hc21)
        · skip
          refine gb (fun _ k => XS.icmpNo X0.here hx rfl (hb hby d13_21) rfl (feq hc21).1 (XS.iconst X0.here hx rfl (hb hby d13_24) k)) ?_
          show G s₁ (mkF m 25 #[rv a3, rv a4, iv (Int32.ofNat i)] [.int 0])
          exact go X0 (v := (some (.int (0 : Int32)))) (fun h => by rw [Bd.returns] at h; cases h) (fun fs hr => retOut X0 hx Bd.returns rfl (Or.inl ⟨rfl, by simp, _, rfl⟩) (hb hby d13_25) hr) (⟨by rw [if_neg (fun q => hc21 (by rw [q]))], rfl, e0⟩) (by decide) (by decide)
    exact L9 xs.length 0 (Nat.zero_add _) (fun _ q => absurd q (Nat.not_lt_zero _))
  · skip
    refine gb (fun _ k => XS.icmpYes X0.here hx rfl (pc0 := 4) (pc' := 34) rfl (hb hby d13_4) rfl (feq hc4).2 (by decide) (by decide) (XS.iconst X0.here hx rfl (hb hby d13_34) k)) ?_
    show G s₁ (mkF m 35 #[rv a3, rv a4, .unset] [.int 0])
    exact go X0 (v := (some (.int (0 : Int32)))) (fun h => by rw [Bd.returns] at h; cases h) (fun fs hr => retOut X0 hx Bd.returns rfl (Or.inl ⟨rfl, by simp, _, rfl⟩) (hb hby d13_35) hr) (⟨by rw [if_neg (fun q => hc4 ((own_zeq hz3 hz4 hn3 hn4).mpr (by rw [q])))], rfl, e0⟩) (by decide) (by decide)
def Q_rmEQ (Z : State) (a1 a2 a3 a4 : Addr) (k2 k4 : ClassId) (cs : List Int32) (h0 : Heap) (n0 : Nat) (zc : Int32) : Option Value → Heap → List Loc → Prop := fun v h L => v = some (.int (1 : Int32)) ∧ L = [] ∧ h = h0
set_option maxRecDepth 65536 in
set_option maxHeartbeats 40000000 in
theorem rmEQ (l : Launch) (Z : State) (a0 : Array Value) (hw : ∀ d ∈ tables_1, d.before a0 Z = true) (ws : List Jvm.Cond) (a1 a2 a3 a4 : Addr) (k2 k4 : ClassId) (cs : List Int32) (h0 : Heap) (n0 : Nat) (O : Old Z n0 h0) (E_a1 : Exa Z h0 a1 "java/lang/String") (F_coder_a1 : Fld Z h0 a1 "java/lang/String" "coder" "B" (.int (own_cd cs))) (F_value_a1 : Fld Z h0 a1 "java/lang/String" "value" "[B" (.ref a2)) (V_a2 : Arv Z h0 a2 k2 .byte (Int32.ofNat (own_enc cs).length) ((own_enc cs).map Value.int) (.int (0 : Int32))) (E_a3 : Exa Z h0 a3 "java/lang/String") (F_coder_a3 : Fld Z h0 a3 "java/lang/String" "coder" "B" (.int (own_cd cs))) (F_value_a3 : Fld Z h0 a3 "java/lang/String" "value" "[B" (.ref a4)) (V_a4 : Arv Z h0 a4 k4 .byte (Int32.ofNat (own_enc cs).length) ((own_enc cs).map Value.int) (.int (0 : Int32))) (zc : Int32) (S_cs : Sta Z Z.heap "java/lang/String" "COMPACT_STRINGS" "Z" (.int zc)) (hzc : ¬ zc = (0 : Int32)) (hR : own_R cs) :
    MetFree l (⟨"java/lang/String", "equals", "(Ljava/lang/Object;)Z"⟩ : MethodName) (head1 (Jvm.Cond.code (⟨"java/lang/String", "equals", "(Ljava/lang/Object;)Z"⟩ : MethodName) jdk_42_method_66_code 3 (some .boolean) :: ws) ({ frames := 1, cells := 0, slots := 0, locals := 14 } : Room)) (fun a U => a = #[(.ref a1), (.ref a3)] ∧ Z.Warmed39 U.vm ∧ U.heap = h0) (fun _ _ _ _ _ => True) (fun _ U o U' => ∃ v L, o = .returned v ∧ (Q_rmEQ Z a1 a2 a3 a4 k2 k4 cs h0 n0 zc) v U'.heap L ∧ FrameEnd U o U' L ({ frames := 1, cells := 0, slots := 0, locals := 14 } : Room).cells ({ frames := 1, cells := 0, slots := 0, locals := 14 } : Room).slots) := by
  refine MetFree.of_bodySF (plainFor_of_name pn_1) hisR ?_
  intro p e s m args below meth c s₁ Bd hml0 hP hK
  obtain ⟨rfl, hZ, hh⟩ := hP
  have hx := Bd.exec
  have hby := Bd.bytes
  have hml : c.maxLocals = 3 := hml0
  have hown : s.vm.findClass "java/lang/String" = some m.cls := findClass_of_methodNamed Bd.named
  have hnm := (name_of_methodNamed Bd.named Bd.method).1
  have hlk := BodyLoose.notSynchronized Bd
  have X0 : Stand p l e ({ frames := 1, cells := 0, slots := 0, locals := 14 } : Room) s m #[(.ref a1), (.ref a3)] below meth c s₁ [] 0 0 := Stand.of_body Bd
  have e0 : s₁.heap = h0 := by rw [← hh, Bd.state]; rfl
  have N := Fr.nil n0
  obtain ⟨G, hG⟩ : ∃ G : State → JFrame → Prop, G = OwnG p e below s ({ frames := 1, cells := 0, slots := 0, locals := 14 } : Room).cells ({ frames := 1, cells := 0, slots := 0, locals := 14 } : Room).slots (Q_rmEQ Z a1 a2 a3 a4 k2 k4 cs h0 n0 zc) := ⟨_, rfl⟩
  have gb : ∀ {T T' : State} {g g' : JFrame}, (∀ t, Steps p.tables e below (T'.setTop g') t → Steps p.tables e below (T.setTop g) t) → G T' g' → G T g := by subst hG; exact fun k h => own_by k h
  have go : ∀ {T : State} {locs : List Loc} {cells slots : Nat} {g : JFrame} {v : Option Value}, Stand p l e ({ frames := 1, cells := 0, slots := 0, locals := 14 } : Room) s m #[(.ref a1), (.ref a3)] below meth c T locs cells slots → (meth.sig.returnType = none → v = none) → (∀ fs, (∀ (f : JFrame) (acts : List Action), f.method = m → f.locked = none → f.entered = [] → (doReturn e (T.setTop f) acts v).1 = T.setFrames fs) → Steps p.tables e below (T.setTop g) (T.setFrames fs)) → (Q_rmEQ Z a1 a2 a3 a4 k2 k4 cs h0 n0 zc) v T.heap locs → cells ≤ ({ frames := 1, cells := 0, slots := 0, locals := 14 } : Room).cells → slots ≤ ({ frames := 1, cells := 0, slots := 0, locals := 14 } : Room).slots → G T g := by subst hG; exact fun X h1 h2 h3 h4 h5 => own_out X hlk h1 h2 h3 h4 h5
  show OwnG p e below s ({ frames := 1, cells := 0, slots := 0, locals := 14 } : Room).cells ({ frames := 1, cells := 0, slots := 0, locals := 14 } : Room).slots (Q_rmEQ Z a1 a2 a3 a4 k2 k4 cs h0 n0 zc) s₁ (entryFrame m #[(.ref a1), (.ref a3)] 3)
  rw [← hG, ef_rmEQ m a1 a3]
  clear hG
  show G s₁ (mkF m 0 #[.val (.ref a1), .val (.ref a3), .unset] [])
  refine gb (fun _ k => XS.aloadN X0.here hx rfl (hb hby d12_0) rfl rfl (XS.aloadN X0.here hx rfl (hb hby d12_1) rfl rfl k)) ?_
  show G s₁ (mkF m 2 #[rv a1, rv a3, .unset] [.ref a3, .ref a1])
  by_cases ha2 : a1 = a3
  · skip
    refine gb (fun _ k => Jvm.RoadKit.acmp (g := (mkF m 2 #[rv a1, rv a3, .unset] [.ref a3, .ref a1])) X0 hx rfl rfl rfl (pc0 := 2) (pc' := 5) (same := true) rfl (hb hby d12_2) rfl (decide_eq_true (congrArg Value.ref ha2)) (by decide) (by decide) (XS.iconst X0.here hx rfl (hb hby d12_5) k)) ?_
    show G s₁ (mkF m 6 #[rv a1, rv a3, .unset] [.int 1])
    exact go X0 (v := (some (.int (1 : Int32)))) (fun h => by rw [Bd.returns] at h; cases h) (fun fs hr => retOut X0 hx Bd.returns rfl (Or.inl ⟨rfl, by simp, _, rfl⟩) (hb hby d12_6) hr) (⟨rfl, rfl, e0⟩) (by decide) (by decide)
  · skip
    refine gb (fun _ k => Jvm.RoadKit.acmp (g := (mkF m 2 #[rv a1, rv a3, .unset] [.ref a3, .ref a1])) X0 hx rfl rfl rfl (pc0 := 2) (pc' := 7) (same := false) rfl (hb hby d12_2) rfl (decide_eq_false fun q => ha2 (Value.ref.inj q)) (by decide) (by decide) (XS.aloadN X0.here hx rfl (hb hby d12_7) rfl rfl k)) ?_
    show G s₁ (mkF m 8 #[rv a1, rv a3, .unset] [.ref a3])
    obtain ⟨T1, X1, e1, st1⟩ := instY X0 hx hZ hown (ow hw 63 rfl) e0 (Ins.self E_a3) (g := (mkF m 8 #[rv a1, rv a3, .unset] [.ref a3])) rfl rfl (hb hby d12_8)
    refine gb st1 ?_
    show G T1 (mkF m 11 #[rv a1, rv a3, .unset] [.int 1])
    refine gb (fun _ k => XS.ifNo X1.here hx rfl (hb hby d12_11) rfl ((if0 _ _).trans (feq (by decide : ¬ ((1 : Int32) = (0 : Int32)))).1) (XS.aloadN X1.here hx rfl (hb hby d12_14) rfl rfl k)) ?_
    show G T1 (mkF m 15 #[rv a1, rv a3, .unset] [.ref a3])
    obtain ⟨T2, X2, e2, st2⟩ := castY X1 hx hZ hown (ow hw 63 rfl) e1 (Ins.self E_a3) (g := (mkF m 15 #[rv a1, rv a3, .unset] [.ref a3])) rfl rfl (hb hby d12_15)
    refine gb st2 ?_
    show G T2 (mkF m 18 #[rv a1, rv a3, .unset] [.ref a3])
    refine gb (fun _ k => XS.astoreN X2.here hx rfl (hb hby d12_18) rfl rfl (l' := #[rv a1, rv a3, rv a3]) rfl k) ?_
    show G T2 (mkF m 19 #[rv a1, rv a3, rv a3] [])
    obtain ⟨T3, X3, e3, st3⟩ := getS2 X2 hx hZ hown (host := "") (Or.inl (ow hw 43 rfl)) Via.refl e2 (S_cs.ext O.2) (g := (mkF m 19 #[rv a1, rv a3, rv a3] [])) rfl (hb hby d12_19)
    refine gb st3 ?_
    show G T3 (mkF m 22 #[rv a1, rv a3, rv a3] [.int zc])
    refine gb (fun _ k => XS.ifNo X3.here hx rfl (hb hby d12_22) rfl ((if0 _ _).trans (feq hzc).1) (XS.aloadN X3.here hx rfl (hb hby d12_25) rfl rfl k)) ?_
    show G T3 (mkF m 26 #[rv a1, rv a3, rv a3] [.ref a1])
    obtain ⟨T4, X4, e4, st4⟩ := getF X3 hx hZ hown (host := "") (Or.inl (ow hw 25 rfl)) Via.refl e3 F_coder_a1 (g := (mkF m 26 #[rv a1, rv a3, rv a3] [.ref a1])) rfl rfl (hb hby d12_26)
    refine gb st4 ?_
    show G T4 (mkF m 29 #[rv a1, rv a3, rv a3] [.int (own_cd cs)])
    refine gb (fun _ k => XS.aloadN X4.here hx rfl (hb hby d12_29) rfl rfl k) ?_
    show G T4 (mkF m 30 #[rv a1, rv a3, rv a3] [.ref a3, .int (own_cd cs)])
    obtain ⟨T5, X5, e5, st5⟩ := getF X4 hx hZ hown (host := "") (Or.inl (ow hw 25 rfl)) Via.refl e4 F_coder_a3 (g := (mkF m 30 #[rv a1, rv a3, rv a3] [.ref a3, .int (own_cd cs)])) rfl rfl (hb hby d12_30)
    refine gb st5 ?_
    show G T5 (mkF m 33 #[rv a1, rv a3, rv a3] [.int (own_cd cs), .int (own_cd cs)])
    refine gb (fun _ k => XS.icmpNo X5.here hx rfl (hb hby d12_33) rfl (teq rfl).2 (XS.aloadN X5.here hx rfl (hb hby d12_36) rfl rfl k)) ?_
    show G T5 (mkF m 37 #[rv a1, rv a3, rv a3] [.ref a1])
    obtain ⟨T6, X6, e6, st6⟩ := getF X5 hx hZ hown (host := "") (Or.inl (ow hw 24 rfl)) Via.refl e5 F_value_a1 (g := (mkF m 37 #[rv a1, rv a3, rv a3] [.ref a1])) rfl rfl (hb hby d12_37)
    refine gb st6 ?_
    show G T6 (mkF m 40 #[rv a1, rv a3, rv a3] [.ref a2])
    refine gb (fun _ k => XS.aloadN X6.here hx rfl (hb hby d12_40) rfl rfl k) ?_
    show G T6 (mkF m 41 #[rv a1, rv a3, rv a3] [.ref a3, .ref a2])
    obtain ⟨T7, X7, e7, st7⟩ := getF X6 hx hZ hown (host := "") (Or.inl (ow hw 24 rfl)) Via.refl e6 F_value_a3 (g := (mkF m 41 #[rv a1, rv a3, rv a3] [.ref a3, .ref a2])) rfl rfl (hb hby d12_41)
    refine gb st7 ?_
    show G T7 (mkF m 44 #[rv a1, rv a3, rv a3] [.ref a4, .ref a2])
    obtain ⟨_, _, ⟨T8, Lz8, kz8, nz8⟩, -, X8, ⟨Lc8, hQ8, lq8, yq8, zq8⟩, st8⟩ := Jvm.LawKit.callS X7 hx (y := (⟨"java/lang/StringLatin1", "equals", "([B[B)Z"⟩ : MethodName)) hown (mvT hZ (ow hw 64 rfl)) (mvT hZ (ow hw 65 rfl)) (mvT hZ (ow hw 66 rfl)) (mvT hZ (ow hw 67 rfl)) (by decide) (backOf (W := 0) (rmLE l Z a0 hw [] a2 a4 k2 k4 (Int32.ofNat (own_enc cs).length) (Int32.ofNat (own_enc cs).length) (own_enc cs) (own_enc cs) h0 n0 O V_a2 V_a4 (own_tn (own_ell hR)) (own_tn (own_ell hR))) hZ (ow hw 67 rfl) (ow hw 66 rfl) (by decide) (by decide)) (g := (mkF m 44 #[rv a1, rv a3, rv a3] [.ref a4, .ref a2])) rfl (by rw [hml]; rfl) (argsL := [(.ref a2), (.ref a4)]) (rest := []) (lenOf pd_28 rfl) rfl (by show 2 * 0 + _ ≤ _; exact Nat.le_of_eq rfl) (hb hby d12_44) (fun _ _ => ⟨rfl, e7, (by decide : 0 + 0 ≤ _), (by decide : 0 + 0 ≤ _)⟩)
    dsimp only [Pt.U, Pt.locs, Pt.cells, Pt.slots] at X8 lq8 yq8 zq8 st8 hQ8
    subst lq8 yq8 zq8
    obtain ⟨rfl, rfl, e8⟩ := hQ8
    try rw [List.append_nil] at X8
    refine gb st8 ?_
    show G T8 (mkF m 47 #[rv a1, rv a3, rv a3] [.int (if own_enc cs = own_enc cs then (1 : Int32) else (0 : Int32))])
    refine gb (fun _ k => XS.ifNo X8.here hx rfl (hb hby d12_47) rfl ((if0 _ _).trans (feq (by rw [if_pos rfl]; decide)).1) (XS.iconst X8.here hx rfl (hb hby d12_50) (XS.goto X8.here hx rfl (pc0 := 51) (pc' := 55) rfl (hb hby d12_51) (by decide) (by decide) k))) ?_
    show G T8 (mkF m 55 #[rv a1, rv a3, rv a3] [.int 1])
    exact go X8 (v := (some (.int (1 : Int32)))) (fun h => by rw [Bd.returns] at h; cases h) (fun fs hr => retOut X8 hx Bd.returns rfl (Or.inl ⟨rfl, by simp, _, rfl⟩) (hb hby d12_55) hr) (⟨rfl, rfl, e8⟩) (by decide) (by decide)
def own_cp (x0 : Int32) : Int32 := if (x0 &&& (3 : Int32)) = 0 then (((x0.toUInt32 >>> ((2 : Int32) &&& 31).toUInt32).toInt32) &&& (127 : Int32)) else if (x0 &&& (3 : Int32)) = 1 then ((128 : Int32) + (((x0.toUInt32 >>> ((2 : Int32) &&& 31).toUInt32).toInt32) % (1920 : Int32))) else if (x0 &&& (3 : Int32)) = 2 then (if ((2048 : Int32) + (((x0.toUInt32 >>> ((2 : Int32) &&& 31).toUInt32).toInt32) % (61440 : Int32))) < (55296 : Int32) then ((2048 : Int32) + (((x0.toUInt32 >>> ((2 : Int32) &&& 31).toUInt32).toInt32) % (61440 : Int32))) else (((2048 : Int32) + (((x0.toUInt32 >>> ((2 : Int32) &&& 31).toUInt32).toInt32) % (61440 : Int32))) + (2048 : Int32))) else ((65536 : Int32) + (((x0.toUInt32 >>> ((2 : Int32) &&& 31).toUInt32).toInt32) &&& (1048575 : Int32)))
def own_uc (x0 : Int32) : Int32 := if (x0 &&& (3 : Int32)) = 3 then (2 : Int32) else (1 : Int32)
theorem own_p1 {p : Int32} (h : 0 ≤ p.toInt ∧ p.toInt ≤ 127) : own_V p ∧ own_sz p = 1 ∧ (own_un p).length = 1 := by
  have a1 : (128 : Int32).toInt = 128 := rfl
  have a6 : (65536 : Int32).toInt = 65536 := rfl
  refine ⟨⟨by omega, by omega, by omega⟩, if_pos (Int32.lt_iff_toInt_lt.mpr (by omega)), ?_⟩
  rw [show own_un p = [p] from if_pos (Int32.lt_iff_toInt_lt.mpr (by omega))]; rfl
theorem own_p2 {p : Int32} (h : 128 ≤ p.toInt ∧ p.toInt ≤ 2047) : own_V p ∧ own_sz p = 2 ∧ (own_un p).length = 1 := by
  have a1 : (128 : Int32).toInt = 128 := rfl
  have a2 : (2048 : Int32).toInt = 2048 := rfl
  have a6 : (65536 : Int32).toInt = 65536 := rfl
  refine ⟨⟨by omega, by omega, by omega⟩, ?_, ?_⟩
  · unfold own_sz; rw [if_neg (fun q => absurd (Int32.lt_iff_toInt_lt.mp q) (by omega)), if_pos (Int32.lt_iff_toInt_lt.mpr (by omega))]
  · rw [show own_un p = [p] from if_pos (Int32.lt_iff_toInt_lt.mpr (by omega))]; rfl
theorem own_p3 {p : Int32} (h : (2048 ≤ p.toInt ∧ p.toInt ≤ 55295) ∨ (57344 ≤ p.toInt ∧ p.toInt ≤ 65535)) : own_V p ∧ own_sz p = 3 ∧ (own_un p).length = 1 := by
  have a1 : (128 : Int32).toInt = 128 := rfl
  have a2 : (2048 : Int32).toInt = 2048 := rfl
  have a6 : (65536 : Int32).toInt = 65536 := rfl
  refine ⟨⟨by omega, by omega, by omega⟩, ?_, ?_⟩
  · unfold own_sz; rw [if_neg (fun q => absurd (Int32.lt_iff_toInt_lt.mp q) (by omega)), if_neg (fun q => absurd (Int32.lt_iff_toInt_lt.mp q) (by omega)), if_pos (Int32.lt_iff_toInt_lt.mpr (by omega))]
  · rw [show own_un p = [p] from if_pos (Int32.lt_iff_toInt_lt.mpr (by omega))]; rfl
theorem own_p4 {p : Int32} (h : 65536 ≤ p.toInt ∧ p.toInt ≤ 1114111) : own_V p ∧ own_sz p = 4 ∧ (own_un p).length = 2 := by
  have a1 : (128 : Int32).toInt = 128 := rfl
  have a2 : (2048 : Int32).toInt = 2048 := rfl
  have a6 : (65536 : Int32).toInt = 65536 := rfl
  have q6 : ¬ p < (65536 : Int32) := fun q => absurd (Int32.lt_iff_toInt_lt.mp q) (by omega)
  refine ⟨⟨by omega, by omega, by omega⟩, ?_, ?_⟩
  · unfold own_sz; rw [if_neg (fun q => absurd (Int32.lt_iff_toInt_lt.mp q) (by omega)), if_neg (fun q => absurd (Int32.lt_iff_toInt_lt.mp q) (by omega)), if_neg q6]
  · rw [show own_un p = [(55296 : Int32) + ((p - (65536 : Int32)) >>> ((10 : Int32) &&& 31)), (56320 : Int32) + ((p - (65536 : Int32)) &&& (1023 : Int32))] from if_neg q6]; rfl
theorem own_cpS (x0 : Int32) : own_V (own_cp x0) ∧ own_sz (own_cp x0) = (x0 &&& (3 : Int32)) + 1 ∧ Int32.ofNat (own_un (own_cp x0)).length = own_uc x0 := by
  have hw := c_and x0 (3 : Int32) (by decide)
  have a3 : (3 : Int32).toInt = 3 := rfl
  rw [a3] at hw
  have hv := c_iushr x0 (2 : Int32) 2 (by decide) (by decide)
  have p2 : ((2 ^ 2 : Nat) : Int) = 4 := rfl
  rw [p2] at hv
  unfold own_cp own_uc
  generalize (x0.toUInt32 >>> ((2 : Int32) &&& 31).toUInt32).toInt32 = v at hv ⊢
  have hv0 : 0 ≤ v.toInt := by omega
  generalize (x0 &&& (3 : Int32)) = w at hw ⊢
  have hw4 : w = 0 ∨ w = 1 ∨ w = 2 ∨ w = 3 := by
    have b0 : (0 : Int32).toInt = 0 := rfl
    have b1 : (1 : Int32).toInt = 1 := rfl
    have b2 : (2 : Int32).toInt = 2 := rfl
    rcases (by omega : w.toInt = 0 ∨ w.toInt = 1 ∨ w.toInt = 2 ∨ w.toInt = 3) with q | q | q | q
    · exact Or.inl (Int32.toInt_inj.mp (by omega))
    · exact Or.inr (Or.inl (Int32.toInt_inj.mp (by omega)))
    · exact Or.inr (Or.inr (Or.inl (Int32.toInt_inj.mp (by omega))))
    · exact Or.inr (Or.inr (Or.inr (Int32.toInt_inj.mp (by omega))))
  rcases hw4 with rfl | rfl | rfl | rfl
  · rw [if_pos rfl, if_neg (by decide)]
    have h := c_and v (127 : Int32) (by decide)
    have b : (127 : Int32).toInt = 127 := rfl
    obtain ⟨q1, q2, q3⟩ := own_p1 (p := v &&& (127 : Int32)) ⟨h.1, by omega⟩
    exact ⟨q1, q2.trans (by decide), by rw [q3]; rfl⟩
  · rw [if_neg (by decide), if_pos rfl, if_neg (by decide)]
    have h := (c_irem v (1920 : Int32) 1920 rfl).1 hv0
    have f := c_iadd (128 : Int32) (v % (1920 : Int32))
    have b : (128 : Int32).toInt = 128 := rfl
    have t1 := Int32.toInt_lt ((128 : Int32) + (v % (1920 : Int32)))
    have t2 := Int32.le_toInt ((128 : Int32) + (v % (1920 : Int32)))
    rw [b, h] at f
    obtain ⟨q1, q2, q3⟩ := own_p2 (p := (128 : Int32) + (v % (1920 : Int32))) (by omega)
    exact ⟨q1, q2.trans (by decide), by rw [q3]; rfl⟩
  · rw [if_neg (by decide), if_neg (by decide), if_pos rfl, if_neg (show ¬ ((2 : Int32) = 3) by decide)]
    have h := (c_irem v (61440 : Int32) 61440 rfl).1 hv0
    have f := c_iadd (2048 : Int32) (v % (61440 : Int32))
    have b : (2048 : Int32).toInt = 2048 := rfl
    have b5 : (55296 : Int32).toInt = 55296 := rfl
    have t1 := Int32.toInt_lt ((2048 : Int32) + (v % (61440 : Int32)))
    have t2 := Int32.le_toInt ((2048 : Int32) + (v % (61440 : Int32)))
    rw [b, h] at f
    generalize (2048 : Int32) + (v % (61440 : Int32)) = t at f t1 t2 ⊢
    by_cases q : t < (55296 : Int32)
    · rw [if_pos q]
      rw [Int32.lt_iff_toInt_lt, b5] at q
      obtain ⟨q1, q2, q3⟩ := own_p3 (p := t) (by omega)
      exact ⟨q1, q2.trans (by decide), by rw [q3]; rfl⟩
    · rw [if_neg q]
      rw [Int32.lt_iff_toInt_lt, b5] at q
      have g := c_iadd t (2048 : Int32)
      have t3 := Int32.toInt_lt (t + (2048 : Int32))
      have t4 := Int32.le_toInt (t + (2048 : Int32))
      rw [b] at g
      obtain ⟨q1, q2, q3⟩ := own_p3 (p := t + (2048 : Int32)) (by omega)
      exact ⟨q1, q2.trans (by decide), by rw [q3]; rfl⟩
  · rw [if_neg (by decide), if_neg (by decide), if_neg (by decide), if_pos rfl]
    have h := c_and v (1048575 : Int32) (by decide)
    have b : (1048575 : Int32).toInt = 1048575 := rfl
    have b6 : (65536 : Int32).toInt = 65536 := rfl
    have f := c_iadd (65536 : Int32) (v &&& (1048575 : Int32))
    have t1 := Int32.toInt_lt ((65536 : Int32) + (v &&& (1048575 : Int32)))
    have t2 := Int32.le_toInt ((65536 : Int32) + (v &&& (1048575 : Int32)))
    rw [b6] at f
    obtain ⟨q1, q2, q3⟩ := own_p4 (p := (65536 : Int32) + (v &&& (1048575 : Int32))) (by omega)
    exact ⟨q1, q2.trans (by decide), by rw [q3]; rfl⟩
theorem own_pad6 {xs : List Int32} (h : xs.length ≤ 6) : ∀ i, ([(.int (xs.getD 0 0)), (.int (xs.getD 1 0)), (.int (xs.getD 2 0)), (.int (xs.getD 3 0)), (.int (xs.getD 4 0)), (.int (xs.getD 5 0))] : List Value).getD i (.int (0 : Int32)) = (xs.map Value.int).getD i (.int (0 : Int32))
  | 0 => (own_getD xs 0).symm
  | 1 => (own_getD xs 1).symm
  | 2 => (own_getD xs 2).symm
  | 3 => (own_getD xs 3).symm
  | 4 => (own_getD xs 4).symm
  | 5 => (own_getD xs 5).symm
  | i + 6 => by
    rw [own_getD]
    have e : xs.getD (i + 6) 0 = 0 := by rw [List.getD_eq_getElem?_getD, List.getElem?_eq_none (by omega)]; rfl
    rw [e]; rfl
theorem own_add2 (n : Nat) : Int32.ofNat n + (2 : Int32) = Int32.ofNat (n + 2) := by rw [Int32.ofNat_add]; rfl
theorem own_c16v {x : Int32} (h : 0 ≤ x.toInt ∧ x.toInt ≤ 65535) : x.toUInt32.toUInt16.toUInt32.toInt32 = x := own_i2c x h.1 h.2
def Q_rmSZ (Z : State) (x0 : Int32) (h0 : Heap) (n0 : Nat) : Option Value → Heap → List Loc → Prop := fun v h L => v = some (.int ((x0 &&& (3 : Int32)) + (1 : Int32))) ∧ L = [] ∧ h = h0
set_option maxRecDepth 65536 in
set_option maxHeartbeats 40000000 in
theorem rmSZ (l : Launch) (Z : State) (a0 : Array Value) (hw : ∀ d ∈ tables_1, d.before a0 Z = true) (ws : List Jvm.Cond) (x0 : Int32) (h0 : Heap) (n0 : Nat) (O : Old Z n0 h0) :
    MetFree l (⟨"com/example/lease/lease/core/InputsLeadingPinLaw", "size", "(I)I"⟩ : MethodName) (head1 (Jvm.Cond.code (⟨"com/example/lease/lease/core/InputsLeadingPinLaw", "size", "(I)I"⟩ : MethodName) method_3_code 1 (some .int) :: ws) ({ frames := 0, cells := 0, slots := 0, locals := 0 } : Room)) (fun a U => a = #[(.int x0)] ∧ Z.Warmed39 U.vm ∧ U.heap = h0) (fun _ _ _ _ _ => True) (fun _ U o U' => ∃ v L, o = .returned v ∧ (Q_rmSZ Z x0 h0 n0) v U'.heap L ∧ FrameEnd U o U' L ({ frames := 0, cells := 0, slots := 0, locals := 0 } : Room).cells ({ frames := 0, cells := 0, slots := 0, locals := 0 } : Room).slots) := by
  refine MetFree.of_bodySF (plainFor_of_name pn_7) hisR ?_
  intro p e s m args below meth c s₁ Bd hml0 hP hK
  obtain ⟨rfl, hZ, hh⟩ := hP
  have hx := Bd.exec
  have hby := Bd.bytes
  have hml : c.maxLocals = 1 := hml0
  have hown : s.vm.findClass "com/example/lease/lease/core/InputsLeadingPinLaw" = some m.cls := findClass_of_methodNamed Bd.named
  have hnm := (name_of_methodNamed Bd.named Bd.method).1
  have hlk := BodyLoose.notSynchronized Bd
  have X0 : Stand p l e ({ frames := 0, cells := 0, slots := 0, locals := 0 } : Room) s m #[(.int x0)] below meth c s₁ [] 0 0 := Stand.of_body Bd
  have e0 : s₁.heap = h0 := by rw [← hh, Bd.state]; rfl
  have N := Fr.nil n0
  obtain ⟨G, hG⟩ : ∃ G : State → JFrame → Prop, G = OwnG p e below s ({ frames := 0, cells := 0, slots := 0, locals := 0 } : Room).cells ({ frames := 0, cells := 0, slots := 0, locals := 0 } : Room).slots (Q_rmSZ Z x0 h0 n0) := ⟨_, rfl⟩
  have gb : ∀ {T T' : State} {g g' : JFrame}, (∀ t, Steps p.tables e below (T'.setTop g') t → Steps p.tables e below (T.setTop g) t) → G T' g' → G T g := by subst hG; exact fun k h => own_by k h
  have go : ∀ {T : State} {locs : List Loc} {cells slots : Nat} {g : JFrame} {v : Option Value}, Stand p l e ({ frames := 0, cells := 0, slots := 0, locals := 0 } : Room) s m #[(.int x0)] below meth c T locs cells slots → (meth.sig.returnType = none → v = none) → (∀ fs, (∀ (f : JFrame) (acts : List Action), f.method = m → f.locked = none → f.entered = [] → (doReturn e (T.setTop f) acts v).1 = T.setFrames fs) → Steps p.tables e below (T.setTop g) (T.setFrames fs)) → (Q_rmSZ Z x0 h0 n0) v T.heap locs → cells ≤ ({ frames := 0, cells := 0, slots := 0, locals := 0 } : Room).cells → slots ≤ ({ frames := 0, cells := 0, slots := 0, locals := 0 } : Room).slots → G T g := by subst hG; exact fun X h1 h2 h3 h4 h5 => own_out X hlk h1 h2 h3 h4 h5
  show OwnG p e below s ({ frames := 0, cells := 0, slots := 0, locals := 0 } : Room).cells ({ frames := 0, cells := 0, slots := 0, locals := 0 } : Room).slots (Q_rmSZ Z x0 h0 n0) s₁ (entryFrame m #[(.int x0)] 1)
  rw [← hG, ef_rmSZ m x0]
  clear hG
  show G s₁ (mkF m 0 #[.val (.int x0)] [])
  refine gb (fun _ k => XS.iloadN X0.here hx rfl (hb hby d5_0) rfl (XS.iconst X0.here hx rfl (hb hby d5_1) (XS.iand X0.here hx rfl (hb hby d5_2) rfl (XS.iconst X0.here hx rfl (hb hby d5_3) (XS.iadd X0.here hx rfl (hb hby d5_4) rfl k))))) ?_
  show G s₁ (mkF m 5 #[iv x0] [.int ((x0 &&& (3 : Int32)) + (1 : Int32))])
  exact go X0 (v := (some (.int ((x0 &&& (3 : Int32)) + (1 : Int32))))) (fun h => by rw [Bd.returns] at h; cases h) (fun fs hr => retOut X0 hx Bd.returns rfl (Or.inl ⟨rfl, by simp, _, rfl⟩) (hb hby d5_5) hr) (⟨rfl, rfl, e0⟩) (by decide) (by decide)
def Q_rmUN (Z : State) (x0 : Int32) (h0 : Heap) (n0 : Nat) : Option Value → Heap → List Loc → Prop := fun v h L => v = some (.int (own_uc x0)) ∧ L = [] ∧ h = h0
set_option maxRecDepth 65536 in
set_option maxHeartbeats 40000000 in
theorem rmUN (l : Launch) (Z : State) (a0 : Array Value) (hw : ∀ d ∈ tables_1, d.before a0 Z = true) (ws : List Jvm.Cond) (x0 : Int32) (h0 : Heap) (n0 : Nat) (O : Old Z n0 h0) :
    MetFree l (⟨"com/example/lease/lease/core/InputsLeadingPinLaw", "units", "(I)I"⟩ : MethodName) (head1 (Jvm.Cond.code (⟨"com/example/lease/lease/core/InputsLeadingPinLaw", "units", "(I)I"⟩ : MethodName) method_4_code 1 (some .int) :: ws) ({ frames := 0, cells := 0, slots := 0, locals := 0 } : Room)) (fun a U => a = #[(.int x0)] ∧ Z.Warmed39 U.vm ∧ U.heap = h0) (fun _ _ _ _ _ => True) (fun _ U o U' => ∃ v L, o = .returned v ∧ (Q_rmUN Z x0 h0 n0) v U'.heap L ∧ FrameEnd U o U' L ({ frames := 0, cells := 0, slots := 0, locals := 0 } : Room).cells ({ frames := 0, cells := 0, slots := 0, locals := 0 } : Room).slots) := by
  refine MetFree.of_bodySF (plainFor_of_name pn_7) hisR ?_
  intro p e s m args below meth c s₁ Bd hml0 hP hK
  obtain ⟨rfl, hZ, hh⟩ := hP
  have hx := Bd.exec
  have hby := Bd.bytes
  have hml : c.maxLocals = 1 := hml0
  have hown : s.vm.findClass "com/example/lease/lease/core/InputsLeadingPinLaw" = some m.cls := findClass_of_methodNamed Bd.named
  have hnm := (name_of_methodNamed Bd.named Bd.method).1
  have hlk := BodyLoose.notSynchronized Bd
  have X0 : Stand p l e ({ frames := 0, cells := 0, slots := 0, locals := 0 } : Room) s m #[(.int x0)] below meth c s₁ [] 0 0 := Stand.of_body Bd
  have e0 : s₁.heap = h0 := by rw [← hh, Bd.state]; rfl
  have N := Fr.nil n0
  obtain ⟨G, hG⟩ : ∃ G : State → JFrame → Prop, G = OwnG p e below s ({ frames := 0, cells := 0, slots := 0, locals := 0 } : Room).cells ({ frames := 0, cells := 0, slots := 0, locals := 0 } : Room).slots (Q_rmUN Z x0 h0 n0) := ⟨_, rfl⟩
  have gb : ∀ {T T' : State} {g g' : JFrame}, (∀ t, Steps p.tables e below (T'.setTop g') t → Steps p.tables e below (T.setTop g) t) → G T' g' → G T g := by subst hG; exact fun k h => own_by k h
  have go : ∀ {T : State} {locs : List Loc} {cells slots : Nat} {g : JFrame} {v : Option Value}, Stand p l e ({ frames := 0, cells := 0, slots := 0, locals := 0 } : Room) s m #[(.int x0)] below meth c T locs cells slots → (meth.sig.returnType = none → v = none) → (∀ fs, (∀ (f : JFrame) (acts : List Action), f.method = m → f.locked = none → f.entered = [] → (doReturn e (T.setTop f) acts v).1 = T.setFrames fs) → Steps p.tables e below (T.setTop g) (T.setFrames fs)) → (Q_rmUN Z x0 h0 n0) v T.heap locs → cells ≤ ({ frames := 0, cells := 0, slots := 0, locals := 0 } : Room).cells → slots ≤ ({ frames := 0, cells := 0, slots := 0, locals := 0 } : Room).slots → G T g := by subst hG; exact fun X h1 h2 h3 h4 h5 => own_out X hlk h1 h2 h3 h4 h5
  show OwnG p e below s ({ frames := 0, cells := 0, slots := 0, locals := 0 } : Room).cells ({ frames := 0, cells := 0, slots := 0, locals := 0 } : Room).slots (Q_rmUN Z x0 h0 n0) s₁ (entryFrame m #[(.int x0)] 1)
  rw [← hG, ef_rmUN m x0]
  clear hG
  show G s₁ (mkF m 0 #[.val (.int x0)] [])
  refine gb (fun _ k => XS.iloadN X0.here hx rfl (hb hby d24_0) rfl (XS.iconst X0.here hx rfl (hb hby d24_1) (XS.iand X0.here hx rfl (hb hby d24_2) rfl (XS.iconst X0.here hx rfl (hb hby d24_3) k)))) ?_
  show G s₁ (mkF m 4 #[iv x0] [.int 3, .int (x0 &&& (3 : Int32))])
  by_cases hc4 : (x0 &&& (3 : Int32)) = (3 : Int32)
  · skip
    refine gb (fun _ k => XS.icmpNo X0.here hx rfl (hb hby d24_4) rfl (teq hc4).2 (XS.iconst X0.here hx rfl (hb hby d24_7) k)) ?_
    show G s₁ (mkF m 8 #[iv x0] [.int 2])
    exact go X0 (v := (some (.int (2 : Int32)))) (fun h => by rw [Bd.returns] at h; cases h) (fun fs hr => retOut X0 hx Bd.returns rfl (Or.inl ⟨rfl, by simp, _, rfl⟩) (hb hby d24_8) hr) (⟨by unfold own_uc; rw [if_pos hc4], rfl, e0⟩) (by decide) (by decide)
  · skip
    refine gb (fun _ k => XS.icmpYes X0.here hx rfl (pc0 := 4) (pc' := 9) rfl (hb hby d24_4) rfl (feq hc4).2 (by decide) (by decide) (XS.iconst X0.here hx rfl (hb hby d24_9) k)) ?_
    show G s₁ (mkF m 10 #[iv x0] [.int 1])
    exact go X0 (v := (some (.int (1 : Int32)))) (fun h => by rw [Bd.returns] at h; cases h) (fun fs hr => retOut X0 hx Bd.returns rfl (Or.inl ⟨rfl, by simp, _, rfl⟩) (hb hby d24_10) hr) (⟨by unfold own_uc; rw [if_neg hc4], rfl, e0⟩) (by decide) (by decide)
def Q_rmPT (Z : State) (x0 : Int32) (h0 : Heap) (n0 : Nat) : Option Value → Heap → List Loc → Prop := fun v h L => v = some (.int (own_cp x0)) ∧ L = [] ∧ h = h0
set_option maxRecDepth 65536 in
set_option maxHeartbeats 40000000 in
theorem rmPT (l : Launch) (Z : State) (a0 : Array Value) (hw : ∀ d ∈ tables_1, d.before a0 Z = true) (ws : List Jvm.Cond) (x0 : Int32) (h0 : Heap) (n0 : Nat) (O : Old Z n0 h0) :
    MetFree l (⟨"com/example/lease/lease/core/InputsLeadingPinLaw", "cp", "(I)I"⟩ : MethodName) (head1 (Jvm.Cond.code (⟨"com/example/lease/lease/core/InputsLeadingPinLaw", "cp", "(I)I"⟩ : MethodName) method_5_code 4 (some .int) :: ws) ({ frames := 0, cells := 0, slots := 0, locals := 0 } : Room)) (fun a U => a = #[(.int x0)] ∧ Z.Warmed39 U.vm ∧ U.heap = h0) (fun _ _ _ _ _ => True) (fun _ U o U' => ∃ v L, o = .returned v ∧ (Q_rmPT Z x0 h0 n0) v U'.heap L ∧ FrameEnd U o U' L ({ frames := 0, cells := 0, slots := 0, locals := 0 } : Room).cells ({ frames := 0, cells := 0, slots := 0, locals := 0 } : Room).slots) := by
  refine MetFree.of_bodySF (plainFor_of_name pn_7) hisR ?_
  intro p e s m args below meth c s₁ Bd hml0 hP hK
  obtain ⟨rfl, hZ, hh⟩ := hP
  have hx := Bd.exec
  have hby := Bd.bytes
  have hml : c.maxLocals = 4 := hml0
  have hown : s.vm.findClass "com/example/lease/lease/core/InputsLeadingPinLaw" = some m.cls := findClass_of_methodNamed Bd.named
  have hnm := (name_of_methodNamed Bd.named Bd.method).1
  have hlk := BodyLoose.notSynchronized Bd
  have X0 : Stand p l e ({ frames := 0, cells := 0, slots := 0, locals := 0 } : Room) s m #[(.int x0)] below meth c s₁ [] 0 0 := Stand.of_body Bd
  have e0 : s₁.heap = h0 := by rw [← hh, Bd.state]; rfl
  have N := Fr.nil n0
  obtain ⟨G, hG⟩ : ∃ G : State → JFrame → Prop, G = OwnG p e below s ({ frames := 0, cells := 0, slots := 0, locals := 0 } : Room).cells ({ frames := 0, cells := 0, slots := 0, locals := 0 } : Room).slots (Q_rmPT Z x0 h0 n0) := ⟨_, rfl⟩
  have gb : ∀ {T T' : State} {g g' : JFrame}, (∀ t, Steps p.tables e below (T'.setTop g') t → Steps p.tables e below (T.setTop g) t) → G T' g' → G T g := by subst hG; exact fun k h => own_by k h
  have go : ∀ {T : State} {locs : List Loc} {cells slots : Nat} {g : JFrame} {v : Option Value}, Stand p l e ({ frames := 0, cells := 0, slots := 0, locals := 0 } : Room) s m #[(.int x0)] below meth c T locs cells slots → (meth.sig.returnType = none → v = none) → (∀ fs, (∀ (f : JFrame) (acts : List Action), f.method = m → f.locked = none → f.entered = [] → (doReturn e (T.setTop f) acts v).1 = T.setFrames fs) → Steps p.tables e below (T.setTop g) (T.setFrames fs)) → (Q_rmPT Z x0 h0 n0) v T.heap locs → cells ≤ ({ frames := 0, cells := 0, slots := 0, locals := 0 } : Room).cells → slots ≤ ({ frames := 0, cells := 0, slots := 0, locals := 0 } : Room).slots → G T g := by subst hG; exact fun X h1 h2 h3 h4 h5 => own_out X hlk h1 h2 h3 h4 h5
  show OwnG p e below s ({ frames := 0, cells := 0, slots := 0, locals := 0 } : Room).cells ({ frames := 0, cells := 0, slots := 0, locals := 0 } : Room).slots (Q_rmPT Z x0 h0 n0) s₁ (entryFrame m #[(.int x0)] 4)
  rw [← hG, ef_rmPT m x0]
  clear hG
  show G s₁ (mkF m 0 #[.val (.int x0), .unset, .unset, .unset] [])
  refine gb (fun _ k => XS.iloadN X0.here hx rfl (hb hby d14_0) rfl (XS.iconst X0.here hx rfl (hb hby d14_1) (XS.iand X0.here hx rfl (hb hby d14_2) rfl (XS.istoreN X0.here hx rfl (hb hby d14_3) rfl (l' := #[iv x0, iv (x0 &&& (3 : Int32)), .unset, .unset]) rfl (XS.iloadN X0.here hx rfl (hb hby d14_4) rfl (XS.iconst X0.here hx rfl (hb hby d14_5) k)))))) ?_
  show G s₁ (mkF m 6 #[iv x0, iv (x0 &&& (3 : Int32)), .unset, .unset] [.int 2, .int x0])
  refine gb (fun _ k => XS.iushr X0.here hx rfl (hb hby d14_6) rfl (XS.istoreN X0.here hx rfl (hb hby d14_7) rfl (l' := #[iv x0, iv (x0 &&& (3 : Int32)), iv ((x0.toUInt32 >>> ((2 : Int32) &&& 31).toUInt32).toInt32), .unset]) rfl (XS.iloadN X0.here hx rfl (hb hby d14_8) rfl k))) ?_
  show G s₁ (mkF m 9 #[iv x0, iv (x0 &&& (3 : Int32)), iv ((x0.toUInt32 >>> ((2 : Int32) &&& 31).toUInt32).toInt32), .unset] [.int (x0 &&& (3 : Int32))])
  by_cases hc9 : (x0 &&& (3 : Int32)) = (0 : Int32)
  · skip
    refine gb (fun _ k => XS.ifNo X0.here hx rfl (hb hby d14_9) rfl ((if0 _ _).trans (teq hc9).2) (XS.iloadN X0.here hx rfl (hb hby d14_12) rfl (XS.bipush X0.here hx rfl (hb hby d14_13) (XS.iand X0.here hx rfl (hb hby d14_15) rfl k)))) ?_
    show G s₁ (mkF m 16 #[iv x0, iv (x0 &&& (3 : Int32)), iv ((x0.toUInt32 >>> ((2 : Int32) &&& 31).toUInt32).toInt32), .unset] [.int (((x0.toUInt32 >>> ((2 : Int32) &&& 31).toUInt32).toInt32) &&& (127 : Int32))])
    exact go X0 (v := (some (.int (((x0.toUInt32 >>> ((2 : Int32) &&& 31).toUInt32).toInt32) &&& (127 : Int32))))) (fun h => by rw [Bd.returns] at h; cases h) (fun fs hr => retOut X0 hx Bd.returns rfl (Or.inl ⟨rfl, by simp, _, rfl⟩) (hb hby d14_16) hr) (⟨by unfold own_cp; rw [if_pos hc9], rfl, e0⟩) (by decide) (by decide)
  · skip
    refine gb (fun _ k => XS.ifYes X0.here hx rfl (pc0 := 9) (pc' := 17) rfl (hb hby d14_9) rfl ((if0 _ _).trans (feq hc9).2) (by decide) (by decide) (XS.iloadN X0.here hx rfl (hb hby d14_17) rfl (XS.iconst X0.here hx rfl (hb hby d14_18) k))) ?_
    show G s₁ (mkF m 19 #[iv x0, iv (x0 &&& (3 : Int32)), iv ((x0.toUInt32 >>> ((2 : Int32) &&& 31).toUInt32).toInt32), .unset] [.int 1, .int (x0 &&& (3 : Int32))])
    by_cases hc19 : (x0 &&& (3 : Int32)) = (1 : Int32)
    · skip
      refine gb (fun _ k => XS.icmpNo X0.here hx rfl (hb hby d14_19) rfl (teq hc19).2 (XS.sipush X0.here hx rfl (hb hby d14_22) (XS.iloadN X0.here hx rfl (hb hby d14_25) rfl (XS.sipush X0.here hx rfl (hb hby d14_26) (iremM X0 hx rfl (hb hby d14_29) rfl (by decide) (XS.iadd X0.here hx rfl (hb hby d14_30) rfl k)))))) ?_
      show G s₁ (mkF m 31 #[iv x0, iv (x0 &&& (3 : Int32)), iv ((x0.toUInt32 >>> ((2 : Int32) &&& 31).toUInt32).toInt32), .unset] [.int ((128 : Int32) + (((x0.toUInt32 >>> ((2 : Int32) &&& 31).toUInt32).toInt32) % (1920 : Int32)))])
      exact go X0 (v := (some (.int ((128 : Int32) + (((x0.toUInt32 >>> ((2 : Int32) &&& 31).toUInt32).toInt32) % (1920 : Int32)))))) (fun h => by rw [Bd.returns] at h; cases h) (fun fs hr => retOut X0 hx Bd.returns rfl (Or.inl ⟨rfl, by simp, _, rfl⟩) (hb hby d14_31) hr) (⟨by unfold own_cp; rw [if_neg hc9, if_pos hc19], rfl, e0⟩) (by decide) (by decide)
    · skip
      refine gb (fun _ k => XS.icmpYes X0.here hx rfl (pc0 := 19) (pc' := 32) rfl (hb hby d14_19) rfl (feq hc19).2 (by decide) (by decide) (XS.iloadN X0.here hx rfl (hb hby d14_32) rfl (XS.iconst X0.here hx rfl (hb hby d14_33) k))) ?_
      show G s₁ (mkF m 34 #[iv x0, iv (x0 &&& (3 : Int32)), iv ((x0.toUInt32 >>> ((2 : Int32) &&& 31).toUInt32).toInt32), .unset] [.int 2, .int (x0 &&& (3 : Int32))])
      by_cases hc34 : (x0 &&& (3 : Int32)) = (2 : Int32)
      · skip
        refine gb (fun _ k => XS.icmpNo X0.here hx rfl (hb hby d14_34) rfl (teq hc34).2 (XS.sipush X0.here hx rfl (hb hby d14_37) (XS.iloadN X0.here hx rfl (hb hby d14_40) rfl k))) ?_
        show G s₁ (mkF m 41 #[iv x0, iv (x0 &&& (3 : Int32)), iv ((x0.toUInt32 >>> ((2 : Int32) &&& 31).toUInt32).toInt32), .unset] [.int ((x0.toUInt32 >>> ((2 : Int32) &&& 31).toUInt32).toInt32), .int 2048])
        refine gb (X0.ldcInt hx hown (mvT hZ (ow hw 75 rfl)) (g := (mkF m 41 #[iv x0, iv (x0 &&& (3 : Int32)), iv ((x0.toUInt32 >>> ((2 : Int32) &&& 31).toUInt32).toInt32), .unset] [.int ((x0.toUInt32 >>> ((2 : Int32) &&& 31).toUInt32).toInt32), .int 2048])) rfl (hb hby d14_41)) ?_
        show G s₁ (mkF m 43 #[iv x0, iv (x0 &&& (3 : Int32)), iv ((x0.toUInt32 >>> ((2 : Int32) &&& 31).toUInt32).toInt32), .unset] [.int 61440, .int ((x0.toUInt32 >>> ((2 : Int32) &&& 31).toUInt32).toInt32), .int 2048])
        refine gb (fun _ k => iremM X0 hx rfl (hb hby d14_43) rfl (by decide) (XS.iadd X0.here hx rfl (hb hby d14_44) rfl (XS.istoreN X0.here hx rfl (hb hby d14_45) rfl (l' := #[iv x0, iv (x0 &&& (3 : Int32)), iv ((x0.toUInt32 >>> ((2 : Int32) &&& 31).toUInt32).toInt32), iv ((2048 : Int32) + (((x0.toUInt32 >>> ((2 : Int32) &&& 31).toUInt32).toInt32) % (61440 : Int32)))]) rfl (XS.iloadN X0.here hx rfl (hb hby d14_46) rfl k)))) ?_
        show G s₁ (mkF m 47 #[iv x0, iv (x0 &&& (3 : Int32)), iv ((x0.toUInt32 >>> ((2 : Int32) &&& 31).toUInt32).toInt32), iv ((2048 : Int32) + (((x0.toUInt32 >>> ((2 : Int32) &&& 31).toUInt32).toInt32) % (61440 : Int32)))] [.int ((2048 : Int32) + (((x0.toUInt32 >>> ((2 : Int32) &&& 31).toUInt32).toInt32) % (61440 : Int32)))])
        refine gb (X0.ldcInt hx hown (mvT hZ (ow hw 76 rfl)) (g := (mkF m 47 #[iv x0, iv (x0 &&& (3 : Int32)), iv ((x0.toUInt32 >>> ((2 : Int32) &&& 31).toUInt32).toInt32), iv ((2048 : Int32) + (((x0.toUInt32 >>> ((2 : Int32) &&& 31).toUInt32).toInt32) % (61440 : Int32)))] [.int ((2048 : Int32) + (((x0.toUInt32 >>> ((2 : Int32) &&& 31).toUInt32).toInt32) % (61440 : Int32)))])) rfl (hb hby d14_47)) ?_
        show G s₁ (mkF m 49 #[iv x0, iv (x0 &&& (3 : Int32)), iv ((x0.toUInt32 >>> ((2 : Int32) &&& 31).toUInt32).toInt32), iv ((2048 : Int32) + (((x0.toUInt32 >>> ((2 : Int32) &&& 31).toUInt32).toInt32) % (61440 : Int32)))] [.int 55296, .int ((2048 : Int32) + (((x0.toUInt32 >>> ((2 : Int32) &&& 31).toUInt32).toInt32) % (61440 : Int32)))])
        by_cases hc49 : ((2048 : Int32) + (((x0.toUInt32 >>> ((2 : Int32) &&& 31).toUInt32).toInt32) % (61440 : Int32))) < (55296 : Int32)
        · skip
          refine gb (fun _ k => XS.icmpYes X0.here hx rfl (pc0 := 49) (pc' := 58) rfl (hb hby d14_49) rfl (tlt hc49).1 (by decide) (by decide) (XS.iloadN X0.here hx rfl (hb hby d14_58) rfl k)) ?_
          show G s₁ (mkF m 59 #[iv x0, iv (x0 &&& (3 : Int32)), iv ((x0.toUInt32 >>> ((2 : Int32) &&& 31).toUInt32).toInt32), iv ((2048 : Int32) + (((x0.toUInt32 >>> ((2 : Int32) &&& 31).toUInt32).toInt32) % (61440 : Int32)))] [.int ((2048 : Int32) + (((x0.toUInt32 >>> ((2 : Int32) &&& 31).toUInt32).toInt32) % (61440 : Int32)))])
          exact go X0 (v := (some (.int ((2048 : Int32) + (((x0.toUInt32 >>> ((2 : Int32) &&& 31).toUInt32).toInt32) % (61440 : Int32)))))) (fun h => by rw [Bd.returns] at h; cases h) (fun fs hr => retOut X0 hx Bd.returns rfl (Or.inl ⟨rfl, by simp, _, rfl⟩) (hb hby d14_59) hr) (⟨by unfold own_cp; rw [if_neg hc9, if_neg hc19, if_pos hc34, if_pos hc49], rfl, e0⟩) (by decide) (by decide)
        · skip
          refine gb (fun _ k => XS.icmpNo X0.here hx rfl (hb hby d14_49) rfl (flt hc49).1 (XS.iloadN X0.here hx rfl (hb hby d14_52) rfl (XS.sipush X0.here hx rfl (hb hby d14_53) (XS.iadd X0.here hx rfl (hb hby d14_56) rfl (XS.istoreN X0.here hx rfl (hb hby d14_57) rfl (l' := #[iv x0, iv (x0 &&& (3 : Int32)), iv ((x0.toUInt32 >>> ((2 : Int32) &&& 31).toUInt32).toInt32), iv (((2048 : Int32) + (((x0.toUInt32 >>> ((2 : Int32) &&& 31).toUInt32).toInt32) % (61440 : Int32))) + (2048 : Int32))]) rfl (XS.iloadN X0.here hx rfl (hb hby d14_58) rfl k)))))) ?_
          show G s₁ (mkF m 59 #[iv x0, iv (x0 &&& (3 : Int32)), iv ((x0.toUInt32 >>> ((2 : Int32) &&& 31).toUInt32).toInt32), iv (((2048 : Int32) + (((x0.toUInt32 >>> ((2 : Int32) &&& 31).toUInt32).toInt32) % (61440 : Int32))) + (2048 : Int32))] [.int (((2048 : Int32) + (((x0.toUInt32 >>> ((2 : Int32) &&& 31).toUInt32).toInt32) % (61440 : Int32))) + (2048 : Int32))])
          exact go X0 (v := (some (.int (((2048 : Int32) + (((x0.toUInt32 >>> ((2 : Int32) &&& 31).toUInt32).toInt32) % (61440 : Int32))) + (2048 : Int32))))) (fun h => by rw [Bd.returns] at h; cases h) (fun fs hr => retOut X0 hx Bd.returns rfl (Or.inl ⟨rfl, by simp, _, rfl⟩) (hb hby d14_59) hr) (⟨by unfold own_cp; rw [if_neg hc9, if_neg hc19, if_pos hc34, if_neg hc49], rfl, e0⟩) (by decide) (by decide)
      · skip
        refine gb (fun _ k => XS.icmpYes X0.here hx rfl (pc0 := 34) (pc' := 60) rfl (hb hby d14_34) rfl (feq hc34).2 (by decide) (by decide) k) ?_
        show G s₁ (mkF m 60 #[iv x0, iv (x0 &&& (3 : Int32)), iv ((x0.toUInt32 >>> ((2 : Int32) &&& 31).toUInt32).toInt32), .unset] [])
        refine gb (X0.ldcInt hx hown (mvT hZ (ow hw 74 rfl)) (g := (mkF m 60 #[iv x0, iv (x0 &&& (3 : Int32)), iv ((x0.toUInt32 >>> ((2 : Int32) &&& 31).toUInt32).toInt32), .unset] [])) rfl (hb hby d14_60)) ?_
        show G s₁ (mkF m 62 #[iv x0, iv (x0 &&& (3 : Int32)), iv ((x0.toUInt32 >>> ((2 : Int32) &&& 31).toUInt32).toInt32), .unset] [.int 65536])
        refine gb (fun _ k => XS.iloadN X0.here hx rfl (hb hby d14_62) rfl k) ?_
        show G s₁ (mkF m 63 #[iv x0, iv (x0 &&& (3 : Int32)), iv ((x0.toUInt32 >>> ((2 : Int32) &&& 31).toUInt32).toInt32), .unset] [.int ((x0.toUInt32 >>> ((2 : Int32) &&& 31).toUInt32).toInt32), .int 65536])
        refine gb (X0.ldcInt hx hown (mvT hZ (ow hw 77 rfl)) (g := (mkF m 63 #[iv x0, iv (x0 &&& (3 : Int32)), iv ((x0.toUInt32 >>> ((2 : Int32) &&& 31).toUInt32).toInt32), .unset] [.int ((x0.toUInt32 >>> ((2 : Int32) &&& 31).toUInt32).toInt32), .int 65536])) rfl (hb hby d14_63)) ?_
        show G s₁ (mkF m 65 #[iv x0, iv (x0 &&& (3 : Int32)), iv ((x0.toUInt32 >>> ((2 : Int32) &&& 31).toUInt32).toInt32), .unset] [.int 1048575, .int ((x0.toUInt32 >>> ((2 : Int32) &&& 31).toUInt32).toInt32), .int 65536])
        refine gb (fun _ k => XS.iand X0.here hx rfl (hb hby d14_65) rfl (XS.iadd X0.here hx rfl (hb hby d14_66) rfl k)) ?_
        show G s₁ (mkF m 67 #[iv x0, iv (x0 &&& (3 : Int32)), iv ((x0.toUInt32 >>> ((2 : Int32) &&& 31).toUInt32).toInt32), .unset] [.int ((65536 : Int32) + (((x0.toUInt32 >>> ((2 : Int32) &&& 31).toUInt32).toInt32) &&& (1048575 : Int32)))])
        exact go X0 (v := (some (.int ((65536 : Int32) + (((x0.toUInt32 >>> ((2 : Int32) &&& 31).toUInt32).toInt32) &&& (1048575 : Int32)))))) (fun h => by rw [Bd.returns] at h; cases h) (fun fs hr => retOut X0 hx Bd.returns rfl (Or.inl ⟨rfl, by simp, _, rfl⟩) (hb hby d14_67) hr) (⟨by unfold own_cp; rw [if_neg hc9, if_neg hc19, if_neg hc34], rfl, e0⟩) (by decide) (by decide)
def Q_rmPW (Z : State) (a1 : Addr) (k1 : ClassId) (xs : List Int32) (p0 : Int32) (h0 : Heap) (n0 : Nat) : Option Value → Heap → List Loc → Prop := fun v h L => v = some (.int (Int32.ofNat (xs ++ own_un p0).length)) ∧ Fr n0 L ∧ Keep h0 h [a1] ∧ Arv Z h a1 k1 .char (6 : Int32) ((xs ++ own_un p0).map Value.int) (.int (0 : Int32))
set_option maxRecDepth 65536 in
set_option maxHeartbeats 40000000 in
theorem rmPW (l : Launch) (Z : State) (a0 : Array Value) (hw : ∀ d ∈ tables_1, d.before a0 Z = true) (ws : List Jvm.Cond) (a1 : Addr) (k1 : ClassId) (xs : List Int32) (p0 : Int32) (h0 : Heap) (n0 : Nat) (O : Old Z n0 h0) (V_a1 : Arv Z h0 a1 k1 .char (6 : Int32) (xs.map Value.int) (.int (0 : Int32))) (hl6 : xs.length + (own_un p0).length ≤ 6) (hV : own_V p0) (g_a1 : n0 ≤ a1) :
    MetFree l (⟨"com/example/lease/lease/core/InputsLeadingPinLaw", "put", "([CII)I"⟩ : MethodName) (head1 (Jvm.Cond.code (⟨"com/example/lease/lease/core/InputsLeadingPinLaw", "put", "([CII)I"⟩ : MethodName) method_6_code 4 (some .int) :: ws) ({ frames := 0, cells := 0, slots := 0, locals := 0 } : Room)) (fun a U => a = #[(.ref a1), (.int (Int32.ofNat xs.length)), (.int p0)] ∧ Z.Warmed39 U.vm ∧ U.heap = h0) (fun _ _ _ _ _ => True) (fun _ U o U' => ∃ v L, o = .returned v ∧ (Q_rmPW Z a1 k1 xs p0 h0 n0) v U'.heap L ∧ FrameEnd U o U' L ({ frames := 0, cells := 0, slots := 0, locals := 0 } : Room).cells ({ frames := 0, cells := 0, slots := 0, locals := 0 } : Room).slots) := by
  refine MetFree.of_bodySF (plainFor_of_name pn_7) hisR ?_
  intro p e s m args below meth c s₁ Bd hml0 hP hK
  obtain ⟨rfl, hZ, hh⟩ := hP
  have hx := Bd.exec
  have hby := Bd.bytes
  have hml : c.maxLocals = 4 := hml0
  have hown : s.vm.findClass "com/example/lease/lease/core/InputsLeadingPinLaw" = some m.cls := findClass_of_methodNamed Bd.named
  have hnm := (name_of_methodNamed Bd.named Bd.method).1
  have hlk := BodyLoose.notSynchronized Bd
  have X0 : Stand p l e ({ frames := 0, cells := 0, slots := 0, locals := 0 } : Room) s m #[(.ref a1), (.int (Int32.ofNat xs.length)), (.int p0)] below meth c s₁ [] 0 0 := Stand.of_body Bd
  have e0 : s₁.heap = h0 := by rw [← hh, Bd.state]; rfl
  have N := Fr.nil n0
  have K := Keep.refl h0 [a1]
  obtain ⟨G, hG⟩ : ∃ G : State → JFrame → Prop, G = OwnG p e below s ({ frames := 0, cells := 0, slots := 0, locals := 0 } : Room).cells ({ frames := 0, cells := 0, slots := 0, locals := 0 } : Room).slots (Q_rmPW Z a1 k1 xs p0 h0 n0) := ⟨_, rfl⟩
  have gb : ∀ {T T' : State} {g g' : JFrame}, (∀ t, Steps p.tables e below (T'.setTop g') t → Steps p.tables e below (T.setTop g) t) → G T' g' → G T g := by subst hG; exact fun k h => own_by k h
  have go : ∀ {T : State} {locs : List Loc} {cells slots : Nat} {g : JFrame} {v : Option Value}, Stand p l e ({ frames := 0, cells := 0, slots := 0, locals := 0 } : Room) s m #[(.ref a1), (.int (Int32.ofNat xs.length)), (.int p0)] below meth c T locs cells slots → (meth.sig.returnType = none → v = none) → (∀ fs, (∀ (f : JFrame) (acts : List Action), f.method = m → f.locked = none → f.entered = [] → (doReturn e (T.setTop f) acts v).1 = T.setFrames fs) → Steps p.tables e below (T.setTop g) (T.setFrames fs)) → (Q_rmPW Z a1 k1 xs p0 h0 n0) v T.heap locs → cells ≤ ({ frames := 0, cells := 0, slots := 0, locals := 0 } : Room).cells → slots ≤ ({ frames := 0, cells := 0, slots := 0, locals := 0 } : Room).slots → G T g := by subst hG; exact fun X h1 h2 h3 h4 h5 => own_out X hlk h1 h2 h3 h4 h5
  show OwnG p e below s ({ frames := 0, cells := 0, slots := 0, locals := 0 } : Room).cells ({ frames := 0, cells := 0, slots := 0, locals := 0 } : Room).slots (Q_rmPW Z a1 k1 xs p0 h0 n0) s₁ (entryFrame m #[(.ref a1), (.int (Int32.ofNat xs.length)), (.int p0)] 4)
  rw [← hG, ef_rmPW m a1 (Int32.ofNat xs.length) p0]
  clear hG
  show G s₁ (mkF m 0 #[.val (.ref a1), .val (.int (Int32.ofNat xs.length)), .val (.int p0), .unset] [])
  have hul := own_un_len p0
  refine gb (fun _ k => XS.iloadN X0.here hx rfl (hb hby d15_0) rfl k) ?_
  show G s₁ (mkF m 1 #[rv a1, iv (Int32.ofNat xs.length), iv p0, .unset] [.int p0])
  refine gb (X0.ldcInt hx hown (mvT hZ (ow hw 74 rfl)) (g := (mkF m 1 #[rv a1, iv (Int32.ofNat xs.length), iv p0, .unset] [.int p0])) rfl (hb hby d15_1)) ?_
  show G s₁ (mkF m 3 #[rv a1, iv (Int32.ofNat xs.length), iv p0, .unset] [.int 65536, .int p0])
  by_cases hc3 : p0 < (65536 : Int32)
  · skip
    refine gb (fun _ k => XS.icmpNo X0.here hx rfl (hb hby d15_3) rfl (tlt hc3).2.1 k) ?_
    show G s₁ (mkF m 6 #[rv a1, iv (Int32.ofNat xs.length), iv p0, .unset] [])
    have hun : own_un p0 = [p0] := if_pos hc3
    have hr1 := own_un_R hV p0 (by rw [hun]; exact List.mem_singleton.mpr rfl)
    refine gb (fun _ k => XS.aloadN X0.here hx rfl (hb hby d15_6) rfl rfl (XS.iloadN X0.here hx rfl (hb hby d15_7) rfl (XS.iloadN X0.here hx rfl (hb hby d15_8) rfl (XS.i2c X0.here hx rfl (hb hby d15_9) rfl k)))) ?_
    show G s₁ (mkF m 10 #[rv a1, iv (Int32.ofNat xs.length), iv p0, .unset] [.int (p0.toUInt32.toUInt16.toUInt32.toInt32), .int (Int32.ofNat xs.length), .ref a1])
    rw [own_c16v hr1]
    show G s₁ (mkF m 10 #[rv a1, iv (Int32.ofNat xs.length), iv p0, .unset] [.int p0, .int (Int32.ofNat xs.length), .ref a1])
    have V'1 := V_a1
    obtain ⟨cl1, Ar1, qk1, sz1, nn1, hs1, ft1⟩ := V'1
    have hin1 : ¬ ((Int32.ofNat xs.length) < 0 ∨ cl1.slots.size ≤ ((Int32.ofNat xs.length)).toNatClampNeg) := inb_of sz1 (own_in (i := xs.length) (n := 6) (by omega) (by decide))
    obtain ⟨T2, h2, X2, e2, W2, st2⟩ := stC X0 hx hZ e0 Ar1 (j := (Int32.ofNat xs.length)) hin1 (g := (mkF m 10 #[rv a1, iv (Int32.ofNat xs.length), iv p0, .unset] [.int p0, .int (Int32.ofNat xs.length), .ref a1])) rfl rfl (hb hby d15_10)
    have V_a1 : Arv Z h2 a1 k1 .char (6 : Int32) ((xs ++ [nar .char p0]).map Value.int) (.int (0 : Int32)) := own_snoc V_a1 (fits_nar_char _) W2 (own_tn (n := xs.length) (by omega))
    have O := O.wr W2 g_a1
    have K := K.wr W2 (Or.inl (List.mem_of_getElem? (i := 0) rfl))
    have N := Fr.snoc X2 N g_a1
    refine gb st2 ?_
    show G T2 (mkF m 11 #[rv a1, iv (Int32.ofNat xs.length), iv p0, .unset] [])
    refine gb (fun _ k => XS.iloadN X2.here hx rfl (hb hby d15_11) rfl (XS.iconst X2.here hx rfl (hb hby d15_12) (XS.iadd X2.here hx rfl (hb hby d15_13) rfl k))) ?_
    show G T2 (mkF m 14 #[rv a1, iv (Int32.ofNat xs.length), iv p0, .unset] [.int ((Int32.ofNat xs.length) + (1 : Int32))])
    rw [own_succ32]
    show G T2 (mkF m 14 #[rv a1, iv (Int32.ofNat xs.length), iv p0, .unset] [.int (Int32.ofNat (xs.length + 1))])
    exact go X2 (v := (some (.int (Int32.ofNat (xs.length + 1))))) (fun h => by rw [Bd.returns] at h; cases h) (fun fs hr => retOut X2 hx Bd.returns rfl (Or.inl ⟨rfl, by simp, _, rfl⟩) (hb hby d15_14) hr) (by rw [e2]; rw [own_nc16 hr1] at V_a1; exact ⟨by rw [hun, List.length_append]; rfl, N, K, by rw [hun]; exact V_a1⟩) (by decide) (by decide)
  · skip
    refine gb (fun _ k => XS.icmpYes X0.here hx rfl (pc0 := 3) (pc' := 15) rfl (hb hby d15_3) rfl (flt hc3).2.1 (by decide) (by decide) k) ?_
    show G s₁ (mkF m 15 #[rv a1, iv (Int32.ofNat xs.length), iv p0, .unset] [])
    have hun : own_un p0 = [((55296 : Int32) + ((p0 - (65536 : Int32)) >>> ((10 : Int32) &&& 31))), ((56320 : Int32) + ((p0 - (65536 : Int32)) &&& (1023 : Int32)))] := if_neg hc3
    have hul2 : (own_un p0).length = 2 := by rw [hun]; rfl
    have hr1 := own_un_R hV ((55296 : Int32) + ((p0 - (65536 : Int32)) >>> ((10 : Int32) &&& 31))) (by rw [hun]; exact List.mem_cons_self ..)
    have hr2 := own_un_R hV ((56320 : Int32) + ((p0 - (65536 : Int32)) &&& (1023 : Int32))) (by rw [hun]; exact List.mem_cons_of_mem _ (List.mem_singleton.mpr rfl))
    refine gb (fun _ k => XS.iloadN X0.here hx rfl (hb hby d15_15) rfl k) ?_
    show G s₁ (mkF m 16 #[rv a1, iv (Int32.ofNat xs.length), iv p0, .unset] [.int p0])
    refine gb (X0.ldcInt hx hown (mvT hZ (ow hw 74 rfl)) (g := (mkF m 16 #[rv a1, iv (Int32.ofNat xs.length), iv p0, .unset] [.int p0])) rfl (hb hby d15_16)) ?_
    show G s₁ (mkF m 18 #[rv a1, iv (Int32.ofNat xs.length), iv p0, .unset] [.int 65536, .int p0])
    refine gb (fun _ k => XS.isub X0.here hx rfl (hb hby d15_18) rfl (XS.istoreN X0.here hx rfl (hb hby d15_19) rfl (l' := #[rv a1, iv (Int32.ofNat xs.length), iv p0, iv (p0 - (65536 : Int32))]) rfl (XS.aloadN X0.here hx rfl (hb hby d15_20) rfl rfl (XS.iloadN X0.here hx rfl (hb hby d15_21) rfl k)))) ?_
    show G s₁ (mkF m 22 #[rv a1, iv (Int32.ofNat xs.length), iv p0, iv (p0 - (65536 : Int32))] [.int (Int32.ofNat xs.length), .ref a1])
    refine gb (X0.ldcInt hx hown (mvT hZ (ow hw 76 rfl)) (g := (mkF m 22 #[rv a1, iv (Int32.ofNat xs.length), iv p0, iv (p0 - (65536 : Int32))] [.int (Int32.ofNat xs.length), .ref a1])) rfl (hb hby d15_22)) ?_
    show G s₁ (mkF m 24 #[rv a1, iv (Int32.ofNat xs.length), iv p0, iv (p0 - (65536 : Int32))] [.int 55296, .int (Int32.ofNat xs.length), .ref a1])
    refine gb (fun _ k => XS.iloadN X0.here hx rfl (hb hby d15_24) rfl (XS.bipush X0.here hx rfl (hb hby d15_25) (XS.ishr X0.here hx rfl (hb hby d15_27) rfl (XS.iadd X0.here hx rfl (hb hby d15_28) rfl (XS.i2c X0.here hx rfl (hb hby d15_29) rfl k))))) ?_
    show G s₁ (mkF m 30 #[rv a1, iv (Int32.ofNat xs.length), iv p0, iv (p0 - (65536 : Int32))] [.int (((55296 : Int32) + ((p0 - (65536 : Int32)) >>> ((10 : Int32) &&& 31))).toUInt32.toUInt16.toUInt32.toInt32), .int (Int32.ofNat xs.length), .ref a1])
    rw [own_c16v hr1]
    show G s₁ (mkF m 30 #[rv a1, iv (Int32.ofNat xs.length), iv p0, iv (p0 - (65536 : Int32))] [.int ((55296 : Int32) + ((p0 - (65536 : Int32)) >>> ((10 : Int32) &&& 31))), .int (Int32.ofNat xs.length), .ref a1])
    have V'3 := V_a1
    obtain ⟨cl3, Ar3, qk3, sz3, nn3, hs3, ft3⟩ := V'3
    have hin3 : ¬ ((Int32.ofNat xs.length) < 0 ∨ cl3.slots.size ≤ ((Int32.ofNat xs.length)).toNatClampNeg) := inb_of sz3 (own_in (i := xs.length) (n := 6) (by omega) (by decide))
    obtain ⟨T4, h4, X4, e4, W4, st4⟩ := stC X0 hx hZ e0 Ar3 (j := (Int32.ofNat xs.length)) hin3 (g := (mkF m 30 #[rv a1, iv (Int32.ofNat xs.length), iv p0, iv (p0 - (65536 : Int32))] [.int ((55296 : Int32) + ((p0 - (65536 : Int32)) >>> ((10 : Int32) &&& 31))), .int (Int32.ofNat xs.length), .ref a1])) rfl rfl (hb hby d15_30)
    have V_a1 : Arv Z h4 a1 k1 .char (6 : Int32) ((xs ++ [nar .char ((55296 : Int32) + ((p0 - (65536 : Int32)) >>> ((10 : Int32) &&& 31)))]).map Value.int) (.int (0 : Int32)) := own_snoc V_a1 (fits_nar_char _) W4 (own_tn (n := xs.length) (by omega))
    have O := O.wr W4 g_a1
    have K := K.wr W4 (Or.inl (List.mem_of_getElem? (i := 0) rfl))
    have N := Fr.snoc X4 N g_a1
    refine gb st4 ?_
    show G T4 (mkF m 31 #[rv a1, iv (Int32.ofNat xs.length), iv p0, iv (p0 - (65536 : Int32))] [])
    refine gb (fun _ k => XS.aloadN X4.here hx rfl (hb hby d15_31) rfl rfl (XS.iloadN X4.here hx rfl (hb hby d15_32) rfl (XS.iconst X4.here hx rfl (hb hby d15_33) (XS.iadd X4.here hx rfl (hb hby d15_34) rfl k)))) ?_
    show G T4 (mkF m 35 #[rv a1, iv (Int32.ofNat xs.length), iv p0, iv (p0 - (65536 : Int32))] [.int ((Int32.ofNat xs.length) + (1 : Int32)), .ref a1])
    rw [own_succ32]
    show G T4 (mkF m 35 #[rv a1, iv (Int32.ofNat xs.length), iv p0, iv (p0 - (65536 : Int32))] [.int (Int32.ofNat (xs.length + 1)), .ref a1])
    refine gb (X4.ldcInt hx hown (mvT hZ (ow hw 78 rfl)) (g := (mkF m 35 #[rv a1, iv (Int32.ofNat xs.length), iv p0, iv (p0 - (65536 : Int32))] [.int (Int32.ofNat (xs.length + 1)), .ref a1])) rfl (hb hby d15_35)) ?_
    show G T4 (mkF m 37 #[rv a1, iv (Int32.ofNat xs.length), iv p0, iv (p0 - (65536 : Int32))] [.int 56320, .int (Int32.ofNat (xs.length + 1)), .ref a1])
    refine gb (fun _ k => XS.iloadN X4.here hx rfl (hb hby d15_37) rfl (XS.sipush X4.here hx rfl (hb hby d15_38) (XS.iand X4.here hx rfl (hb hby d15_41) rfl (XS.iadd X4.here hx rfl (hb hby d15_42) rfl (XS.i2c X4.here hx rfl (hb hby d15_43) rfl k))))) ?_
    show G T4 (mkF m 44 #[rv a1, iv (Int32.ofNat xs.length), iv p0, iv (p0 - (65536 : Int32))] [.int (((56320 : Int32) + ((p0 - (65536 : Int32)) &&& (1023 : Int32))).toUInt32.toUInt16.toUInt32.toInt32), .int (Int32.ofNat (xs.length + 1)), .ref a1])
    rw [own_c16v hr2]
    show G T4 (mkF m 44 #[rv a1, iv (Int32.ofNat xs.length), iv p0, iv (p0 - (65536 : Int32))] [.int ((56320 : Int32) + ((p0 - (65536 : Int32)) &&& (1023 : Int32))), .int (Int32.ofNat (xs.length + 1)), .ref a1])
    have V'5 := V_a1
    obtain ⟨cl5, Ar5, qk5, sz5, nn5, hs5, ft5⟩ := V'5
    have hin5 : ¬ ((Int32.ofNat (xs.length + 1)) < 0 ∨ cl5.slots.size ≤ ((Int32.ofNat (xs.length + 1))).toNatClampNeg) := inb_of sz5 (own_in (i := (xs.length + 1)) (n := 6) (by omega) (by decide))
    obtain ⟨T6, h6, X6, e6, W6, st6⟩ := stC X4 hx hZ e4 Ar5 (j := (Int32.ofNat (xs.length + 1))) hin5 (g := (mkF m 44 #[rv a1, iv (Int32.ofNat xs.length), iv p0, iv (p0 - (65536 : Int32))] [.int ((56320 : Int32) + ((p0 - (65536 : Int32)) &&& (1023 : Int32))), .int (Int32.ofNat (xs.length + 1)), .ref a1])) rfl rfl (hb hby d15_44)
    have V_a1 : Arv Z h6 a1 k1 .char (6 : Int32) (((xs ++ [nar .char ((55296 : Int32) + ((p0 - (65536 : Int32)) >>> ((10 : Int32) &&& 31)))]) ++ [nar .char ((56320 : Int32) + ((p0 - (65536 : Int32)) &&& (1023 : Int32)))]).map Value.int) (.int (0 : Int32)) := own_snoc V_a1 (fits_nar_char _) W6 (by rw [own_tn (n := xs.length + 1) (by omega), List.length_append]; rfl)
    have O := O.wr W6 g_a1
    have K := K.wr W6 (Or.inl (List.mem_of_getElem? (i := 0) rfl))
    have N := Fr.snoc X6 N g_a1
    refine gb st6 ?_
    show G T6 (mkF m 45 #[rv a1, iv (Int32.ofNat xs.length), iv p0, iv (p0 - (65536 : Int32))] [])
    refine gb (fun _ k => XS.iloadN X6.here hx rfl (hb hby d15_45) rfl (XS.iconst X6.here hx rfl (hb hby d15_46) (XS.iadd X6.here hx rfl (hb hby d15_47) rfl k))) ?_
    show G T6 (mkF m 48 #[rv a1, iv (Int32.ofNat xs.length), iv p0, iv (p0 - (65536 : Int32))] [.int ((Int32.ofNat xs.length) + (2 : Int32))])
    rw [own_add2]
    show G T6 (mkF m 48 #[rv a1, iv (Int32.ofNat xs.length), iv p0, iv (p0 - (65536 : Int32))] [.int (Int32.ofNat (xs.length + 2))])
    exact go X6 (v := (some (.int (Int32.ofNat (xs.length + 2))))) (fun h => by rw [Bd.returns] at h; cases h) (fun fs hr => retOut X6 hx Bd.returns rfl (Or.inl ⟨rfl, by simp, _, rfl⟩) (hb hby d15_48) hr) (by rw [e6]; rw [own_nc16 hr1, own_nc16 hr2, List.append_assoc] at V_a1; exact ⟨by rw [hun, List.length_append]; rfl, N, K, by rw [hun]; exact V_a1⟩) (by decide) (by decide)
def Q_rmEX0 (Z : State) (a1 : Addr) (k1 : ClassId) (xs : List Int32) (h0 : Heap) (n0 : Nat) : Option Value → Heap → List Loc → Prop := fun v h L => ∃ (b : Addr) (kb : ClassId), v = some (.ref b) ∧ Fr n0 L ∧ Keep h0 h [] ∧ n0 ≤ b ∧ h0.size ≤ b ∧ Arv Z h b kb .char (0 : Int32) ((xs.take 0).map Value.int) (.int (0 : Int32))
set_option maxRecDepth 65536 in
set_option maxHeartbeats 40000000 in
theorem rmEX0 (l : Launch) (Z : State) (a0 : Array Value) (hw : ∀ d ∈ tables_1, d.before a0 Z = true) (ws : List Jvm.Cond) (a1 : Addr) (k1 : ClassId) (xs : List Int32) (h0 : Heap) (n0 : Nat) (O : Old Z n0 h0) (V_a1 : Arv Z h0 a1 k1 .char (6 : Int32) (xs.map Value.int) (.int (0 : Int32))) (hk : 0 ≤ xs.length) (hx6 : xs.length ≤ 6) (hxr : ∀ c ∈ xs, 0 ≤ c.toInt ∧ c.toInt ≤ 65535) :
    MetFree l (⟨"com/example/lease/lease/core/InputsLeadingPinLaw", "exact", "([CI)[C"⟩ : MethodName) (head1 (Jvm.Cond.code (⟨"com/example/lease/lease/core/InputsLeadingPinLaw", "exact", "([CI)[C"⟩ : MethodName) method_7_code 3 (some (.array .char)) :: ws) ({ frames := 0, cells := 1, slots := 6, locals := 0 } : Room)) (fun a U => a = #[(.ref a1), (.int (0 : Int32))] ∧ Z.Warmed39 U.vm ∧ U.heap = h0) (fun _ _ _ _ _ => True) (fun _ U o U' => ∃ v L, o = .returned v ∧ (Q_rmEX0 Z a1 k1 xs h0 n0) v U'.heap L ∧ FrameEnd U o U' L ({ frames := 0, cells := 1, slots := 6, locals := 0 } : Room).cells ({ frames := 0, cells := 1, slots := 6, locals := 0 } : Room).slots) := by
  refine MetFree.of_bodySF (plainFor_of_name pn_7) hisR ?_
  intro p e s m args below meth c s₁ Bd hml0 hP hK
  obtain ⟨rfl, hZ, hh⟩ := hP
  have hx := Bd.exec
  have hby := Bd.bytes
  have hml : c.maxLocals = 3 := hml0
  have hown : s.vm.findClass "com/example/lease/lease/core/InputsLeadingPinLaw" = some m.cls := findClass_of_methodNamed Bd.named
  have hnm := (name_of_methodNamed Bd.named Bd.method).1
  have hlk := BodyLoose.notSynchronized Bd
  have X0 : Stand p l e ({ frames := 0, cells := 1, slots := 6, locals := 0 } : Room) s m #[(.ref a1), (.int (0 : Int32))] below meth c s₁ [] 0 0 := Stand.of_body Bd
  have e0 : s₁.heap = h0 := by rw [← hh, Bd.state]; rfl
  have N := Fr.nil n0
  have K := Keep.refl h0 []
  obtain ⟨G, hG⟩ : ∃ G : State → JFrame → Prop, G = OwnG p e below s ({ frames := 0, cells := 1, slots := 6, locals := 0 } : Room).cells ({ frames := 0, cells := 1, slots := 6, locals := 0 } : Room).slots (Q_rmEX0 Z a1 k1 xs h0 n0) := ⟨_, rfl⟩
  have gb : ∀ {T T' : State} {g g' : JFrame}, (∀ t, Steps p.tables e below (T'.setTop g') t → Steps p.tables e below (T.setTop g) t) → G T' g' → G T g := by subst hG; exact fun k h => own_by k h
  have go : ∀ {T : State} {locs : List Loc} {cells slots : Nat} {g : JFrame} {v : Option Value}, Stand p l e ({ frames := 0, cells := 1, slots := 6, locals := 0 } : Room) s m #[(.ref a1), (.int (0 : Int32))] below meth c T locs cells slots → (meth.sig.returnType = none → v = none) → (∀ fs, (∀ (f : JFrame) (acts : List Action), f.method = m → f.locked = none → f.entered = [] → (doReturn e (T.setTop f) acts v).1 = T.setFrames fs) → Steps p.tables e below (T.setTop g) (T.setFrames fs)) → (Q_rmEX0 Z a1 k1 xs h0 n0) v T.heap locs → cells ≤ ({ frames := 0, cells := 1, slots := 6, locals := 0 } : Room).cells → slots ≤ ({ frames := 0, cells := 1, slots := 6, locals := 0 } : Room).slots → G T g := by subst hG; exact fun X h1 h2 h3 h4 h5 => own_out X hlk h1 h2 h3 h4 h5
  show OwnG p e below s ({ frames := 0, cells := 1, slots := 6, locals := 0 } : Room).cells ({ frames := 0, cells := 1, slots := 6, locals := 0 } : Room).slots (Q_rmEX0 Z a1 k1 xs h0 n0) s₁ (entryFrame m #[(.ref a1), (.int (0 : Int32))] 3)
  rw [← hG, ef_rmEX0 m a1 (0 : Int32)]
  clear hG
  show G s₁ (mkF m 0 #[.val (.ref a1), .val (.int (0 : Int32)), .unset] [])
  have V_a1 : Arv Z h0 a1 k1 .char (6 : Int32) [(.int (xs.getD 0 0)), (.int (xs.getD 1 0)), (.int (xs.getD 2 0)), (.int (xs.getD 3 0)), (.int (xs.getD 4 0)), (.int (xs.getD 5 0))] (.int (0 : Int32)) := V_a1.pad (own_pad6 hx6)
  refine gb (fun _ k => XS.iloadN X0.here hx rfl (hb hby d1_0) rfl k) ?_
  show G s₁ (mkF m 1 #[rv a1, iv 0, .unset] [.int 0])
  obtain ⟨T1, h1, kA1, X1, e1, E1, A1, st1⟩ := newP X0 hx hZ (ow hw 0 rfl) e0 (g := (mkF m 1 #[rv a1, iv 0, .unset] [.int 0])) rfl (hb hby d1_1) rfl (by decide) (cap := 0) (by decide) (by decide) (by decide) (by decide)
  obtain ⟨b1, g1⟩ : ∃ z, z = h0.size := ⟨_, rfl⟩
  rw [← g1] at A1 st1
  have g_b1 : n0 ≤ b1 := Nat.le_trans (by have := O.2.1; rw [O.1] at this; exact this) (Nat.le_of_eq g1.symm)
  have sz_b1 : h0.size ≤ b1 := Nat.le_trans K.1 (Nat.le_of_eq g1.symm)
  have ne_a1_b1 : a1 ≠ b1 := Nat.ne_of_lt (Nat.lt_of_lt_of_le V_a1.lt (Nat.le_of_eq g1.symm))
  have V_a1 := V_a1.ext E1
  have O := O.ext E1
  have K := K.ext E1
  have V_b1 : Arv Z h1 b1 kA1 .char (0 : Int32) [] (.int (0 : Int32)) := (Arv.new A1 (by decide)).pad (pad_rep [] (.int (0 : Int32)) 0)
  refine gb st1 ?_
  show G T1 (mkF m 3 #[rv a1, iv 0, .unset] [.ref b1])
  refine gb (fun _ k => XS.astoreN X1.here hx rfl (hb hby d1_3) rfl rfl (l' := #[rv a1, iv 0, rv b1]) rfl (XS.iloadN X1.here hx rfl (hb hby d1_4) rfl (XS.ifYes X1.here hx rfl (pc0 := 5) (pc' := 14) rfl (hb hby d1_5) rfl ((if0 _ _).trans (flt (by decide : ¬ ((0 : Int32) < (0 : Int32)))).2.2.2) (by decide) (by decide) (XS.iloadN X1.here hx rfl (hb hby d1_14) rfl (XS.iconst X1.here hx rfl (hb hby d1_15) (XS.icmpYes X1.here hx rfl (pc0 := 16) (pc' := 25) rfl (hb hby d1_16) rfl (flt (by decide : ¬ ((1 : Int32) < (0 : Int32)))).2.2.2 (by decide) (by decide) k)))))) ?_
  show G T1 (mkF m 25 #[rv a1, iv 0, rv b1] [])
  refine gb (fun _ k => XS.iloadN X1.here hx rfl (hb hby d1_25) rfl (XS.iconst X1.here hx rfl (hb hby d1_26) (XS.icmpYes X1.here hx rfl (pc0 := 27) (pc' := 36) rfl (hb hby d1_27) rfl (flt (by decide : ¬ ((2 : Int32) < (0 : Int32)))).2.2.2 (by decide) (by decide) (XS.iloadN X1.here hx rfl (hb hby d1_36) rfl (XS.iconst X1.here hx rfl (hb hby d1_37) (XS.icmpYes X1.here hx rfl (pc0 := 38) (pc' := 47) rfl (hb hby d1_38) rfl (flt (by decide : ¬ ((3 : Int32) < (0 : Int32)))).2.2.2 (by decide) (by decide) k)))))) ?_
  show G T1 (mkF m 47 #[rv a1, iv 0, rv b1] [])
  refine gb (fun _ k => XS.iloadN X1.here hx rfl (hb hby d1_47) rfl (XS.iconst X1.here hx rfl (hb hby d1_48) (XS.icmpYes X1.here hx rfl (pc0 := 49) (pc' := 58) rfl (hb hby d1_49) rfl (flt (by decide : ¬ ((4 : Int32) < (0 : Int32)))).2.2.2 (by decide) (by decide) (XS.iloadN X1.here hx rfl (hb hby d1_58) rfl (XS.iconst X1.here hx rfl (hb hby d1_59) (XS.icmpYes X1.here hx rfl (pc0 := 60) (pc' := 69) rfl (hb hby d1_60) rfl (flt (by decide : ¬ ((5 : Int32) < (0 : Int32)))).2.2.2 (by decide) (by decide) k)))))) ?_
  show G T1 (mkF m 69 #[rv a1, iv 0, rv b1] [])
  refine gb (fun _ k => XS.aloadN X1.here hx rfl (hb hby d1_69) rfl rfl k) ?_
  show G T1 (mkF m 70 #[rv a1, iv 0, rv b1] [.ref b1])
  exact go X1 (v := (some (.ref b1))) (fun h => by rw [Bd.returns] at h; cases h) (fun fs hr => retOut X1 hx Bd.returns rfl (Or.inr (Or.inr (Or.inr (Or.inr ⟨rfl, rfl, rfl⟩)))) (hb hby d1_70) hr) (by rw [e1]; exact ⟨_, _, rfl, N, K, g_b1, sz_b1, by rw [show xs.take 0 = [] from rfl]; exact V_b1⟩) (by decide) (by decide)
def Q_rmEX1 (Z : State) (a1 : Addr) (k1 : ClassId) (xs : List Int32) (h0 : Heap) (n0 : Nat) : Option Value → Heap → List Loc → Prop := fun v h L => ∃ (b : Addr) (kb : ClassId), v = some (.ref b) ∧ Fr n0 L ∧ Keep h0 h [] ∧ n0 ≤ b ∧ h0.size ≤ b ∧ Arv Z h b kb .char (1 : Int32) ((xs.take 1).map Value.int) (.int (0 : Int32))
set_option maxRecDepth 65536 in
set_option maxHeartbeats 40000000 in
theorem rmEX1 (l : Launch) (Z : State) (a0 : Array Value) (hw : ∀ d ∈ tables_1, d.before a0 Z = true) (ws : List Jvm.Cond) (a1 : Addr) (k1 : ClassId) (xs : List Int32) (h0 : Heap) (n0 : Nat) (O : Old Z n0 h0) (V_a1 : Arv Z h0 a1 k1 .char (6 : Int32) (xs.map Value.int) (.int (0 : Int32))) (hk : 1 ≤ xs.length) (hx6 : xs.length ≤ 6) (hxr : ∀ c ∈ xs, 0 ≤ c.toInt ∧ c.toInt ≤ 65535) :
    MetFree l (⟨"com/example/lease/lease/core/InputsLeadingPinLaw", "exact", "([CI)[C"⟩ : MethodName) (head1 (Jvm.Cond.code (⟨"com/example/lease/lease/core/InputsLeadingPinLaw", "exact", "([CI)[C"⟩ : MethodName) method_7_code 3 (some (.array .char)) :: ws) ({ frames := 0, cells := 1, slots := 6, locals := 0 } : Room)) (fun a U => a = #[(.ref a1), (.int (1 : Int32))] ∧ Z.Warmed39 U.vm ∧ U.heap = h0) (fun _ _ _ _ _ => True) (fun _ U o U' => ∃ v L, o = .returned v ∧ (Q_rmEX1 Z a1 k1 xs h0 n0) v U'.heap L ∧ FrameEnd U o U' L ({ frames := 0, cells := 1, slots := 6, locals := 0 } : Room).cells ({ frames := 0, cells := 1, slots := 6, locals := 0 } : Room).slots) := by
  refine MetFree.of_bodySF (plainFor_of_name pn_7) hisR ?_
  intro p e s m args below meth c s₁ Bd hml0 hP hK
  obtain ⟨rfl, hZ, hh⟩ := hP
  have hx := Bd.exec
  have hby := Bd.bytes
  have hml : c.maxLocals = 3 := hml0
  have hown : s.vm.findClass "com/example/lease/lease/core/InputsLeadingPinLaw" = some m.cls := findClass_of_methodNamed Bd.named
  have hnm := (name_of_methodNamed Bd.named Bd.method).1
  have hlk := BodyLoose.notSynchronized Bd
  have X0 : Stand p l e ({ frames := 0, cells := 1, slots := 6, locals := 0 } : Room) s m #[(.ref a1), (.int (1 : Int32))] below meth c s₁ [] 0 0 := Stand.of_body Bd
  have e0 : s₁.heap = h0 := by rw [← hh, Bd.state]; rfl
  have N := Fr.nil n0
  have K := Keep.refl h0 []
  obtain ⟨G, hG⟩ : ∃ G : State → JFrame → Prop, G = OwnG p e below s ({ frames := 0, cells := 1, slots := 6, locals := 0 } : Room).cells ({ frames := 0, cells := 1, slots := 6, locals := 0 } : Room).slots (Q_rmEX1 Z a1 k1 xs h0 n0) := ⟨_, rfl⟩
  have gb : ∀ {T T' : State} {g g' : JFrame}, (∀ t, Steps p.tables e below (T'.setTop g') t → Steps p.tables e below (T.setTop g) t) → G T' g' → G T g := by subst hG; exact fun k h => own_by k h
  have go : ∀ {T : State} {locs : List Loc} {cells slots : Nat} {g : JFrame} {v : Option Value}, Stand p l e ({ frames := 0, cells := 1, slots := 6, locals := 0 } : Room) s m #[(.ref a1), (.int (1 : Int32))] below meth c T locs cells slots → (meth.sig.returnType = none → v = none) → (∀ fs, (∀ (f : JFrame) (acts : List Action), f.method = m → f.locked = none → f.entered = [] → (doReturn e (T.setTop f) acts v).1 = T.setFrames fs) → Steps p.tables e below (T.setTop g) (T.setFrames fs)) → (Q_rmEX1 Z a1 k1 xs h0 n0) v T.heap locs → cells ≤ ({ frames := 0, cells := 1, slots := 6, locals := 0 } : Room).cells → slots ≤ ({ frames := 0, cells := 1, slots := 6, locals := 0 } : Room).slots → G T g := by subst hG; exact fun X h1 h2 h3 h4 h5 => own_out X hlk h1 h2 h3 h4 h5
  show OwnG p e below s ({ frames := 0, cells := 1, slots := 6, locals := 0 } : Room).cells ({ frames := 0, cells := 1, slots := 6, locals := 0 } : Room).slots (Q_rmEX1 Z a1 k1 xs h0 n0) s₁ (entryFrame m #[(.ref a1), (.int (1 : Int32))] 3)
  rw [← hG, ef_rmEX1 m a1 (1 : Int32)]
  clear hG
  show G s₁ (mkF m 0 #[.val (.ref a1), .val (.int (1 : Int32)), .unset] [])
  have V_a1 : Arv Z h0 a1 k1 .char (6 : Int32) [(.int (xs.getD 0 0)), (.int (xs.getD 1 0)), (.int (xs.getD 2 0)), (.int (xs.getD 3 0)), (.int (xs.getD 4 0)), (.int (xs.getD 5 0))] (.int (0 : Int32)) := V_a1.pad (own_pad6 hx6)
  refine gb (fun _ k => XS.iloadN X0.here hx rfl (hb hby d1_0) rfl k) ?_
  show G s₁ (mkF m 1 #[rv a1, iv 1, .unset] [.int 1])
  obtain ⟨T1, h1, kA1, X1, e1, E1, A1, st1⟩ := newP X0 hx hZ (ow hw 0 rfl) e0 (g := (mkF m 1 #[rv a1, iv 1, .unset] [.int 1])) rfl (hb hby d1_1) rfl (by decide) (cap := 1) (by decide) (by decide) (by decide) (by decide)
  obtain ⟨b1, g1⟩ : ∃ z, z = h0.size := ⟨_, rfl⟩
  rw [← g1] at A1 st1
  have g_b1 : n0 ≤ b1 := Nat.le_trans (by have := O.2.1; rw [O.1] at this; exact this) (Nat.le_of_eq g1.symm)
  have sz_b1 : h0.size ≤ b1 := Nat.le_trans K.1 (Nat.le_of_eq g1.symm)
  have ne_a1_b1 : a1 ≠ b1 := Nat.ne_of_lt (Nat.lt_of_lt_of_le V_a1.lt (Nat.le_of_eq g1.symm))
  have V_a1 := V_a1.ext E1
  have O := O.ext E1
  have K := K.ext E1
  have V_b1 : Arv Z h1 b1 kA1 .char (1 : Int32) [(.int (0 : Int32))] (.int (0 : Int32)) := (Arv.new A1 (by decide)).pad (pad_rep [] (.int (0 : Int32)) 1)
  refine gb st1 ?_
  show G T1 (mkF m 3 #[rv a1, iv 1, .unset] [.ref b1])
  refine gb (fun _ k => XS.astoreN X1.here hx rfl (hb hby d1_3) rfl rfl (l' := #[rv a1, iv 1, rv b1]) rfl (XS.iloadN X1.here hx rfl (hb hby d1_4) rfl (XS.ifNo X1.here hx rfl (hb hby d1_5) rfl ((if0 _ _).trans (tlt (by decide : (0 : Int32) < (1 : Int32))).2.2.2) (XS.aloadN X1.here hx rfl (hb hby d1_8) rfl rfl (XS.iconst X1.here hx rfl (hb hby d1_9) (XS.aloadN X1.here hx rfl (hb hby d1_10) rfl rfl k)))))) ?_
  show G T1 (mkF m 11 #[rv a1, iv 1, rv b1] [.ref a1, .int 0, .ref b1])
  refine gb (fun _ k => XS.iconst X1.here hx rfl (hb hby d1_11) k) ?_
  show G T1 (mkF m 12 #[rv a1, iv 1, rv b1] [.int 0, .ref a1, .int 0, .ref b1])
  have V'2 := V_a1
  obtain ⟨cl2, Ar2, qk2, sz2, nn2, hs2, ft2⟩ := V'2
  have hin2 : ¬ ((0 : Int32) < 0 ∨ cl2.slots.size ≤ ((0 : Int32)).toNatClampNeg) := inb_of sz2 ⟨by decide, by decide⟩
  have hat2 : cl2.slots[((0 : Int32)).toNatClampNeg]? = some (.int (xs.getD 0 0)) := hs2.at hin2 rfl
  refine gb (X1.caload hx (j := (0 : Int32)) (v := (.int (xs.getD 0 0))) (by rw [e1]; exact Ar2.1) (State.isArrayOf_alike hZ.alike Ar2.2.1) Ar2.2.2 hin2 hat2 (g := (mkF m 12 #[rv a1, iv 1, rv b1] [.int 0, .ref a1, .int 0, .ref b1])) rfl rfl (hb hby d1_12)) ?_
  show G T1 (mkF m 13 #[rv a1, iv 1, rv b1] [.int (xs.getD 0 0), .int 0, .ref b1])
  have V'3 := V_b1
  obtain ⟨cl3, Ar3, qk3, sz3, nn3, hs3, ft3⟩ := V'3
  have hin3 : ¬ ((0 : Int32) < 0 ∨ cl3.slots.size ≤ ((0 : Int32)).toNatClampNeg) := inb_of sz3 ⟨by decide, by decide⟩
  obtain ⟨T4, h4, X4, e4, W4, st4⟩ := stC X1 hx hZ e1 Ar3 (j := (0 : Int32)) hin3 (g := (mkF m 13 #[rv a1, iv 1, rv b1] [.int (xs.getD 0 0), .int 0, .ref b1])) rfl rfl (hb hby d1_13)
  have V_b1 : Arv Z h4 b1 kA1 .char (1 : Int32) [(.int (nar .char (xs.getD 0 0)))] (.int (0 : Int32)) := Arv.set Ar3 qk3 sz3 nn3 hs3 ft3 (fits_nar_char _) W4 0 rfl (Nat.le_of_ble_eq_true rfl)
  rw [own_nc16 (hxr _ (own_mem (i := 0) (by omega)))] at V_b1
  have V_a1 := V_a1.other W4 ne_a1_b1
  have O := O.wr W4 g_b1
  have K := K.wr W4 (Or.inr sz_b1)
  have N := Fr.snoc X4 N g_b1
  refine gb st4 ?_
  show G T4 (mkF m 14 #[rv a1, iv 1, rv b1] [])
  refine gb (fun _ k => XS.iloadN X4.here hx rfl (hb hby d1_14) rfl (XS.iconst X4.here hx rfl (hb hby d1_15) (XS.icmpYes X4.here hx rfl (pc0 := 16) (pc' := 25) rfl (hb hby d1_16) rfl (flt (by decide : ¬ ((1 : Int32) < (1 : Int32)))).2.2.2 (by decide) (by decide) (XS.iloadN X4.here hx rfl (hb hby d1_25) rfl (XS.iconst X4.here hx rfl (hb hby d1_26) (XS.icmpYes X4.here hx rfl (pc0 := 27) (pc' := 36) rfl (hb hby d1_27) rfl (flt (by decide : ¬ ((2 : Int32) < (1 : Int32)))).2.2.2 (by decide) (by decide) k)))))) ?_
  show G T4 (mkF m 36 #[rv a1, iv 1, rv b1] [])
  refine gb (fun _ k => XS.iloadN X4.here hx rfl (hb hby d1_36) rfl (XS.iconst X4.here hx rfl (hb hby d1_37) (XS.icmpYes X4.here hx rfl (pc0 := 38) (pc' := 47) rfl (hb hby d1_38) rfl (flt (by decide : ¬ ((3 : Int32) < (1 : Int32)))).2.2.2 (by decide) (by decide) (XS.iloadN X4.here hx rfl (hb hby d1_47) rfl (XS.iconst X4.here hx rfl (hb hby d1_48) (XS.icmpYes X4.here hx rfl (pc0 := 49) (pc' := 58) rfl (hb hby d1_49) rfl (flt (by decide : ¬ ((4 : Int32) < (1 : Int32)))).2.2.2 (by decide) (by decide) k)))))) ?_
  show G T4 (mkF m 58 #[rv a1, iv 1, rv b1] [])
  refine gb (fun _ k => XS.iloadN X4.here hx rfl (hb hby d1_58) rfl (XS.iconst X4.here hx rfl (hb hby d1_59) (XS.icmpYes X4.here hx rfl (pc0 := 60) (pc' := 69) rfl (hb hby d1_60) rfl (flt (by decide : ¬ ((5 : Int32) < (1 : Int32)))).2.2.2 (by decide) (by decide) (XS.aloadN X4.here hx rfl (hb hby d1_69) rfl rfl k)))) ?_
  show G T4 (mkF m 70 #[rv a1, iv 1, rv b1] [.ref b1])
  exact go X4 (v := (some (.ref b1))) (fun h => by rw [Bd.returns] at h; cases h) (fun fs hr => retOut X4 hx Bd.returns rfl (Or.inr (Or.inr (Or.inr (Or.inr ⟨rfl, rfl, rfl⟩)))) (hb hby d1_70) hr) (by rw [e4]; exact ⟨_, _, rfl, N, K, g_b1, sz_b1, by rw [own_take1 xs 0 (by omega)]; exact V_b1⟩) (by decide) (by decide)
def Q_rmEX2 (Z : State) (a1 : Addr) (k1 : ClassId) (xs : List Int32) (h0 : Heap) (n0 : Nat) : Option Value → Heap → List Loc → Prop := fun v h L => ∃ (b : Addr) (kb : ClassId), v = some (.ref b) ∧ Fr n0 L ∧ Keep h0 h [] ∧ n0 ≤ b ∧ h0.size ≤ b ∧ Arv Z h b kb .char (2 : Int32) ((xs.take 2).map Value.int) (.int (0 : Int32))
set_option maxRecDepth 65536 in
set_option maxHeartbeats 40000000 in
theorem rmEX2 (l : Launch) (Z : State) (a0 : Array Value) (hw : ∀ d ∈ tables_1, d.before a0 Z = true) (ws : List Jvm.Cond) (a1 : Addr) (k1 : ClassId) (xs : List Int32) (h0 : Heap) (n0 : Nat) (O : Old Z n0 h0) (V_a1 : Arv Z h0 a1 k1 .char (6 : Int32) (xs.map Value.int) (.int (0 : Int32))) (hk : 2 ≤ xs.length) (hx6 : xs.length ≤ 6) (hxr : ∀ c ∈ xs, 0 ≤ c.toInt ∧ c.toInt ≤ 65535) :
    MetFree l (⟨"com/example/lease/lease/core/InputsLeadingPinLaw", "exact", "([CI)[C"⟩ : MethodName) (head1 (Jvm.Cond.code (⟨"com/example/lease/lease/core/InputsLeadingPinLaw", "exact", "([CI)[C"⟩ : MethodName) method_7_code 3 (some (.array .char)) :: ws) ({ frames := 0, cells := 1, slots := 6, locals := 0 } : Room)) (fun a U => a = #[(.ref a1), (.int (2 : Int32))] ∧ Z.Warmed39 U.vm ∧ U.heap = h0) (fun _ _ _ _ _ => True) (fun _ U o U' => ∃ v L, o = .returned v ∧ (Q_rmEX2 Z a1 k1 xs h0 n0) v U'.heap L ∧ FrameEnd U o U' L ({ frames := 0, cells := 1, slots := 6, locals := 0 } : Room).cells ({ frames := 0, cells := 1, slots := 6, locals := 0 } : Room).slots) := by
  refine MetFree.of_bodySF (plainFor_of_name pn_7) hisR ?_
  intro p e s m args below meth c s₁ Bd hml0 hP hK
  obtain ⟨rfl, hZ, hh⟩ := hP
  have hx := Bd.exec
  have hby := Bd.bytes
  have hml : c.maxLocals = 3 := hml0
  have hown : s.vm.findClass "com/example/lease/lease/core/InputsLeadingPinLaw" = some m.cls := findClass_of_methodNamed Bd.named
  have hnm := (name_of_methodNamed Bd.named Bd.method).1
  have hlk := BodyLoose.notSynchronized Bd
  have X0 : Stand p l e ({ frames := 0, cells := 1, slots := 6, locals := 0 } : Room) s m #[(.ref a1), (.int (2 : Int32))] below meth c s₁ [] 0 0 := Stand.of_body Bd
  have e0 : s₁.heap = h0 := by rw [← hh, Bd.state]; rfl
  have N := Fr.nil n0
  have K := Keep.refl h0 []
  obtain ⟨G, hG⟩ : ∃ G : State → JFrame → Prop, G = OwnG p e below s ({ frames := 0, cells := 1, slots := 6, locals := 0 } : Room).cells ({ frames := 0, cells := 1, slots := 6, locals := 0 } : Room).slots (Q_rmEX2 Z a1 k1 xs h0 n0) := ⟨_, rfl⟩
  have gb : ∀ {T T' : State} {g g' : JFrame}, (∀ t, Steps p.tables e below (T'.setTop g') t → Steps p.tables e below (T.setTop g) t) → G T' g' → G T g := by subst hG; exact fun k h => own_by k h
  have go : ∀ {T : State} {locs : List Loc} {cells slots : Nat} {g : JFrame} {v : Option Value}, Stand p l e ({ frames := 0, cells := 1, slots := 6, locals := 0 } : Room) s m #[(.ref a1), (.int (2 : Int32))] below meth c T locs cells slots → (meth.sig.returnType = none → v = none) → (∀ fs, (∀ (f : JFrame) (acts : List Action), f.method = m → f.locked = none → f.entered = [] → (doReturn e (T.setTop f) acts v).1 = T.setFrames fs) → Steps p.tables e below (T.setTop g) (T.setFrames fs)) → (Q_rmEX2 Z a1 k1 xs h0 n0) v T.heap locs → cells ≤ ({ frames := 0, cells := 1, slots := 6, locals := 0 } : Room).cells → slots ≤ ({ frames := 0, cells := 1, slots := 6, locals := 0 } : Room).slots → G T g := by subst hG; exact fun X h1 h2 h3 h4 h5 => own_out X hlk h1 h2 h3 h4 h5
  show OwnG p e below s ({ frames := 0, cells := 1, slots := 6, locals := 0 } : Room).cells ({ frames := 0, cells := 1, slots := 6, locals := 0 } : Room).slots (Q_rmEX2 Z a1 k1 xs h0 n0) s₁ (entryFrame m #[(.ref a1), (.int (2 : Int32))] 3)
  rw [← hG, ef_rmEX2 m a1 (2 : Int32)]
  clear hG
  show G s₁ (mkF m 0 #[.val (.ref a1), .val (.int (2 : Int32)), .unset] [])
  have V_a1 : Arv Z h0 a1 k1 .char (6 : Int32) [(.int (xs.getD 0 0)), (.int (xs.getD 1 0)), (.int (xs.getD 2 0)), (.int (xs.getD 3 0)), (.int (xs.getD 4 0)), (.int (xs.getD 5 0))] (.int (0 : Int32)) := V_a1.pad (own_pad6 hx6)
  refine gb (fun _ k => XS.iloadN X0.here hx rfl (hb hby d1_0) rfl k) ?_
  show G s₁ (mkF m 1 #[rv a1, iv 2, .unset] [.int 2])
  obtain ⟨T1, h1, kA1, X1, e1, E1, A1, st1⟩ := newP X0 hx hZ (ow hw 0 rfl) e0 (g := (mkF m 1 #[rv a1, iv 2, .unset] [.int 2])) rfl (hb hby d1_1) rfl (by decide) (cap := 2) (by decide) (by decide) (by decide) (by decide)
  obtain ⟨b1, g1⟩ : ∃ z, z = h0.size := ⟨_, rfl⟩
  rw [← g1] at A1 st1
  have g_b1 : n0 ≤ b1 := Nat.le_trans (by have := O.2.1; rw [O.1] at this; exact this) (Nat.le_of_eq g1.symm)
  have sz_b1 : h0.size ≤ b1 := Nat.le_trans K.1 (Nat.le_of_eq g1.symm)
  have ne_a1_b1 : a1 ≠ b1 := Nat.ne_of_lt (Nat.lt_of_lt_of_le V_a1.lt (Nat.le_of_eq g1.symm))
  have V_a1 := V_a1.ext E1
  have O := O.ext E1
  have K := K.ext E1
  have V_b1 : Arv Z h1 b1 kA1 .char (2 : Int32) [(.int (0 : Int32)), (.int (0 : Int32))] (.int (0 : Int32)) := (Arv.new A1 (by decide)).pad (pad_rep [] (.int (0 : Int32)) 2)
  refine gb st1 ?_
  show G T1 (mkF m 3 #[rv a1, iv 2, .unset] [.ref b1])
  refine gb (fun _ k => XS.astoreN X1.here hx rfl (hb hby d1_3) rfl rfl (l' := #[rv a1, iv 2, rv b1]) rfl (XS.iloadN X1.here hx rfl (hb hby d1_4) rfl (XS.ifNo X1.here hx rfl (hb hby d1_5) rfl ((if0 _ _).trans (tlt (by decide : (0 : Int32) < (2 : Int32))).2.2.2) (XS.aloadN X1.here hx rfl (hb hby d1_8) rfl rfl (XS.iconst X1.here hx rfl (hb hby d1_9) (XS.aloadN X1.here hx rfl (hb hby d1_10) rfl rfl k)))))) ?_
  show G T1 (mkF m 11 #[rv a1, iv 2, rv b1] [.ref a1, .int 0, .ref b1])
  refine gb (fun _ k => XS.iconst X1.here hx rfl (hb hby d1_11) k) ?_
  show G T1 (mkF m 12 #[rv a1, iv 2, rv b1] [.int 0, .ref a1, .int 0, .ref b1])
  have V'2 := V_a1
  obtain ⟨cl2, Ar2, qk2, sz2, nn2, hs2, ft2⟩ := V'2
  have hin2 : ¬ ((0 : Int32) < 0 ∨ cl2.slots.size ≤ ((0 : Int32)).toNatClampNeg) := inb_of sz2 ⟨by decide, by decide⟩
  have hat2 : cl2.slots[((0 : Int32)).toNatClampNeg]? = some (.int (xs.getD 0 0)) := hs2.at hin2 rfl
  refine gb (X1.caload hx (j := (0 : Int32)) (v := (.int (xs.getD 0 0))) (by rw [e1]; exact Ar2.1) (State.isArrayOf_alike hZ.alike Ar2.2.1) Ar2.2.2 hin2 hat2 (g := (mkF m 12 #[rv a1, iv 2, rv b1] [.int 0, .ref a1, .int 0, .ref b1])) rfl rfl (hb hby d1_12)) ?_
  show G T1 (mkF m 13 #[rv a1, iv 2, rv b1] [.int (xs.getD 0 0), .int 0, .ref b1])
  have V'3 := V_b1
  obtain ⟨cl3, Ar3, qk3, sz3, nn3, hs3, ft3⟩ := V'3
  have hin3 : ¬ ((0 : Int32) < 0 ∨ cl3.slots.size ≤ ((0 : Int32)).toNatClampNeg) := inb_of sz3 ⟨by decide, by decide⟩
  obtain ⟨T4, h4, X4, e4, W4, st4⟩ := stC X1 hx hZ e1 Ar3 (j := (0 : Int32)) hin3 (g := (mkF m 13 #[rv a1, iv 2, rv b1] [.int (xs.getD 0 0), .int 0, .ref b1])) rfl rfl (hb hby d1_13)
  have V_b1 : Arv Z h4 b1 kA1 .char (2 : Int32) [(.int (nar .char (xs.getD 0 0))), (.int (0 : Int32))] (.int (0 : Int32)) := Arv.set Ar3 qk3 sz3 nn3 hs3 ft3 (fits_nar_char _) W4 0 rfl (Nat.le_of_ble_eq_true rfl)
  rw [own_nc16 (hxr _ (own_mem (i := 0) (by omega)))] at V_b1
  have V_a1 := V_a1.other W4 ne_a1_b1
  have O := O.wr W4 g_b1
  have K := K.wr W4 (Or.inr sz_b1)
  have N := Fr.snoc X4 N g_b1
  refine gb st4 ?_
  show G T4 (mkF m 14 #[rv a1, iv 2, rv b1] [])
  refine gb (fun _ k => XS.iloadN X4.here hx rfl (hb hby d1_14) rfl (XS.iconst X4.here hx rfl (hb hby d1_15) (XS.icmpNo X4.here hx rfl (hb hby d1_16) rfl (tlt (by decide : (1 : Int32) < (2 : Int32))).2.2.2 (XS.aloadN X4.here hx rfl (hb hby d1_19) rfl rfl (XS.iconst X4.here hx rfl (hb hby d1_20) (XS.aloadN X4.here hx rfl (hb hby d1_21) rfl rfl k)))))) ?_
  show G T4 (mkF m 22 #[rv a1, iv 2, rv b1] [.ref a1, .int 1, .ref b1])
  refine gb (fun _ k => XS.iconst X4.here hx rfl (hb hby d1_22) k) ?_
  show G T4 (mkF m 23 #[rv a1, iv 2, rv b1] [.int 1, .ref a1, .int 1, .ref b1])
  have V'5 := V_a1
  obtain ⟨cl5, Ar5, qk5, sz5, nn5, hs5, ft5⟩ := V'5
  have hin5 : ¬ ((1 : Int32) < 0 ∨ cl5.slots.size ≤ ((1 : Int32)).toNatClampNeg) := inb_of sz5 ⟨by decide, by decide⟩
  have hat5 : cl5.slots[((1 : Int32)).toNatClampNeg]? = some (.int (xs.getD 1 0)) := hs5.at hin5 rfl
  refine gb (X4.caload hx (j := (1 : Int32)) (v := (.int (xs.getD 1 0))) (by rw [e4]; exact Ar5.1) (State.isArrayOf_alike hZ.alike Ar5.2.1) Ar5.2.2 hin5 hat5 (g := (mkF m 23 #[rv a1, iv 2, rv b1] [.int 1, .ref a1, .int 1, .ref b1])) rfl rfl (hb hby d1_23)) ?_
  show G T4 (mkF m 24 #[rv a1, iv 2, rv b1] [.int (xs.getD 1 0), .int 1, .ref b1])
  have V'6 := V_b1
  obtain ⟨cl6, Ar6, qk6, sz6, nn6, hs6, ft6⟩ := V'6
  have hin6 : ¬ ((1 : Int32) < 0 ∨ cl6.slots.size ≤ ((1 : Int32)).toNatClampNeg) := inb_of sz6 ⟨by decide, by decide⟩
  obtain ⟨T7, h7, X7, e7, W7, st7⟩ := stC X4 hx hZ e4 Ar6 (j := (1 : Int32)) hin6 (g := (mkF m 24 #[rv a1, iv 2, rv b1] [.int (xs.getD 1 0), .int 1, .ref b1])) rfl rfl (hb hby d1_24)
  have V_b1 : Arv Z h7 b1 kA1 .char (2 : Int32) [(.int (xs.getD 0 0)), (.int (nar .char (xs.getD 1 0)))] (.int (0 : Int32)) := Arv.set Ar6 qk6 sz6 nn6 hs6 ft6 (fits_nar_char _) W7 1 rfl (Nat.le_of_ble_eq_true rfl)
  rw [own_nc16 (hxr _ (own_mem (i := 1) (by omega)))] at V_b1
  have V_a1 := V_a1.other W7 ne_a1_b1
  have O := O.wr W7 g_b1
  have K := K.wr W7 (Or.inr sz_b1)
  have N := Fr.snoc X7 N g_b1
  refine gb st7 ?_
  show G T7 (mkF m 25 #[rv a1, iv 2, rv b1] [])
  refine gb (fun _ k => XS.iloadN X7.here hx rfl (hb hby d1_25) rfl (XS.iconst X7.here hx rfl (hb hby d1_26) (XS.icmpYes X7.here hx rfl (pc0 := 27) (pc' := 36) rfl (hb hby d1_27) rfl (flt (by decide : ¬ ((2 : Int32) < (2 : Int32)))).2.2.2 (by decide) (by decide) (XS.iloadN X7.here hx rfl (hb hby d1_36) rfl (XS.iconst X7.here hx rfl (hb hby d1_37) (XS.icmpYes X7.here hx rfl (pc0 := 38) (pc' := 47) rfl (hb hby d1_38) rfl (flt (by decide : ¬ ((3 : Int32) < (2 : Int32)))).2.2.2 (by decide) (by decide) k)))))) ?_
  show G T7 (mkF m 47 #[rv a1, iv 2, rv b1] [])
  refine gb (fun _ k => XS.iloadN X7.here hx rfl (hb hby d1_47) rfl (XS.iconst X7.here hx rfl (hb hby d1_48) (XS.icmpYes X7.here hx rfl (pc0 := 49) (pc' := 58) rfl (hb hby d1_49) rfl (flt (by decide : ¬ ((4 : Int32) < (2 : Int32)))).2.2.2 (by decide) (by decide) (XS.iloadN X7.here hx rfl (hb hby d1_58) rfl (XS.iconst X7.here hx rfl (hb hby d1_59) (XS.icmpYes X7.here hx rfl (pc0 := 60) (pc' := 69) rfl (hb hby d1_60) rfl (flt (by decide : ¬ ((5 : Int32) < (2 : Int32)))).2.2.2 (by decide) (by decide) k)))))) ?_
  show G T7 (mkF m 69 #[rv a1, iv 2, rv b1] [])
  refine gb (fun _ k => XS.aloadN X7.here hx rfl (hb hby d1_69) rfl rfl k) ?_
  show G T7 (mkF m 70 #[rv a1, iv 2, rv b1] [.ref b1])
  exact go X7 (v := (some (.ref b1))) (fun h => by rw [Bd.returns] at h; cases h) (fun fs hr => retOut X7 hx Bd.returns rfl (Or.inr (Or.inr (Or.inr (Or.inr ⟨rfl, rfl, rfl⟩)))) (hb hby d1_70) hr) (by rw [e7]; exact ⟨_, _, rfl, N, K, g_b1, sz_b1, by rw [own_take1 xs 1 (by omega), own_take1 xs 0 (by omega)]; exact V_b1⟩) (by decide) (by decide)
def Q_rmEX3 (Z : State) (a1 : Addr) (k1 : ClassId) (xs : List Int32) (h0 : Heap) (n0 : Nat) : Option Value → Heap → List Loc → Prop := fun v h L => ∃ (b : Addr) (kb : ClassId), v = some (.ref b) ∧ Fr n0 L ∧ Keep h0 h [] ∧ n0 ≤ b ∧ h0.size ≤ b ∧ Arv Z h b kb .char (3 : Int32) ((xs.take 3).map Value.int) (.int (0 : Int32))
set_option maxRecDepth 65536 in
set_option maxHeartbeats 40000000 in
theorem rmEX3 (l : Launch) (Z : State) (a0 : Array Value) (hw : ∀ d ∈ tables_1, d.before a0 Z = true) (ws : List Jvm.Cond) (a1 : Addr) (k1 : ClassId) (xs : List Int32) (h0 : Heap) (n0 : Nat) (O : Old Z n0 h0) (V_a1 : Arv Z h0 a1 k1 .char (6 : Int32) (xs.map Value.int) (.int (0 : Int32))) (hk : 3 ≤ xs.length) (hx6 : xs.length ≤ 6) (hxr : ∀ c ∈ xs, 0 ≤ c.toInt ∧ c.toInt ≤ 65535) :
    MetFree l (⟨"com/example/lease/lease/core/InputsLeadingPinLaw", "exact", "([CI)[C"⟩ : MethodName) (head1 (Jvm.Cond.code (⟨"com/example/lease/lease/core/InputsLeadingPinLaw", "exact", "([CI)[C"⟩ : MethodName) method_7_code 3 (some (.array .char)) :: ws) ({ frames := 0, cells := 1, slots := 6, locals := 0 } : Room)) (fun a U => a = #[(.ref a1), (.int (3 : Int32))] ∧ Z.Warmed39 U.vm ∧ U.heap = h0) (fun _ _ _ _ _ => True) (fun _ U o U' => ∃ v L, o = .returned v ∧ (Q_rmEX3 Z a1 k1 xs h0 n0) v U'.heap L ∧ FrameEnd U o U' L ({ frames := 0, cells := 1, slots := 6, locals := 0 } : Room).cells ({ frames := 0, cells := 1, slots := 6, locals := 0 } : Room).slots) := by
  refine MetFree.of_bodySF (plainFor_of_name pn_7) hisR ?_
  intro p e s m args below meth c s₁ Bd hml0 hP hK
  obtain ⟨rfl, hZ, hh⟩ := hP
  have hx := Bd.exec
  have hby := Bd.bytes
  have hml : c.maxLocals = 3 := hml0
  have hown : s.vm.findClass "com/example/lease/lease/core/InputsLeadingPinLaw" = some m.cls := findClass_of_methodNamed Bd.named
  have hnm := (name_of_methodNamed Bd.named Bd.method).1
  have hlk := BodyLoose.notSynchronized Bd
  have X0 : Stand p l e ({ frames := 0, cells := 1, slots := 6, locals := 0 } : Room) s m #[(.ref a1), (.int (3 : Int32))] below meth c s₁ [] 0 0 := Stand.of_body Bd
  have e0 : s₁.heap = h0 := by rw [← hh, Bd.state]; rfl
  have N := Fr.nil n0
  have K := Keep.refl h0 []
  obtain ⟨G, hG⟩ : ∃ G : State → JFrame → Prop, G = OwnG p e below s ({ frames := 0, cells := 1, slots := 6, locals := 0 } : Room).cells ({ frames := 0, cells := 1, slots := 6, locals := 0 } : Room).slots (Q_rmEX3 Z a1 k1 xs h0 n0) := ⟨_, rfl⟩
  have gb : ∀ {T T' : State} {g g' : JFrame}, (∀ t, Steps p.tables e below (T'.setTop g') t → Steps p.tables e below (T.setTop g) t) → G T' g' → G T g := by subst hG; exact fun k h => own_by k h
  have go : ∀ {T : State} {locs : List Loc} {cells slots : Nat} {g : JFrame} {v : Option Value}, Stand p l e ({ frames := 0, cells := 1, slots := 6, locals := 0 } : Room) s m #[(.ref a1), (.int (3 : Int32))] below meth c T locs cells slots → (meth.sig.returnType = none → v = none) → (∀ fs, (∀ (f : JFrame) (acts : List Action), f.method = m → f.locked = none → f.entered = [] → (doReturn e (T.setTop f) acts v).1 = T.setFrames fs) → Steps p.tables e below (T.setTop g) (T.setFrames fs)) → (Q_rmEX3 Z a1 k1 xs h0 n0) v T.heap locs → cells ≤ ({ frames := 0, cells := 1, slots := 6, locals := 0 } : Room).cells → slots ≤ ({ frames := 0, cells := 1, slots := 6, locals := 0 } : Room).slots → G T g := by subst hG; exact fun X h1 h2 h3 h4 h5 => own_out X hlk h1 h2 h3 h4 h5
  show OwnG p e below s ({ frames := 0, cells := 1, slots := 6, locals := 0 } : Room).cells ({ frames := 0, cells := 1, slots := 6, locals := 0 } : Room).slots (Q_rmEX3 Z a1 k1 xs h0 n0) s₁ (entryFrame m #[(.ref a1), (.int (3 : Int32))] 3)
  rw [← hG, ef_rmEX3 m a1 (3 : Int32)]
  clear hG
  show G s₁ (mkF m 0 #[.val (.ref a1), .val (.int (3 : Int32)), .unset] [])
  have V_a1 : Arv Z h0 a1 k1 .char (6 : Int32) [(.int (xs.getD 0 0)), (.int (xs.getD 1 0)), (.int (xs.getD 2 0)), (.int (xs.getD 3 0)), (.int (xs.getD 4 0)), (.int (xs.getD 5 0))] (.int (0 : Int32)) := V_a1.pad (own_pad6 hx6)
  refine gb (fun _ k => XS.iloadN X0.here hx rfl (hb hby d1_0) rfl k) ?_
  show G s₁ (mkF m 1 #[rv a1, iv 3, .unset] [.int 3])
  obtain ⟨T1, h1, kA1, X1, e1, E1, A1, st1⟩ := newP X0 hx hZ (ow hw 0 rfl) e0 (g := (mkF m 1 #[rv a1, iv 3, .unset] [.int 3])) rfl (hb hby d1_1) rfl (by decide) (cap := 3) (by decide) (by decide) (by decide) (by decide)
  obtain ⟨b1, g1⟩ : ∃ z, z = h0.size := ⟨_, rfl⟩
  rw [← g1] at A1 st1
  have g_b1 : n0 ≤ b1 := Nat.le_trans (by have := O.2.1; rw [O.1] at this; exact this) (Nat.le_of_eq g1.symm)
  have sz_b1 : h0.size ≤ b1 := Nat.le_trans K.1 (Nat.le_of_eq g1.symm)
  have ne_a1_b1 : a1 ≠ b1 := Nat.ne_of_lt (Nat.lt_of_lt_of_le V_a1.lt (Nat.le_of_eq g1.symm))
  have V_a1 := V_a1.ext E1
  have O := O.ext E1
  have K := K.ext E1
  have V_b1 : Arv Z h1 b1 kA1 .char (3 : Int32) [(.int (0 : Int32)), (.int (0 : Int32)), (.int (0 : Int32))] (.int (0 : Int32)) := (Arv.new A1 (by decide)).pad (pad_rep [] (.int (0 : Int32)) 3)
  refine gb st1 ?_
  show G T1 (mkF m 3 #[rv a1, iv 3, .unset] [.ref b1])
  refine gb (fun _ k => XS.astoreN X1.here hx rfl (hb hby d1_3) rfl rfl (l' := #[rv a1, iv 3, rv b1]) rfl (XS.iloadN X1.here hx rfl (hb hby d1_4) rfl (XS.ifNo X1.here hx rfl (hb hby d1_5) rfl ((if0 _ _).trans (tlt (by decide : (0 : Int32) < (3 : Int32))).2.2.2) (XS.aloadN X1.here hx rfl (hb hby d1_8) rfl rfl (XS.iconst X1.here hx rfl (hb hby d1_9) (XS.aloadN X1.here hx rfl (hb hby d1_10) rfl rfl k)))))) ?_
  show G T1 (mkF m 11 #[rv a1, iv 3, rv b1] [.ref a1, .int 0, .ref b1])
  refine gb (fun _ k => XS.iconst X1.here hx rfl (hb hby d1_11) k) ?_
  show G T1 (mkF m 12 #[rv a1, iv 3, rv b1] [.int 0, .ref a1, .int 0, .ref b1])
  have V'2 := V_a1
  obtain ⟨cl2, Ar2, qk2, sz2, nn2, hs2, ft2⟩ := V'2
  have hin2 : ¬ ((0 : Int32) < 0 ∨ cl2.slots.size ≤ ((0 : Int32)).toNatClampNeg) := inb_of sz2 ⟨by decide, by decide⟩
  have hat2 : cl2.slots[((0 : Int32)).toNatClampNeg]? = some (.int (xs.getD 0 0)) := hs2.at hin2 rfl
  refine gb (X1.caload hx (j := (0 : Int32)) (v := (.int (xs.getD 0 0))) (by rw [e1]; exact Ar2.1) (State.isArrayOf_alike hZ.alike Ar2.2.1) Ar2.2.2 hin2 hat2 (g := (mkF m 12 #[rv a1, iv 3, rv b1] [.int 0, .ref a1, .int 0, .ref b1])) rfl rfl (hb hby d1_12)) ?_
  show G T1 (mkF m 13 #[rv a1, iv 3, rv b1] [.int (xs.getD 0 0), .int 0, .ref b1])
  have V'3 := V_b1
  obtain ⟨cl3, Ar3, qk3, sz3, nn3, hs3, ft3⟩ := V'3
  have hin3 : ¬ ((0 : Int32) < 0 ∨ cl3.slots.size ≤ ((0 : Int32)).toNatClampNeg) := inb_of sz3 ⟨by decide, by decide⟩
  obtain ⟨T4, h4, X4, e4, W4, st4⟩ := stC X1 hx hZ e1 Ar3 (j := (0 : Int32)) hin3 (g := (mkF m 13 #[rv a1, iv 3, rv b1] [.int (xs.getD 0 0), .int 0, .ref b1])) rfl rfl (hb hby d1_13)
  have V_b1 : Arv Z h4 b1 kA1 .char (3 : Int32) [(.int (nar .char (xs.getD 0 0))), (.int (0 : Int32)), (.int (0 : Int32))] (.int (0 : Int32)) := Arv.set Ar3 qk3 sz3 nn3 hs3 ft3 (fits_nar_char _) W4 0 rfl (Nat.le_of_ble_eq_true rfl)
  rw [own_nc16 (hxr _ (own_mem (i := 0) (by omega)))] at V_b1
  have V_a1 := V_a1.other W4 ne_a1_b1
  have O := O.wr W4 g_b1
  have K := K.wr W4 (Or.inr sz_b1)
  have N := Fr.snoc X4 N g_b1
  refine gb st4 ?_
  show G T4 (mkF m 14 #[rv a1, iv 3, rv b1] [])
  refine gb (fun _ k => XS.iloadN X4.here hx rfl (hb hby d1_14) rfl (XS.iconst X4.here hx rfl (hb hby d1_15) (XS.icmpNo X4.here hx rfl (hb hby d1_16) rfl (tlt (by decide : (1 : Int32) < (3 : Int32))).2.2.2 (XS.aloadN X4.here hx rfl (hb hby d1_19) rfl rfl (XS.iconst X4.here hx rfl (hb hby d1_20) (XS.aloadN X4.here hx rfl (hb hby d1_21) rfl rfl k)))))) ?_
  show G T4 (mkF m 22 #[rv a1, iv 3, rv b1] [.ref a1, .int 1, .ref b1])
  refine gb (fun _ k => XS.iconst X4.here hx rfl (hb hby d1_22) k) ?_
  show G T4 (mkF m 23 #[rv a1, iv 3, rv b1] [.int 1, .ref a1, .int 1, .ref b1])
  have V'5 := V_a1
  obtain ⟨cl5, Ar5, qk5, sz5, nn5, hs5, ft5⟩ := V'5
  have hin5 : ¬ ((1 : Int32) < 0 ∨ cl5.slots.size ≤ ((1 : Int32)).toNatClampNeg) := inb_of sz5 ⟨by decide, by decide⟩
  have hat5 : cl5.slots[((1 : Int32)).toNatClampNeg]? = some (.int (xs.getD 1 0)) := hs5.at hin5 rfl
  refine gb (X4.caload hx (j := (1 : Int32)) (v := (.int (xs.getD 1 0))) (by rw [e4]; exact Ar5.1) (State.isArrayOf_alike hZ.alike Ar5.2.1) Ar5.2.2 hin5 hat5 (g := (mkF m 23 #[rv a1, iv 3, rv b1] [.int 1, .ref a1, .int 1, .ref b1])) rfl rfl (hb hby d1_23)) ?_
  show G T4 (mkF m 24 #[rv a1, iv 3, rv b1] [.int (xs.getD 1 0), .int 1, .ref b1])
  have V'6 := V_b1
  obtain ⟨cl6, Ar6, qk6, sz6, nn6, hs6, ft6⟩ := V'6
  have hin6 : ¬ ((1 : Int32) < 0 ∨ cl6.slots.size ≤ ((1 : Int32)).toNatClampNeg) := inb_of sz6 ⟨by decide, by decide⟩
  obtain ⟨T7, h7, X7, e7, W7, st7⟩ := stC X4 hx hZ e4 Ar6 (j := (1 : Int32)) hin6 (g := (mkF m 24 #[rv a1, iv 3, rv b1] [.int (xs.getD 1 0), .int 1, .ref b1])) rfl rfl (hb hby d1_24)
  have V_b1 : Arv Z h7 b1 kA1 .char (3 : Int32) [(.int (xs.getD 0 0)), (.int (nar .char (xs.getD 1 0))), (.int (0 : Int32))] (.int (0 : Int32)) := Arv.set Ar6 qk6 sz6 nn6 hs6 ft6 (fits_nar_char _) W7 1 rfl (Nat.le_of_ble_eq_true rfl)
  rw [own_nc16 (hxr _ (own_mem (i := 1) (by omega)))] at V_b1
  have V_a1 := V_a1.other W7 ne_a1_b1
  have O := O.wr W7 g_b1
  have K := K.wr W7 (Or.inr sz_b1)
  have N := Fr.snoc X7 N g_b1
  refine gb st7 ?_
  show G T7 (mkF m 25 #[rv a1, iv 3, rv b1] [])
  refine gb (fun _ k => XS.iloadN X7.here hx rfl (hb hby d1_25) rfl (XS.iconst X7.here hx rfl (hb hby d1_26) (XS.icmpNo X7.here hx rfl (hb hby d1_27) rfl (tlt (by decide : (2 : Int32) < (3 : Int32))).2.2.2 (XS.aloadN X7.here hx rfl (hb hby d1_30) rfl rfl (XS.iconst X7.here hx rfl (hb hby d1_31) (XS.aloadN X7.here hx rfl (hb hby d1_32) rfl rfl k)))))) ?_
  show G T7 (mkF m 33 #[rv a1, iv 3, rv b1] [.ref a1, .int 2, .ref b1])
  refine gb (fun _ k => XS.iconst X7.here hx rfl (hb hby d1_33) k) ?_
  show G T7 (mkF m 34 #[rv a1, iv 3, rv b1] [.int 2, .ref a1, .int 2, .ref b1])
  have V'8 := V_a1
  obtain ⟨cl8, Ar8, qk8, sz8, nn8, hs8, ft8⟩ := V'8
  have hin8 : ¬ ((2 : Int32) < 0 ∨ cl8.slots.size ≤ ((2 : Int32)).toNatClampNeg) := inb_of sz8 ⟨by decide, by decide⟩
  have hat8 : cl8.slots[((2 : Int32)).toNatClampNeg]? = some (.int (xs.getD 2 0)) := hs8.at hin8 rfl
  refine gb (X7.caload hx (j := (2 : Int32)) (v := (.int (xs.getD 2 0))) (by rw [e7]; exact Ar8.1) (State.isArrayOf_alike hZ.alike Ar8.2.1) Ar8.2.2 hin8 hat8 (g := (mkF m 34 #[rv a1, iv 3, rv b1] [.int 2, .ref a1, .int 2, .ref b1])) rfl rfl (hb hby d1_34)) ?_
  show G T7 (mkF m 35 #[rv a1, iv 3, rv b1] [.int (xs.getD 2 0), .int 2, .ref b1])
  have V'9 := V_b1
  obtain ⟨cl9, Ar9, qk9, sz9, nn9, hs9, ft9⟩ := V'9
  have hin9 : ¬ ((2 : Int32) < 0 ∨ cl9.slots.size ≤ ((2 : Int32)).toNatClampNeg) := inb_of sz9 ⟨by decide, by decide⟩
  obtain ⟨T10, h10, X10, e10, W10, st10⟩ := stC X7 hx hZ e7 Ar9 (j := (2 : Int32)) hin9 (g := (mkF m 35 #[rv a1, iv 3, rv b1] [.int (xs.getD 2 0), .int 2, .ref b1])) rfl rfl (hb hby d1_35)
  have V_b1 : Arv Z h10 b1 kA1 .char (3 : Int32) [(.int (xs.getD 0 0)), (.int (xs.getD 1 0)), (.int (nar .char (xs.getD 2 0)))] (.int (0 : Int32)) := Arv.set Ar9 qk9 sz9 nn9 hs9 ft9 (fits_nar_char _) W10 2 rfl (Nat.le_of_ble_eq_true rfl)
  rw [own_nc16 (hxr _ (own_mem (i := 2) (by omega)))] at V_b1
  have V_a1 := V_a1.other W10 ne_a1_b1
  have O := O.wr W10 g_b1
  have K := K.wr W10 (Or.inr sz_b1)
  have N := Fr.snoc X10 N g_b1
  refine gb st10 ?_
  show G T10 (mkF m 36 #[rv a1, iv 3, rv b1] [])
  refine gb (fun _ k => XS.iloadN X10.here hx rfl (hb hby d1_36) rfl (XS.iconst X10.here hx rfl (hb hby d1_37) (XS.icmpYes X10.here hx rfl (pc0 := 38) (pc' := 47) rfl (hb hby d1_38) rfl (flt (by decide : ¬ ((3 : Int32) < (3 : Int32)))).2.2.2 (by decide) (by decide) (XS.iloadN X10.here hx rfl (hb hby d1_47) rfl (XS.iconst X10.here hx rfl (hb hby d1_48) (XS.icmpYes X10.here hx rfl (pc0 := 49) (pc' := 58) rfl (hb hby d1_49) rfl (flt (by decide : ¬ ((4 : Int32) < (3 : Int32)))).2.2.2 (by decide) (by decide) k)))))) ?_
  show G T10 (mkF m 58 #[rv a1, iv 3, rv b1] [])
  refine gb (fun _ k => XS.iloadN X10.here hx rfl (hb hby d1_58) rfl (XS.iconst X10.here hx rfl (hb hby d1_59) (XS.icmpYes X10.here hx rfl (pc0 := 60) (pc' := 69) rfl (hb hby d1_60) rfl (flt (by decide : ¬ ((5 : Int32) < (3 : Int32)))).2.2.2 (by decide) (by decide) (XS.aloadN X10.here hx rfl (hb hby d1_69) rfl rfl k)))) ?_
  show G T10 (mkF m 70 #[rv a1, iv 3, rv b1] [.ref b1])
  exact go X10 (v := (some (.ref b1))) (fun h => by rw [Bd.returns] at h; cases h) (fun fs hr => retOut X10 hx Bd.returns rfl (Or.inr (Or.inr (Or.inr (Or.inr ⟨rfl, rfl, rfl⟩)))) (hb hby d1_70) hr) (by rw [e10]; exact ⟨_, _, rfl, N, K, g_b1, sz_b1, by rw [own_take1 xs 2 (by omega), own_take1 xs 1 (by omega), own_take1 xs 0 (by omega)]; exact V_b1⟩) (by decide) (by decide)
def Q_rmEX4 (Z : State) (a1 : Addr) (k1 : ClassId) (xs : List Int32) (h0 : Heap) (n0 : Nat) : Option Value → Heap → List Loc → Prop := fun v h L => ∃ (b : Addr) (kb : ClassId), v = some (.ref b) ∧ Fr n0 L ∧ Keep h0 h [] ∧ n0 ≤ b ∧ h0.size ≤ b ∧ Arv Z h b kb .char (4 : Int32) ((xs.take 4).map Value.int) (.int (0 : Int32))
set_option maxRecDepth 65536 in
set_option maxHeartbeats 40000000 in
theorem rmEX4 (l : Launch) (Z : State) (a0 : Array Value) (hw : ∀ d ∈ tables_1, d.before a0 Z = true) (ws : List Jvm.Cond) (a1 : Addr) (k1 : ClassId) (xs : List Int32) (h0 : Heap) (n0 : Nat) (O : Old Z n0 h0) (V_a1 : Arv Z h0 a1 k1 .char (6 : Int32) (xs.map Value.int) (.int (0 : Int32))) (hk : 4 ≤ xs.length) (hx6 : xs.length ≤ 6) (hxr : ∀ c ∈ xs, 0 ≤ c.toInt ∧ c.toInt ≤ 65535) :
    MetFree l (⟨"com/example/lease/lease/core/InputsLeadingPinLaw", "exact", "([CI)[C"⟩ : MethodName) (head1 (Jvm.Cond.code (⟨"com/example/lease/lease/core/InputsLeadingPinLaw", "exact", "([CI)[C"⟩ : MethodName) method_7_code 3 (some (.array .char)) :: ws) ({ frames := 0, cells := 1, slots := 6, locals := 0 } : Room)) (fun a U => a = #[(.ref a1), (.int (4 : Int32))] ∧ Z.Warmed39 U.vm ∧ U.heap = h0) (fun _ _ _ _ _ => True) (fun _ U o U' => ∃ v L, o = .returned v ∧ (Q_rmEX4 Z a1 k1 xs h0 n0) v U'.heap L ∧ FrameEnd U o U' L ({ frames := 0, cells := 1, slots := 6, locals := 0 } : Room).cells ({ frames := 0, cells := 1, slots := 6, locals := 0 } : Room).slots) := by
  refine MetFree.of_bodySF (plainFor_of_name pn_7) hisR ?_
  intro p e s m args below meth c s₁ Bd hml0 hP hK
  obtain ⟨rfl, hZ, hh⟩ := hP
  have hx := Bd.exec
  have hby := Bd.bytes
  have hml : c.maxLocals = 3 := hml0
  have hown : s.vm.findClass "com/example/lease/lease/core/InputsLeadingPinLaw" = some m.cls := findClass_of_methodNamed Bd.named
  have hnm := (name_of_methodNamed Bd.named Bd.method).1
  have hlk := BodyLoose.notSynchronized Bd
  have X0 : Stand p l e ({ frames := 0, cells := 1, slots := 6, locals := 0 } : Room) s m #[(.ref a1), (.int (4 : Int32))] below meth c s₁ [] 0 0 := Stand.of_body Bd
  have e0 : s₁.heap = h0 := by rw [← hh, Bd.state]; rfl
  have N := Fr.nil n0
  have K := Keep.refl h0 []
  obtain ⟨G, hG⟩ : ∃ G : State → JFrame → Prop, G = OwnG p e below s ({ frames := 0, cells := 1, slots := 6, locals := 0 } : Room).cells ({ frames := 0, cells := 1, slots := 6, locals := 0 } : Room).slots (Q_rmEX4 Z a1 k1 xs h0 n0) := ⟨_, rfl⟩
  have gb : ∀ {T T' : State} {g g' : JFrame}, (∀ t, Steps p.tables e below (T'.setTop g') t → Steps p.tables e below (T.setTop g) t) → G T' g' → G T g := by subst hG; exact fun k h => own_by k h
  have go : ∀ {T : State} {locs : List Loc} {cells slots : Nat} {g : JFrame} {v : Option Value}, Stand p l e ({ frames := 0, cells := 1, slots := 6, locals := 0 } : Room) s m #[(.ref a1), (.int (4 : Int32))] below meth c T locs cells slots → (meth.sig.returnType = none → v = none) → (∀ fs, (∀ (f : JFrame) (acts : List Action), f.method = m → f.locked = none → f.entered = [] → (doReturn e (T.setTop f) acts v).1 = T.setFrames fs) → Steps p.tables e below (T.setTop g) (T.setFrames fs)) → (Q_rmEX4 Z a1 k1 xs h0 n0) v T.heap locs → cells ≤ ({ frames := 0, cells := 1, slots := 6, locals := 0 } : Room).cells → slots ≤ ({ frames := 0, cells := 1, slots := 6, locals := 0 } : Room).slots → G T g := by subst hG; exact fun X h1 h2 h3 h4 h5 => own_out X hlk h1 h2 h3 h4 h5
  show OwnG p e below s ({ frames := 0, cells := 1, slots := 6, locals := 0 } : Room).cells ({ frames := 0, cells := 1, slots := 6, locals := 0 } : Room).slots (Q_rmEX4 Z a1 k1 xs h0 n0) s₁ (entryFrame m #[(.ref a1), (.int (4 : Int32))] 3)
  rw [← hG, ef_rmEX4 m a1 (4 : Int32)]
  clear hG
  show G s₁ (mkF m 0 #[.val (.ref a1), .val (.int (4 : Int32)), .unset] [])
  have V_a1 : Arv Z h0 a1 k1 .char (6 : Int32) [(.int (xs.getD 0 0)), (.int (xs.getD 1 0)), (.int (xs.getD 2 0)), (.int (xs.getD 3 0)), (.int (xs.getD 4 0)), (.int (xs.getD 5 0))] (.int (0 : Int32)) := V_a1.pad (own_pad6 hx6)
  refine gb (fun _ k => XS.iloadN X0.here hx rfl (hb hby d1_0) rfl k) ?_
  show G s₁ (mkF m 1 #[rv a1, iv 4, .unset] [.int 4])
  obtain ⟨T1, h1, kA1, X1, e1, E1, A1, st1⟩ := newP X0 hx hZ (ow hw 0 rfl) e0 (g := (mkF m 1 #[rv a1, iv 4, .unset] [.int 4])) rfl (hb hby d1_1) rfl (by decide) (cap := 4) (by decide) (by decide) (by decide) (by decide)
  obtain ⟨b1, g1⟩ : ∃ z, z = h0.size := ⟨_, rfl⟩
  rw [← g1] at A1 st1
  have g_b1 : n0 ≤ b1 := Nat.le_trans (by have := O.2.1; rw [O.1] at this; exact this) (Nat.le_of_eq g1.symm)
  have sz_b1 : h0.size ≤ b1 := Nat.le_trans K.1 (Nat.le_of_eq g1.symm)
  have ne_a1_b1 : a1 ≠ b1 := Nat.ne_of_lt (Nat.lt_of_lt_of_le V_a1.lt (Nat.le_of_eq g1.symm))
  have V_a1 := V_a1.ext E1
  have O := O.ext E1
  have K := K.ext E1
  have V_b1 : Arv Z h1 b1 kA1 .char (4 : Int32) [(.int (0 : Int32)), (.int (0 : Int32)), (.int (0 : Int32)), (.int (0 : Int32))] (.int (0 : Int32)) := (Arv.new A1 (by decide)).pad (pad_rep [] (.int (0 : Int32)) 4)
  refine gb st1 ?_
  show G T1 (mkF m 3 #[rv a1, iv 4, .unset] [.ref b1])
  refine gb (fun _ k => XS.astoreN X1.here hx rfl (hb hby d1_3) rfl rfl (l' := #[rv a1, iv 4, rv b1]) rfl (XS.iloadN X1.here hx rfl (hb hby d1_4) rfl (XS.ifNo X1.here hx rfl (hb hby d1_5) rfl ((if0 _ _).trans (tlt (by decide : (0 : Int32) < (4 : Int32))).2.2.2) (XS.aloadN X1.here hx rfl (hb hby d1_8) rfl rfl (XS.iconst X1.here hx rfl (hb hby d1_9) (XS.aloadN X1.here hx rfl (hb hby d1_10) rfl rfl k)))))) ?_
  show G T1 (mkF m 11 #[rv a1, iv 4, rv b1] [.ref a1, .int 0, .ref b1])
  refine gb (fun _ k => XS.iconst X1.here hx rfl (hb hby d1_11) k) ?_
  show G T1 (mkF m 12 #[rv a1, iv 4, rv b1] [.int 0, .ref a1, .int 0, .ref b1])
  have V'2 := V_a1
  obtain ⟨cl2, Ar2, qk2, sz2, nn2, hs2, ft2⟩ := V'2
  have hin2 : ¬ ((0 : Int32) < 0 ∨ cl2.slots.size ≤ ((0 : Int32)).toNatClampNeg) := inb_of sz2 ⟨by decide, by decide⟩
  have hat2 : cl2.slots[((0 : Int32)).toNatClampNeg]? = some (.int (xs.getD 0 0)) := hs2.at hin2 rfl
  refine gb (X1.caload hx (j := (0 : Int32)) (v := (.int (xs.getD 0 0))) (by rw [e1]; exact Ar2.1) (State.isArrayOf_alike hZ.alike Ar2.2.1) Ar2.2.2 hin2 hat2 (g := (mkF m 12 #[rv a1, iv 4, rv b1] [.int 0, .ref a1, .int 0, .ref b1])) rfl rfl (hb hby d1_12)) ?_
  show G T1 (mkF m 13 #[rv a1, iv 4, rv b1] [.int (xs.getD 0 0), .int 0, .ref b1])
  have V'3 := V_b1
  obtain ⟨cl3, Ar3, qk3, sz3, nn3, hs3, ft3⟩ := V'3
  have hin3 : ¬ ((0 : Int32) < 0 ∨ cl3.slots.size ≤ ((0 : Int32)).toNatClampNeg) := inb_of sz3 ⟨by decide, by decide⟩
  obtain ⟨T4, h4, X4, e4, W4, st4⟩ := stC X1 hx hZ e1 Ar3 (j := (0 : Int32)) hin3 (g := (mkF m 13 #[rv a1, iv 4, rv b1] [.int (xs.getD 0 0), .int 0, .ref b1])) rfl rfl (hb hby d1_13)
  have V_b1 : Arv Z h4 b1 kA1 .char (4 : Int32) [(.int (nar .char (xs.getD 0 0))), (.int (0 : Int32)), (.int (0 : Int32)), (.int (0 : Int32))] (.int (0 : Int32)) := Arv.set Ar3 qk3 sz3 nn3 hs3 ft3 (fits_nar_char _) W4 0 rfl (Nat.le_of_ble_eq_true rfl)
  rw [own_nc16 (hxr _ (own_mem (i := 0) (by omega)))] at V_b1
  have V_a1 := V_a1.other W4 ne_a1_b1
  have O := O.wr W4 g_b1
  have K := K.wr W4 (Or.inr sz_b1)
  have N := Fr.snoc X4 N g_b1
  refine gb st4 ?_
  show G T4 (mkF m 14 #[rv a1, iv 4, rv b1] [])
  refine gb (fun _ k => XS.iloadN X4.here hx rfl (hb hby d1_14) rfl (XS.iconst X4.here hx rfl (hb hby d1_15) (XS.icmpNo X4.here hx rfl (hb hby d1_16) rfl (tlt (by decide : (1 : Int32) < (4 : Int32))).2.2.2 (XS.aloadN X4.here hx rfl (hb hby d1_19) rfl rfl (XS.iconst X4.here hx rfl (hb hby d1_20) (XS.aloadN X4.here hx rfl (hb hby d1_21) rfl rfl k)))))) ?_
  show G T4 (mkF m 22 #[rv a1, iv 4, rv b1] [.ref a1, .int 1, .ref b1])
  refine gb (fun _ k => XS.iconst X4.here hx rfl (hb hby d1_22) k) ?_
  show G T4 (mkF m 23 #[rv a1, iv 4, rv b1] [.int 1, .ref a1, .int 1, .ref b1])
  have V'5 := V_a1
  obtain ⟨cl5, Ar5, qk5, sz5, nn5, hs5, ft5⟩ := V'5
  have hin5 : ¬ ((1 : Int32) < 0 ∨ cl5.slots.size ≤ ((1 : Int32)).toNatClampNeg) := inb_of sz5 ⟨by decide, by decide⟩
  have hat5 : cl5.slots[((1 : Int32)).toNatClampNeg]? = some (.int (xs.getD 1 0)) := hs5.at hin5 rfl
  refine gb (X4.caload hx (j := (1 : Int32)) (v := (.int (xs.getD 1 0))) (by rw [e4]; exact Ar5.1) (State.isArrayOf_alike hZ.alike Ar5.2.1) Ar5.2.2 hin5 hat5 (g := (mkF m 23 #[rv a1, iv 4, rv b1] [.int 1, .ref a1, .int 1, .ref b1])) rfl rfl (hb hby d1_23)) ?_
  show G T4 (mkF m 24 #[rv a1, iv 4, rv b1] [.int (xs.getD 1 0), .int 1, .ref b1])
  have V'6 := V_b1
  obtain ⟨cl6, Ar6, qk6, sz6, nn6, hs6, ft6⟩ := V'6
  have hin6 : ¬ ((1 : Int32) < 0 ∨ cl6.slots.size ≤ ((1 : Int32)).toNatClampNeg) := inb_of sz6 ⟨by decide, by decide⟩
  obtain ⟨T7, h7, X7, e7, W7, st7⟩ := stC X4 hx hZ e4 Ar6 (j := (1 : Int32)) hin6 (g := (mkF m 24 #[rv a1, iv 4, rv b1] [.int (xs.getD 1 0), .int 1, .ref b1])) rfl rfl (hb hby d1_24)
  have V_b1 : Arv Z h7 b1 kA1 .char (4 : Int32) [(.int (xs.getD 0 0)), (.int (nar .char (xs.getD 1 0))), (.int (0 : Int32)), (.int (0 : Int32))] (.int (0 : Int32)) := Arv.set Ar6 qk6 sz6 nn6 hs6 ft6 (fits_nar_char _) W7 1 rfl (Nat.le_of_ble_eq_true rfl)
  rw [own_nc16 (hxr _ (own_mem (i := 1) (by omega)))] at V_b1
  have V_a1 := V_a1.other W7 ne_a1_b1
  have O := O.wr W7 g_b1
  have K := K.wr W7 (Or.inr sz_b1)
  have N := Fr.snoc X7 N g_b1
  refine gb st7 ?_
  show G T7 (mkF m 25 #[rv a1, iv 4, rv b1] [])
  refine gb (fun _ k => XS.iloadN X7.here hx rfl (hb hby d1_25) rfl (XS.iconst X7.here hx rfl (hb hby d1_26) (XS.icmpNo X7.here hx rfl (hb hby d1_27) rfl (tlt (by decide : (2 : Int32) < (4 : Int32))).2.2.2 (XS.aloadN X7.here hx rfl (hb hby d1_30) rfl rfl (XS.iconst X7.here hx rfl (hb hby d1_31) (XS.aloadN X7.here hx rfl (hb hby d1_32) rfl rfl k)))))) ?_
  show G T7 (mkF m 33 #[rv a1, iv 4, rv b1] [.ref a1, .int 2, .ref b1])
  refine gb (fun _ k => XS.iconst X7.here hx rfl (hb hby d1_33) k) ?_
  show G T7 (mkF m 34 #[rv a1, iv 4, rv b1] [.int 2, .ref a1, .int 2, .ref b1])
  have V'8 := V_a1
  obtain ⟨cl8, Ar8, qk8, sz8, nn8, hs8, ft8⟩ := V'8
  have hin8 : ¬ ((2 : Int32) < 0 ∨ cl8.slots.size ≤ ((2 : Int32)).toNatClampNeg) := inb_of sz8 ⟨by decide, by decide⟩
  have hat8 : cl8.slots[((2 : Int32)).toNatClampNeg]? = some (.int (xs.getD 2 0)) := hs8.at hin8 rfl
  refine gb (X7.caload hx (j := (2 : Int32)) (v := (.int (xs.getD 2 0))) (by rw [e7]; exact Ar8.1) (State.isArrayOf_alike hZ.alike Ar8.2.1) Ar8.2.2 hin8 hat8 (g := (mkF m 34 #[rv a1, iv 4, rv b1] [.int 2, .ref a1, .int 2, .ref b1])) rfl rfl (hb hby d1_34)) ?_
  show G T7 (mkF m 35 #[rv a1, iv 4, rv b1] [.int (xs.getD 2 0), .int 2, .ref b1])
  have V'9 := V_b1
  obtain ⟨cl9, Ar9, qk9, sz9, nn9, hs9, ft9⟩ := V'9
  have hin9 : ¬ ((2 : Int32) < 0 ∨ cl9.slots.size ≤ ((2 : Int32)).toNatClampNeg) := inb_of sz9 ⟨by decide, by decide⟩
  obtain ⟨T10, h10, X10, e10, W10, st10⟩ := stC X7 hx hZ e7 Ar9 (j := (2 : Int32)) hin9 (g := (mkF m 35 #[rv a1, iv 4, rv b1] [.int (xs.getD 2 0), .int 2, .ref b1])) rfl rfl (hb hby d1_35)
  have V_b1 : Arv Z h10 b1 kA1 .char (4 : Int32) [(.int (xs.getD 0 0)), (.int (xs.getD 1 0)), (.int (nar .char (xs.getD 2 0))), (.int (0 : Int32))] (.int (0 : Int32)) := Arv.set Ar9 qk9 sz9 nn9 hs9 ft9 (fits_nar_char _) W10 2 rfl (Nat.le_of_ble_eq_true rfl)
  rw [own_nc16 (hxr _ (own_mem (i := 2) (by omega)))] at V_b1
  have V_a1 := V_a1.other W10 ne_a1_b1
  have O := O.wr W10 g_b1
  have K := K.wr W10 (Or.inr sz_b1)
  have N := Fr.snoc X10 N g_b1
  refine gb st10 ?_
  show G T10 (mkF m 36 #[rv a1, iv 4, rv b1] [])
  refine gb (fun _ k => XS.iloadN X10.here hx rfl (hb hby d1_36) rfl (XS.iconst X10.here hx rfl (hb hby d1_37) (XS.icmpNo X10.here hx rfl (hb hby d1_38) rfl (tlt (by decide : (3 : Int32) < (4 : Int32))).2.2.2 (XS.aloadN X10.here hx rfl (hb hby d1_41) rfl rfl (XS.iconst X10.here hx rfl (hb hby d1_42) (XS.aloadN X10.here hx rfl (hb hby d1_43) rfl rfl k)))))) ?_
  show G T10 (mkF m 44 #[rv a1, iv 4, rv b1] [.ref a1, .int 3, .ref b1])
  refine gb (fun _ k => XS.iconst X10.here hx rfl (hb hby d1_44) k) ?_
  show G T10 (mkF m 45 #[rv a1, iv 4, rv b1] [.int 3, .ref a1, .int 3, .ref b1])
  have V'11 := V_a1
  obtain ⟨cl11, Ar11, qk11, sz11, nn11, hs11, ft11⟩ := V'11
  have hin11 : ¬ ((3 : Int32) < 0 ∨ cl11.slots.size ≤ ((3 : Int32)).toNatClampNeg) := inb_of sz11 ⟨by decide, by decide⟩
  have hat11 : cl11.slots[((3 : Int32)).toNatClampNeg]? = some (.int (xs.getD 3 0)) := hs11.at hin11 rfl
  refine gb (X10.caload hx (j := (3 : Int32)) (v := (.int (xs.getD 3 0))) (by rw [e10]; exact Ar11.1) (State.isArrayOf_alike hZ.alike Ar11.2.1) Ar11.2.2 hin11 hat11 (g := (mkF m 45 #[rv a1, iv 4, rv b1] [.int 3, .ref a1, .int 3, .ref b1])) rfl rfl (hb hby d1_45)) ?_
  show G T10 (mkF m 46 #[rv a1, iv 4, rv b1] [.int (xs.getD 3 0), .int 3, .ref b1])
  have V'12 := V_b1
  obtain ⟨cl12, Ar12, qk12, sz12, nn12, hs12, ft12⟩ := V'12
  have hin12 : ¬ ((3 : Int32) < 0 ∨ cl12.slots.size ≤ ((3 : Int32)).toNatClampNeg) := inb_of sz12 ⟨by decide, by decide⟩
  obtain ⟨T13, h13, X13, e13, W13, st13⟩ := stC X10 hx hZ e10 Ar12 (j := (3 : Int32)) hin12 (g := (mkF m 46 #[rv a1, iv 4, rv b1] [.int (xs.getD 3 0), .int 3, .ref b1])) rfl rfl (hb hby d1_46)
  have V_b1 : Arv Z h13 b1 kA1 .char (4 : Int32) [(.int (xs.getD 0 0)), (.int (xs.getD 1 0)), (.int (xs.getD 2 0)), (.int (nar .char (xs.getD 3 0)))] (.int (0 : Int32)) := Arv.set Ar12 qk12 sz12 nn12 hs12 ft12 (fits_nar_char _) W13 3 rfl (Nat.le_of_ble_eq_true rfl)
  rw [own_nc16 (hxr _ (own_mem (i := 3) (by omega)))] at V_b1
  have V_a1 := V_a1.other W13 ne_a1_b1
  have O := O.wr W13 g_b1
  have K := K.wr W13 (Or.inr sz_b1)
  have N := Fr.snoc X13 N g_b1
  refine gb st13 ?_
  show G T13 (mkF m 47 #[rv a1, iv 4, rv b1] [])
  refine gb (fun _ k => XS.iloadN X13.here hx rfl (hb hby d1_47) rfl (XS.iconst X13.here hx rfl (hb hby d1_48) (XS.icmpYes X13.here hx rfl (pc0 := 49) (pc' := 58) rfl (hb hby d1_49) rfl (flt (by decide : ¬ ((4 : Int32) < (4 : Int32)))).2.2.2 (by decide) (by decide) (XS.iloadN X13.here hx rfl (hb hby d1_58) rfl (XS.iconst X13.here hx rfl (hb hby d1_59) (XS.icmpYes X13.here hx rfl (pc0 := 60) (pc' := 69) rfl (hb hby d1_60) rfl (flt (by decide : ¬ ((5 : Int32) < (4 : Int32)))).2.2.2 (by decide) (by decide) k)))))) ?_
  show G T13 (mkF m 69 #[rv a1, iv 4, rv b1] [])
  refine gb (fun _ k => XS.aloadN X13.here hx rfl (hb hby d1_69) rfl rfl k) ?_
  show G T13 (mkF m 70 #[rv a1, iv 4, rv b1] [.ref b1])
  exact go X13 (v := (some (.ref b1))) (fun h => by rw [Bd.returns] at h; cases h) (fun fs hr => retOut X13 hx Bd.returns rfl (Or.inr (Or.inr (Or.inr (Or.inr ⟨rfl, rfl, rfl⟩)))) (hb hby d1_70) hr) (by rw [e13]; exact ⟨_, _, rfl, N, K, g_b1, sz_b1, by rw [own_take1 xs 3 (by omega), own_take1 xs 2 (by omega), own_take1 xs 1 (by omega), own_take1 xs 0 (by omega)]; exact V_b1⟩) (by decide) (by decide)
def Q_rmEX5 (Z : State) (a1 : Addr) (k1 : ClassId) (xs : List Int32) (h0 : Heap) (n0 : Nat) : Option Value → Heap → List Loc → Prop := fun v h L => ∃ (b : Addr) (kb : ClassId), v = some (.ref b) ∧ Fr n0 L ∧ Keep h0 h [] ∧ n0 ≤ b ∧ h0.size ≤ b ∧ Arv Z h b kb .char (5 : Int32) ((xs.take 5).map Value.int) (.int (0 : Int32))
set_option maxRecDepth 65536 in
set_option maxHeartbeats 40000000 in
theorem rmEX5 (l : Launch) (Z : State) (a0 : Array Value) (hw : ∀ d ∈ tables_1, d.before a0 Z = true) (ws : List Jvm.Cond) (a1 : Addr) (k1 : ClassId) (xs : List Int32) (h0 : Heap) (n0 : Nat) (O : Old Z n0 h0) (V_a1 : Arv Z h0 a1 k1 .char (6 : Int32) (xs.map Value.int) (.int (0 : Int32))) (hk : 5 ≤ xs.length) (hx6 : xs.length ≤ 6) (hxr : ∀ c ∈ xs, 0 ≤ c.toInt ∧ c.toInt ≤ 65535) :
    MetFree l (⟨"com/example/lease/lease/core/InputsLeadingPinLaw", "exact", "([CI)[C"⟩ : MethodName) (head1 (Jvm.Cond.code (⟨"com/example/lease/lease/core/InputsLeadingPinLaw", "exact", "([CI)[C"⟩ : MethodName) method_7_code 3 (some (.array .char)) :: ws) ({ frames := 0, cells := 1, slots := 6, locals := 0 } : Room)) (fun a U => a = #[(.ref a1), (.int (5 : Int32))] ∧ Z.Warmed39 U.vm ∧ U.heap = h0) (fun _ _ _ _ _ => True) (fun _ U o U' => ∃ v L, o = .returned v ∧ (Q_rmEX5 Z a1 k1 xs h0 n0) v U'.heap L ∧ FrameEnd U o U' L ({ frames := 0, cells := 1, slots := 6, locals := 0 } : Room).cells ({ frames := 0, cells := 1, slots := 6, locals := 0 } : Room).slots) := by
  refine MetFree.of_bodySF (plainFor_of_name pn_7) hisR ?_
  intro p e s m args below meth c s₁ Bd hml0 hP hK
  obtain ⟨rfl, hZ, hh⟩ := hP
  have hx := Bd.exec
  have hby := Bd.bytes
  have hml : c.maxLocals = 3 := hml0
  have hown : s.vm.findClass "com/example/lease/lease/core/InputsLeadingPinLaw" = some m.cls := findClass_of_methodNamed Bd.named
  have hnm := (name_of_methodNamed Bd.named Bd.method).1
  have hlk := BodyLoose.notSynchronized Bd
  have X0 : Stand p l e ({ frames := 0, cells := 1, slots := 6, locals := 0 } : Room) s m #[(.ref a1), (.int (5 : Int32))] below meth c s₁ [] 0 0 := Stand.of_body Bd
  have e0 : s₁.heap = h0 := by rw [← hh, Bd.state]; rfl
  have N := Fr.nil n0
  have K := Keep.refl h0 []
  obtain ⟨G, hG⟩ : ∃ G : State → JFrame → Prop, G = OwnG p e below s ({ frames := 0, cells := 1, slots := 6, locals := 0 } : Room).cells ({ frames := 0, cells := 1, slots := 6, locals := 0 } : Room).slots (Q_rmEX5 Z a1 k1 xs h0 n0) := ⟨_, rfl⟩
  have gb : ∀ {T T' : State} {g g' : JFrame}, (∀ t, Steps p.tables e below (T'.setTop g') t → Steps p.tables e below (T.setTop g) t) → G T' g' → G T g := by subst hG; exact fun k h => own_by k h
  have go : ∀ {T : State} {locs : List Loc} {cells slots : Nat} {g : JFrame} {v : Option Value}, Stand p l e ({ frames := 0, cells := 1, slots := 6, locals := 0 } : Room) s m #[(.ref a1), (.int (5 : Int32))] below meth c T locs cells slots → (meth.sig.returnType = none → v = none) → (∀ fs, (∀ (f : JFrame) (acts : List Action), f.method = m → f.locked = none → f.entered = [] → (doReturn e (T.setTop f) acts v).1 = T.setFrames fs) → Steps p.tables e below (T.setTop g) (T.setFrames fs)) → (Q_rmEX5 Z a1 k1 xs h0 n0) v T.heap locs → cells ≤ ({ frames := 0, cells := 1, slots := 6, locals := 0 } : Room).cells → slots ≤ ({ frames := 0, cells := 1, slots := 6, locals := 0 } : Room).slots → G T g := by subst hG; exact fun X h1 h2 h3 h4 h5 => own_out X hlk h1 h2 h3 h4 h5
  show OwnG p e below s ({ frames := 0, cells := 1, slots := 6, locals := 0 } : Room).cells ({ frames := 0, cells := 1, slots := 6, locals := 0 } : Room).slots (Q_rmEX5 Z a1 k1 xs h0 n0) s₁ (entryFrame m #[(.ref a1), (.int (5 : Int32))] 3)
  rw [← hG, ef_rmEX5 m a1 (5 : Int32)]
  clear hG
  show G s₁ (mkF m 0 #[.val (.ref a1), .val (.int (5 : Int32)), .unset] [])
  have V_a1 : Arv Z h0 a1 k1 .char (6 : Int32) [(.int (xs.getD 0 0)), (.int (xs.getD 1 0)), (.int (xs.getD 2 0)), (.int (xs.getD 3 0)), (.int (xs.getD 4 0)), (.int (xs.getD 5 0))] (.int (0 : Int32)) := V_a1.pad (own_pad6 hx6)
  refine gb (fun _ k => XS.iloadN X0.here hx rfl (hb hby d1_0) rfl k) ?_
  show G s₁ (mkF m 1 #[rv a1, iv 5, .unset] [.int 5])
  obtain ⟨T1, h1, kA1, X1, e1, E1, A1, st1⟩ := newP X0 hx hZ (ow hw 0 rfl) e0 (g := (mkF m 1 #[rv a1, iv 5, .unset] [.int 5])) rfl (hb hby d1_1) rfl (by decide) (cap := 5) (by decide) (by decide) (by decide) (by decide)
  obtain ⟨b1, g1⟩ : ∃ z, z = h0.size := ⟨_, rfl⟩
  rw [← g1] at A1 st1
  have g_b1 : n0 ≤ b1 := Nat.le_trans (by have := O.2.1; rw [O.1] at this; exact this) (Nat.le_of_eq g1.symm)
  have sz_b1 : h0.size ≤ b1 := Nat.le_trans K.1 (Nat.le_of_eq g1.symm)
  have ne_a1_b1 : a1 ≠ b1 := Nat.ne_of_lt (Nat.lt_of_lt_of_le V_a1.lt (Nat.le_of_eq g1.symm))
  have V_a1 := V_a1.ext E1
  have O := O.ext E1
  have K := K.ext E1
  have V_b1 : Arv Z h1 b1 kA1 .char (5 : Int32) [(.int (0 : Int32)), (.int (0 : Int32)), (.int (0 : Int32)), (.int (0 : Int32)), (.int (0 : Int32))] (.int (0 : Int32)) := (Arv.new A1 (by decide)).pad (pad_rep [] (.int (0 : Int32)) 5)
  refine gb st1 ?_
  show G T1 (mkF m 3 #[rv a1, iv 5, .unset] [.ref b1])
  refine gb (fun _ k => XS.astoreN X1.here hx rfl (hb hby d1_3) rfl rfl (l' := #[rv a1, iv 5, rv b1]) rfl (XS.iloadN X1.here hx rfl (hb hby d1_4) rfl (XS.ifNo X1.here hx rfl (hb hby d1_5) rfl ((if0 _ _).trans (tlt (by decide : (0 : Int32) < (5 : Int32))).2.2.2) (XS.aloadN X1.here hx rfl (hb hby d1_8) rfl rfl (XS.iconst X1.here hx rfl (hb hby d1_9) (XS.aloadN X1.here hx rfl (hb hby d1_10) rfl rfl k)))))) ?_
  show G T1 (mkF m 11 #[rv a1, iv 5, rv b1] [.ref a1, .int 0, .ref b1])
  refine gb (fun _ k => XS.iconst X1.here hx rfl (hb hby d1_11) k) ?_
  show G T1 (mkF m 12 #[rv a1, iv 5, rv b1] [.int 0, .ref a1, .int 0, .ref b1])
  have V'2 := V_a1
  obtain ⟨cl2, Ar2, qk2, sz2, nn2, hs2, ft2⟩ := V'2
  have hin2 : ¬ ((0 : Int32) < 0 ∨ cl2.slots.size ≤ ((0 : Int32)).toNatClampNeg) := inb_of sz2 ⟨by decide, by decide⟩
  have hat2 : cl2.slots[((0 : Int32)).toNatClampNeg]? = some (.int (xs.getD 0 0)) := hs2.at hin2 rfl
  refine gb (X1.caload hx (j := (0 : Int32)) (v := (.int (xs.getD 0 0))) (by rw [e1]; exact Ar2.1) (State.isArrayOf_alike hZ.alike Ar2.2.1) Ar2.2.2 hin2 hat2 (g := (mkF m 12 #[rv a1, iv 5, rv b1] [.int 0, .ref a1, .int 0, .ref b1])) rfl rfl (hb hby d1_12)) ?_
  show G T1 (mkF m 13 #[rv a1, iv 5, rv b1] [.int (xs.getD 0 0), .int 0, .ref b1])
  have V'3 := V_b1
  obtain ⟨cl3, Ar3, qk3, sz3, nn3, hs3, ft3⟩ := V'3
  have hin3 : ¬ ((0 : Int32) < 0 ∨ cl3.slots.size ≤ ((0 : Int32)).toNatClampNeg) := inb_of sz3 ⟨by decide, by decide⟩
  obtain ⟨T4, h4, X4, e4, W4, st4⟩ := stC X1 hx hZ e1 Ar3 (j := (0 : Int32)) hin3 (g := (mkF m 13 #[rv a1, iv 5, rv b1] [.int (xs.getD 0 0), .int 0, .ref b1])) rfl rfl (hb hby d1_13)
  have V_b1 : Arv Z h4 b1 kA1 .char (5 : Int32) [(.int (nar .char (xs.getD 0 0))), (.int (0 : Int32)), (.int (0 : Int32)), (.int (0 : Int32)), (.int (0 : Int32))] (.int (0 : Int32)) := Arv.set Ar3 qk3 sz3 nn3 hs3 ft3 (fits_nar_char _) W4 0 rfl (Nat.le_of_ble_eq_true rfl)
  rw [own_nc16 (hxr _ (own_mem (i := 0) (by omega)))] at V_b1
  have V_a1 := V_a1.other W4 ne_a1_b1
  have O := O.wr W4 g_b1
  have K := K.wr W4 (Or.inr sz_b1)
  have N := Fr.snoc X4 N g_b1
  refine gb st4 ?_
  show G T4 (mkF m 14 #[rv a1, iv 5, rv b1] [])
  refine gb (fun _ k => XS.iloadN X4.here hx rfl (hb hby d1_14) rfl (XS.iconst X4.here hx rfl (hb hby d1_15) (XS.icmpNo X4.here hx rfl (hb hby d1_16) rfl (tlt (by decide : (1 : Int32) < (5 : Int32))).2.2.2 (XS.aloadN X4.here hx rfl (hb hby d1_19) rfl rfl (XS.iconst X4.here hx rfl (hb hby d1_20) (XS.aloadN X4.here hx rfl (hb hby d1_21) rfl rfl k)))))) ?_
  show G T4 (mkF m 22 #[rv a1, iv 5, rv b1] [.ref a1, .int 1, .ref b1])
  refine gb (fun _ k => XS.iconst X4.here hx rfl (hb hby d1_22) k) ?_
  show G T4 (mkF m 23 #[rv a1, iv 5, rv b1] [.int 1, .ref a1, .int 1, .ref b1])
  have V'5 := V_a1
  obtain ⟨cl5, Ar5, qk5, sz5, nn5, hs5, ft5⟩ := V'5
  have hin5 : ¬ ((1 : Int32) < 0 ∨ cl5.slots.size ≤ ((1 : Int32)).toNatClampNeg) := inb_of sz5 ⟨by decide, by decide⟩
  have hat5 : cl5.slots[((1 : Int32)).toNatClampNeg]? = some (.int (xs.getD 1 0)) := hs5.at hin5 rfl
  refine gb (X4.caload hx (j := (1 : Int32)) (v := (.int (xs.getD 1 0))) (by rw [e4]; exact Ar5.1) (State.isArrayOf_alike hZ.alike Ar5.2.1) Ar5.2.2 hin5 hat5 (g := (mkF m 23 #[rv a1, iv 5, rv b1] [.int 1, .ref a1, .int 1, .ref b1])) rfl rfl (hb hby d1_23)) ?_
  show G T4 (mkF m 24 #[rv a1, iv 5, rv b1] [.int (xs.getD 1 0), .int 1, .ref b1])
  have V'6 := V_b1
  obtain ⟨cl6, Ar6, qk6, sz6, nn6, hs6, ft6⟩ := V'6
  have hin6 : ¬ ((1 : Int32) < 0 ∨ cl6.slots.size ≤ ((1 : Int32)).toNatClampNeg) := inb_of sz6 ⟨by decide, by decide⟩
  obtain ⟨T7, h7, X7, e7, W7, st7⟩ := stC X4 hx hZ e4 Ar6 (j := (1 : Int32)) hin6 (g := (mkF m 24 #[rv a1, iv 5, rv b1] [.int (xs.getD 1 0), .int 1, .ref b1])) rfl rfl (hb hby d1_24)
  have V_b1 : Arv Z h7 b1 kA1 .char (5 : Int32) [(.int (xs.getD 0 0)), (.int (nar .char (xs.getD 1 0))), (.int (0 : Int32)), (.int (0 : Int32)), (.int (0 : Int32))] (.int (0 : Int32)) := Arv.set Ar6 qk6 sz6 nn6 hs6 ft6 (fits_nar_char _) W7 1 rfl (Nat.le_of_ble_eq_true rfl)
  rw [own_nc16 (hxr _ (own_mem (i := 1) (by omega)))] at V_b1
  have V_a1 := V_a1.other W7 ne_a1_b1
  have O := O.wr W7 g_b1
  have K := K.wr W7 (Or.inr sz_b1)
  have N := Fr.snoc X7 N g_b1
  refine gb st7 ?_
  show G T7 (mkF m 25 #[rv a1, iv 5, rv b1] [])
  refine gb (fun _ k => XS.iloadN X7.here hx rfl (hb hby d1_25) rfl (XS.iconst X7.here hx rfl (hb hby d1_26) (XS.icmpNo X7.here hx rfl (hb hby d1_27) rfl (tlt (by decide : (2 : Int32) < (5 : Int32))).2.2.2 (XS.aloadN X7.here hx rfl (hb hby d1_30) rfl rfl (XS.iconst X7.here hx rfl (hb hby d1_31) (XS.aloadN X7.here hx rfl (hb hby d1_32) rfl rfl k)))))) ?_
  show G T7 (mkF m 33 #[rv a1, iv 5, rv b1] [.ref a1, .int 2, .ref b1])
  refine gb (fun _ k => XS.iconst X7.here hx rfl (hb hby d1_33) k) ?_
  show G T7 (mkF m 34 #[rv a1, iv 5, rv b1] [.int 2, .ref a1, .int 2, .ref b1])
  have V'8 := V_a1
  obtain ⟨cl8, Ar8, qk8, sz8, nn8, hs8, ft8⟩ := V'8
  have hin8 : ¬ ((2 : Int32) < 0 ∨ cl8.slots.size ≤ ((2 : Int32)).toNatClampNeg) := inb_of sz8 ⟨by decide, by decide⟩
  have hat8 : cl8.slots[((2 : Int32)).toNatClampNeg]? = some (.int (xs.getD 2 0)) := hs8.at hin8 rfl
  refine gb (X7.caload hx (j := (2 : Int32)) (v := (.int (xs.getD 2 0))) (by rw [e7]; exact Ar8.1) (State.isArrayOf_alike hZ.alike Ar8.2.1) Ar8.2.2 hin8 hat8 (g := (mkF m 34 #[rv a1, iv 5, rv b1] [.int 2, .ref a1, .int 2, .ref b1])) rfl rfl (hb hby d1_34)) ?_
  show G T7 (mkF m 35 #[rv a1, iv 5, rv b1] [.int (xs.getD 2 0), .int 2, .ref b1])
  have V'9 := V_b1
  obtain ⟨cl9, Ar9, qk9, sz9, nn9, hs9, ft9⟩ := V'9
  have hin9 : ¬ ((2 : Int32) < 0 ∨ cl9.slots.size ≤ ((2 : Int32)).toNatClampNeg) := inb_of sz9 ⟨by decide, by decide⟩
  obtain ⟨T10, h10, X10, e10, W10, st10⟩ := stC X7 hx hZ e7 Ar9 (j := (2 : Int32)) hin9 (g := (mkF m 35 #[rv a1, iv 5, rv b1] [.int (xs.getD 2 0), .int 2, .ref b1])) rfl rfl (hb hby d1_35)
  have V_b1 : Arv Z h10 b1 kA1 .char (5 : Int32) [(.int (xs.getD 0 0)), (.int (xs.getD 1 0)), (.int (nar .char (xs.getD 2 0))), (.int (0 : Int32)), (.int (0 : Int32))] (.int (0 : Int32)) := Arv.set Ar9 qk9 sz9 nn9 hs9 ft9 (fits_nar_char _) W10 2 rfl (Nat.le_of_ble_eq_true rfl)
  rw [own_nc16 (hxr _ (own_mem (i := 2) (by omega)))] at V_b1
  have V_a1 := V_a1.other W10 ne_a1_b1
  have O := O.wr W10 g_b1
  have K := K.wr W10 (Or.inr sz_b1)
  have N := Fr.snoc X10 N g_b1
  refine gb st10 ?_
  show G T10 (mkF m 36 #[rv a1, iv 5, rv b1] [])
  refine gb (fun _ k => XS.iloadN X10.here hx rfl (hb hby d1_36) rfl (XS.iconst X10.here hx rfl (hb hby d1_37) (XS.icmpNo X10.here hx rfl (hb hby d1_38) rfl (tlt (by decide : (3 : Int32) < (5 : Int32))).2.2.2 (XS.aloadN X10.here hx rfl (hb hby d1_41) rfl rfl (XS.iconst X10.here hx rfl (hb hby d1_42) (XS.aloadN X10.here hx rfl (hb hby d1_43) rfl rfl k)))))) ?_
  show G T10 (mkF m 44 #[rv a1, iv 5, rv b1] [.ref a1, .int 3, .ref b1])
  refine gb (fun _ k => XS.iconst X10.here hx rfl (hb hby d1_44) k) ?_
  show G T10 (mkF m 45 #[rv a1, iv 5, rv b1] [.int 3, .ref a1, .int 3, .ref b1])
  have V'11 := V_a1
  obtain ⟨cl11, Ar11, qk11, sz11, nn11, hs11, ft11⟩ := V'11
  have hin11 : ¬ ((3 : Int32) < 0 ∨ cl11.slots.size ≤ ((3 : Int32)).toNatClampNeg) := inb_of sz11 ⟨by decide, by decide⟩
  have hat11 : cl11.slots[((3 : Int32)).toNatClampNeg]? = some (.int (xs.getD 3 0)) := hs11.at hin11 rfl
  refine gb (X10.caload hx (j := (3 : Int32)) (v := (.int (xs.getD 3 0))) (by rw [e10]; exact Ar11.1) (State.isArrayOf_alike hZ.alike Ar11.2.1) Ar11.2.2 hin11 hat11 (g := (mkF m 45 #[rv a1, iv 5, rv b1] [.int 3, .ref a1, .int 3, .ref b1])) rfl rfl (hb hby d1_45)) ?_
  show G T10 (mkF m 46 #[rv a1, iv 5, rv b1] [.int (xs.getD 3 0), .int 3, .ref b1])
  have V'12 := V_b1
  obtain ⟨cl12, Ar12, qk12, sz12, nn12, hs12, ft12⟩ := V'12
  have hin12 : ¬ ((3 : Int32) < 0 ∨ cl12.slots.size ≤ ((3 : Int32)).toNatClampNeg) := inb_of sz12 ⟨by decide, by decide⟩
  obtain ⟨T13, h13, X13, e13, W13, st13⟩ := stC X10 hx hZ e10 Ar12 (j := (3 : Int32)) hin12 (g := (mkF m 46 #[rv a1, iv 5, rv b1] [.int (xs.getD 3 0), .int 3, .ref b1])) rfl rfl (hb hby d1_46)
  have V_b1 : Arv Z h13 b1 kA1 .char (5 : Int32) [(.int (xs.getD 0 0)), (.int (xs.getD 1 0)), (.int (xs.getD 2 0)), (.int (nar .char (xs.getD 3 0))), (.int (0 : Int32))] (.int (0 : Int32)) := Arv.set Ar12 qk12 sz12 nn12 hs12 ft12 (fits_nar_char _) W13 3 rfl (Nat.le_of_ble_eq_true rfl)
  rw [own_nc16 (hxr _ (own_mem (i := 3) (by omega)))] at V_b1
  have V_a1 := V_a1.other W13 ne_a1_b1
  have O := O.wr W13 g_b1
  have K := K.wr W13 (Or.inr sz_b1)
  have N := Fr.snoc X13 N g_b1
  refine gb st13 ?_
  show G T13 (mkF m 47 #[rv a1, iv 5, rv b1] [])
  refine gb (fun _ k => XS.iloadN X13.here hx rfl (hb hby d1_47) rfl (XS.iconst X13.here hx rfl (hb hby d1_48) (XS.icmpNo X13.here hx rfl (hb hby d1_49) rfl (tlt (by decide : (4 : Int32) < (5 : Int32))).2.2.2 (XS.aloadN X13.here hx rfl (hb hby d1_52) rfl rfl (XS.iconst X13.here hx rfl (hb hby d1_53) (XS.aloadN X13.here hx rfl (hb hby d1_54) rfl rfl k)))))) ?_
  show G T13 (mkF m 55 #[rv a1, iv 5, rv b1] [.ref a1, .int 4, .ref b1])
  refine gb (fun _ k => XS.iconst X13.here hx rfl (hb hby d1_55) k) ?_
  show G T13 (mkF m 56 #[rv a1, iv 5, rv b1] [.int 4, .ref a1, .int 4, .ref b1])
  have V'14 := V_a1
  obtain ⟨cl14, Ar14, qk14, sz14, nn14, hs14, ft14⟩ := V'14
  have hin14 : ¬ ((4 : Int32) < 0 ∨ cl14.slots.size ≤ ((4 : Int32)).toNatClampNeg) := inb_of sz14 ⟨by decide, by decide⟩
  have hat14 : cl14.slots[((4 : Int32)).toNatClampNeg]? = some (.int (xs.getD 4 0)) := hs14.at hin14 rfl
  refine gb (X13.caload hx (j := (4 : Int32)) (v := (.int (xs.getD 4 0))) (by rw [e13]; exact Ar14.1) (State.isArrayOf_alike hZ.alike Ar14.2.1) Ar14.2.2 hin14 hat14 (g := (mkF m 56 #[rv a1, iv 5, rv b1] [.int 4, .ref a1, .int 4, .ref b1])) rfl rfl (hb hby d1_56)) ?_
  show G T13 (mkF m 57 #[rv a1, iv 5, rv b1] [.int (xs.getD 4 0), .int 4, .ref b1])
  have V'15 := V_b1
  obtain ⟨cl15, Ar15, qk15, sz15, nn15, hs15, ft15⟩ := V'15
  have hin15 : ¬ ((4 : Int32) < 0 ∨ cl15.slots.size ≤ ((4 : Int32)).toNatClampNeg) := inb_of sz15 ⟨by decide, by decide⟩
  obtain ⟨T16, h16, X16, e16, W16, st16⟩ := stC X13 hx hZ e13 Ar15 (j := (4 : Int32)) hin15 (g := (mkF m 57 #[rv a1, iv 5, rv b1] [.int (xs.getD 4 0), .int 4, .ref b1])) rfl rfl (hb hby d1_57)
  have V_b1 : Arv Z h16 b1 kA1 .char (5 : Int32) [(.int (xs.getD 0 0)), (.int (xs.getD 1 0)), (.int (xs.getD 2 0)), (.int (xs.getD 3 0)), (.int (nar .char (xs.getD 4 0)))] (.int (0 : Int32)) := Arv.set Ar15 qk15 sz15 nn15 hs15 ft15 (fits_nar_char _) W16 4 rfl (Nat.le_of_ble_eq_true rfl)
  rw [own_nc16 (hxr _ (own_mem (i := 4) (by omega)))] at V_b1
  have V_a1 := V_a1.other W16 ne_a1_b1
  have O := O.wr W16 g_b1
  have K := K.wr W16 (Or.inr sz_b1)
  have N := Fr.snoc X16 N g_b1
  refine gb st16 ?_
  show G T16 (mkF m 58 #[rv a1, iv 5, rv b1] [])
  refine gb (fun _ k => XS.iloadN X16.here hx rfl (hb hby d1_58) rfl (XS.iconst X16.here hx rfl (hb hby d1_59) (XS.icmpYes X16.here hx rfl (pc0 := 60) (pc' := 69) rfl (hb hby d1_60) rfl (flt (by decide : ¬ ((5 : Int32) < (5 : Int32)))).2.2.2 (by decide) (by decide) (XS.aloadN X16.here hx rfl (hb hby d1_69) rfl rfl k)))) ?_
  show G T16 (mkF m 70 #[rv a1, iv 5, rv b1] [.ref b1])
  exact go X16 (v := (some (.ref b1))) (fun h => by rw [Bd.returns] at h; cases h) (fun fs hr => retOut X16 hx Bd.returns rfl (Or.inr (Or.inr (Or.inr (Or.inr ⟨rfl, rfl, rfl⟩)))) (hb hby d1_70) hr) (by rw [e16]; exact ⟨_, _, rfl, N, K, g_b1, sz_b1, by rw [own_take1 xs 4 (by omega), own_take1 xs 3 (by omega), own_take1 xs 2 (by omega), own_take1 xs 1 (by omega), own_take1 xs 0 (by omega)]; exact V_b1⟩) (by decide) (by decide)
def Q_rmEX6 (Z : State) (a1 : Addr) (k1 : ClassId) (xs : List Int32) (h0 : Heap) (n0 : Nat) : Option Value → Heap → List Loc → Prop := fun v h L => ∃ (b : Addr) (kb : ClassId), v = some (.ref b) ∧ Fr n0 L ∧ Keep h0 h [] ∧ n0 ≤ b ∧ h0.size ≤ b ∧ Arv Z h b kb .char (6 : Int32) ((xs.take 6).map Value.int) (.int (0 : Int32))
set_option maxRecDepth 65536 in
set_option maxHeartbeats 40000000 in
theorem rmEX6 (l : Launch) (Z : State) (a0 : Array Value) (hw : ∀ d ∈ tables_1, d.before a0 Z = true) (ws : List Jvm.Cond) (a1 : Addr) (k1 : ClassId) (xs : List Int32) (h0 : Heap) (n0 : Nat) (O : Old Z n0 h0) (V_a1 : Arv Z h0 a1 k1 .char (6 : Int32) (xs.map Value.int) (.int (0 : Int32))) (hk : 6 ≤ xs.length) (hx6 : xs.length ≤ 6) (hxr : ∀ c ∈ xs, 0 ≤ c.toInt ∧ c.toInt ≤ 65535) :
    MetFree l (⟨"com/example/lease/lease/core/InputsLeadingPinLaw", "exact", "([CI)[C"⟩ : MethodName) (head1 (Jvm.Cond.code (⟨"com/example/lease/lease/core/InputsLeadingPinLaw", "exact", "([CI)[C"⟩ : MethodName) method_7_code 3 (some (.array .char)) :: ws) ({ frames := 0, cells := 1, slots := 6, locals := 0 } : Room)) (fun a U => a = #[(.ref a1), (.int (6 : Int32))] ∧ Z.Warmed39 U.vm ∧ U.heap = h0) (fun _ _ _ _ _ => True) (fun _ U o U' => ∃ v L, o = .returned v ∧ (Q_rmEX6 Z a1 k1 xs h0 n0) v U'.heap L ∧ FrameEnd U o U' L ({ frames := 0, cells := 1, slots := 6, locals := 0 } : Room).cells ({ frames := 0, cells := 1, slots := 6, locals := 0 } : Room).slots) := by
  refine MetFree.of_bodySF (plainFor_of_name pn_7) hisR ?_
  intro p e s m args below meth c s₁ Bd hml0 hP hK
  obtain ⟨rfl, hZ, hh⟩ := hP
  have hx := Bd.exec
  have hby := Bd.bytes
  have hml : c.maxLocals = 3 := hml0
  have hown : s.vm.findClass "com/example/lease/lease/core/InputsLeadingPinLaw" = some m.cls := findClass_of_methodNamed Bd.named
  have hnm := (name_of_methodNamed Bd.named Bd.method).1
  have hlk := BodyLoose.notSynchronized Bd
  have X0 : Stand p l e ({ frames := 0, cells := 1, slots := 6, locals := 0 } : Room) s m #[(.ref a1), (.int (6 : Int32))] below meth c s₁ [] 0 0 := Stand.of_body Bd
  have e0 : s₁.heap = h0 := by rw [← hh, Bd.state]; rfl
  have N := Fr.nil n0
  have K := Keep.refl h0 []
  obtain ⟨G, hG⟩ : ∃ G : State → JFrame → Prop, G = OwnG p e below s ({ frames := 0, cells := 1, slots := 6, locals := 0 } : Room).cells ({ frames := 0, cells := 1, slots := 6, locals := 0 } : Room).slots (Q_rmEX6 Z a1 k1 xs h0 n0) := ⟨_, rfl⟩
  have gb : ∀ {T T' : State} {g g' : JFrame}, (∀ t, Steps p.tables e below (T'.setTop g') t → Steps p.tables e below (T.setTop g) t) → G T' g' → G T g := by subst hG; exact fun k h => own_by k h
  have go : ∀ {T : State} {locs : List Loc} {cells slots : Nat} {g : JFrame} {v : Option Value}, Stand p l e ({ frames := 0, cells := 1, slots := 6, locals := 0 } : Room) s m #[(.ref a1), (.int (6 : Int32))] below meth c T locs cells slots → (meth.sig.returnType = none → v = none) → (∀ fs, (∀ (f : JFrame) (acts : List Action), f.method = m → f.locked = none → f.entered = [] → (doReturn e (T.setTop f) acts v).1 = T.setFrames fs) → Steps p.tables e below (T.setTop g) (T.setFrames fs)) → (Q_rmEX6 Z a1 k1 xs h0 n0) v T.heap locs → cells ≤ ({ frames := 0, cells := 1, slots := 6, locals := 0 } : Room).cells → slots ≤ ({ frames := 0, cells := 1, slots := 6, locals := 0 } : Room).slots → G T g := by subst hG; exact fun X h1 h2 h3 h4 h5 => own_out X hlk h1 h2 h3 h4 h5
  show OwnG p e below s ({ frames := 0, cells := 1, slots := 6, locals := 0 } : Room).cells ({ frames := 0, cells := 1, slots := 6, locals := 0 } : Room).slots (Q_rmEX6 Z a1 k1 xs h0 n0) s₁ (entryFrame m #[(.ref a1), (.int (6 : Int32))] 3)
  rw [← hG, ef_rmEX6 m a1 (6 : Int32)]
  clear hG
  show G s₁ (mkF m 0 #[.val (.ref a1), .val (.int (6 : Int32)), .unset] [])
  have V_a1 : Arv Z h0 a1 k1 .char (6 : Int32) [(.int (xs.getD 0 0)), (.int (xs.getD 1 0)), (.int (xs.getD 2 0)), (.int (xs.getD 3 0)), (.int (xs.getD 4 0)), (.int (xs.getD 5 0))] (.int (0 : Int32)) := V_a1.pad (own_pad6 hx6)
  refine gb (fun _ k => XS.iloadN X0.here hx rfl (hb hby d1_0) rfl k) ?_
  show G s₁ (mkF m 1 #[rv a1, iv 6, .unset] [.int 6])
  obtain ⟨T1, h1, kA1, X1, e1, E1, A1, st1⟩ := newP X0 hx hZ (ow hw 0 rfl) e0 (g := (mkF m 1 #[rv a1, iv 6, .unset] [.int 6])) rfl (hb hby d1_1) rfl (by decide) (cap := 6) (by decide) (by decide) (by decide) (by decide)
  obtain ⟨b1, g1⟩ : ∃ z, z = h0.size := ⟨_, rfl⟩
  rw [← g1] at A1 st1
  have g_b1 : n0 ≤ b1 := Nat.le_trans (by have := O.2.1; rw [O.1] at this; exact this) (Nat.le_of_eq g1.symm)
  have sz_b1 : h0.size ≤ b1 := Nat.le_trans K.1 (Nat.le_of_eq g1.symm)
  have ne_a1_b1 : a1 ≠ b1 := Nat.ne_of_lt (Nat.lt_of_lt_of_le V_a1.lt (Nat.le_of_eq g1.symm))
  have V_a1 := V_a1.ext E1
  have O := O.ext E1
  have K := K.ext E1
  have V_b1 : Arv Z h1 b1 kA1 .char (6 : Int32) [(.int (0 : Int32)), (.int (0 : Int32)), (.int (0 : Int32)), (.int (0 : Int32)), (.int (0 : Int32)), (.int (0 : Int32))] (.int (0 : Int32)) := (Arv.new A1 (by decide)).pad (pad_rep [] (.int (0 : Int32)) 6)
  refine gb st1 ?_
  show G T1 (mkF m 3 #[rv a1, iv 6, .unset] [.ref b1])
  refine gb (fun _ k => XS.astoreN X1.here hx rfl (hb hby d1_3) rfl rfl (l' := #[rv a1, iv 6, rv b1]) rfl (XS.iloadN X1.here hx rfl (hb hby d1_4) rfl (XS.ifNo X1.here hx rfl (hb hby d1_5) rfl ((if0 _ _).trans (tlt (by decide : (0 : Int32) < (6 : Int32))).2.2.2) (XS.aloadN X1.here hx rfl (hb hby d1_8) rfl rfl (XS.iconst X1.here hx rfl (hb hby d1_9) (XS.aloadN X1.here hx rfl (hb hby d1_10) rfl rfl k)))))) ?_
  show G T1 (mkF m 11 #[rv a1, iv 6, rv b1] [.ref a1, .int 0, .ref b1])
  refine gb (fun _ k => XS.iconst X1.here hx rfl (hb hby d1_11) k) ?_
  show G T1 (mkF m 12 #[rv a1, iv 6, rv b1] [.int 0, .ref a1, .int 0, .ref b1])
  have V'2 := V_a1
  obtain ⟨cl2, Ar2, qk2, sz2, nn2, hs2, ft2⟩ := V'2
  have hin2 : ¬ ((0 : Int32) < 0 ∨ cl2.slots.size ≤ ((0 : Int32)).toNatClampNeg) := inb_of sz2 ⟨by decide, by decide⟩
  have hat2 : cl2.slots[((0 : Int32)).toNatClampNeg]? = some (.int (xs.getD 0 0)) := hs2.at hin2 rfl
  refine gb (X1.caload hx (j := (0 : Int32)) (v := (.int (xs.getD 0 0))) (by rw [e1]; exact Ar2.1) (State.isArrayOf_alike hZ.alike Ar2.2.1) Ar2.2.2 hin2 hat2 (g := (mkF m 12 #[rv a1, iv 6, rv b1] [.int 0, .ref a1, .int 0, .ref b1])) rfl rfl (hb hby d1_12)) ?_
  show G T1 (mkF m 13 #[rv a1, iv 6, rv b1] [.int (xs.getD 0 0), .int 0, .ref b1])
  have V'3 := V_b1
  obtain ⟨cl3, Ar3, qk3, sz3, nn3, hs3, ft3⟩ := V'3
  have hin3 : ¬ ((0 : Int32) < 0 ∨ cl3.slots.size ≤ ((0 : Int32)).toNatClampNeg) := inb_of sz3 ⟨by decide, by decide⟩
  obtain ⟨T4, h4, X4, e4, W4, st4⟩ := stC X1 hx hZ e1 Ar3 (j := (0 : Int32)) hin3 (g := (mkF m 13 #[rv a1, iv 6, rv b1] [.int (xs.getD 0 0), .int 0, .ref b1])) rfl rfl (hb hby d1_13)
  have V_b1 : Arv Z h4 b1 kA1 .char (6 : Int32) [(.int (nar .char (xs.getD 0 0))), (.int (0 : Int32)), (.int (0 : Int32)), (.int (0 : Int32)), (.int (0 : Int32)), (.int (0 : Int32))] (.int (0 : Int32)) := Arv.set Ar3 qk3 sz3 nn3 hs3 ft3 (fits_nar_char _) W4 0 rfl (Nat.le_of_ble_eq_true rfl)
  rw [own_nc16 (hxr _ (own_mem (i := 0) (by omega)))] at V_b1
  have V_a1 := V_a1.other W4 ne_a1_b1
  have O := O.wr W4 g_b1
  have K := K.wr W4 (Or.inr sz_b1)
  have N := Fr.snoc X4 N g_b1
  refine gb st4 ?_
  show G T4 (mkF m 14 #[rv a1, iv 6, rv b1] [])
  refine gb (fun _ k => XS.iloadN X4.here hx rfl (hb hby d1_14) rfl (XS.iconst X4.here hx rfl (hb hby d1_15) (XS.icmpNo X4.here hx rfl (hb hby d1_16) rfl (tlt (by decide : (1 : Int32) < (6 : Int32))).2.2.2 (XS.aloadN X4.here hx rfl (hb hby d1_19) rfl rfl (XS.iconst X4.here hx rfl (hb hby d1_20) (XS.aloadN X4.here hx rfl (hb hby d1_21) rfl rfl k)))))) ?_
  show G T4 (mkF m 22 #[rv a1, iv 6, rv b1] [.ref a1, .int 1, .ref b1])
  refine gb (fun _ k => XS.iconst X4.here hx rfl (hb hby d1_22) k) ?_
  show G T4 (mkF m 23 #[rv a1, iv 6, rv b1] [.int 1, .ref a1, .int 1, .ref b1])
  have V'5 := V_a1
  obtain ⟨cl5, Ar5, qk5, sz5, nn5, hs5, ft5⟩ := V'5
  have hin5 : ¬ ((1 : Int32) < 0 ∨ cl5.slots.size ≤ ((1 : Int32)).toNatClampNeg) := inb_of sz5 ⟨by decide, by decide⟩
  have hat5 : cl5.slots[((1 : Int32)).toNatClampNeg]? = some (.int (xs.getD 1 0)) := hs5.at hin5 rfl
  refine gb (X4.caload hx (j := (1 : Int32)) (v := (.int (xs.getD 1 0))) (by rw [e4]; exact Ar5.1) (State.isArrayOf_alike hZ.alike Ar5.2.1) Ar5.2.2 hin5 hat5 (g := (mkF m 23 #[rv a1, iv 6, rv b1] [.int 1, .ref a1, .int 1, .ref b1])) rfl rfl (hb hby d1_23)) ?_
  show G T4 (mkF m 24 #[rv a1, iv 6, rv b1] [.int (xs.getD 1 0), .int 1, .ref b1])
  have V'6 := V_b1
  obtain ⟨cl6, Ar6, qk6, sz6, nn6, hs6, ft6⟩ := V'6
  have hin6 : ¬ ((1 : Int32) < 0 ∨ cl6.slots.size ≤ ((1 : Int32)).toNatClampNeg) := inb_of sz6 ⟨by decide, by decide⟩
  obtain ⟨T7, h7, X7, e7, W7, st7⟩ := stC X4 hx hZ e4 Ar6 (j := (1 : Int32)) hin6 (g := (mkF m 24 #[rv a1, iv 6, rv b1] [.int (xs.getD 1 0), .int 1, .ref b1])) rfl rfl (hb hby d1_24)
  have V_b1 : Arv Z h7 b1 kA1 .char (6 : Int32) [(.int (xs.getD 0 0)), (.int (nar .char (xs.getD 1 0))), (.int (0 : Int32)), (.int (0 : Int32)), (.int (0 : Int32)), (.int (0 : Int32))] (.int (0 : Int32)) := Arv.set Ar6 qk6 sz6 nn6 hs6 ft6 (fits_nar_char _) W7 1 rfl (Nat.le_of_ble_eq_true rfl)
  rw [own_nc16 (hxr _ (own_mem (i := 1) (by omega)))] at V_b1
  have V_a1 := V_a1.other W7 ne_a1_b1
  have O := O.wr W7 g_b1
  have K := K.wr W7 (Or.inr sz_b1)
  have N := Fr.snoc X7 N g_b1
  refine gb st7 ?_
  show G T7 (mkF m 25 #[rv a1, iv 6, rv b1] [])
  refine gb (fun _ k => XS.iloadN X7.here hx rfl (hb hby d1_25) rfl (XS.iconst X7.here hx rfl (hb hby d1_26) (XS.icmpNo X7.here hx rfl (hb hby d1_27) rfl (tlt (by decide : (2 : Int32) < (6 : Int32))).2.2.2 (XS.aloadN X7.here hx rfl (hb hby d1_30) rfl rfl (XS.iconst X7.here hx rfl (hb hby d1_31) (XS.aloadN X7.here hx rfl (hb hby d1_32) rfl rfl k)))))) ?_
  show G T7 (mkF m 33 #[rv a1, iv 6, rv b1] [.ref a1, .int 2, .ref b1])
  refine gb (fun _ k => XS.iconst X7.here hx rfl (hb hby d1_33) k) ?_
  show G T7 (mkF m 34 #[rv a1, iv 6, rv b1] [.int 2, .ref a1, .int 2, .ref b1])
  have V'8 := V_a1
  obtain ⟨cl8, Ar8, qk8, sz8, nn8, hs8, ft8⟩ := V'8
  have hin8 : ¬ ((2 : Int32) < 0 ∨ cl8.slots.size ≤ ((2 : Int32)).toNatClampNeg) := inb_of sz8 ⟨by decide, by decide⟩
  have hat8 : cl8.slots[((2 : Int32)).toNatClampNeg]? = some (.int (xs.getD 2 0)) := hs8.at hin8 rfl
  refine gb (X7.caload hx (j := (2 : Int32)) (v := (.int (xs.getD 2 0))) (by rw [e7]; exact Ar8.1) (State.isArrayOf_alike hZ.alike Ar8.2.1) Ar8.2.2 hin8 hat8 (g := (mkF m 34 #[rv a1, iv 6, rv b1] [.int 2, .ref a1, .int 2, .ref b1])) rfl rfl (hb hby d1_34)) ?_
  show G T7 (mkF m 35 #[rv a1, iv 6, rv b1] [.int (xs.getD 2 0), .int 2, .ref b1])
  have V'9 := V_b1
  obtain ⟨cl9, Ar9, qk9, sz9, nn9, hs9, ft9⟩ := V'9
  have hin9 : ¬ ((2 : Int32) < 0 ∨ cl9.slots.size ≤ ((2 : Int32)).toNatClampNeg) := inb_of sz9 ⟨by decide, by decide⟩
  obtain ⟨T10, h10, X10, e10, W10, st10⟩ := stC X7 hx hZ e7 Ar9 (j := (2 : Int32)) hin9 (g := (mkF m 35 #[rv a1, iv 6, rv b1] [.int (xs.getD 2 0), .int 2, .ref b1])) rfl rfl (hb hby d1_35)
  have V_b1 : Arv Z h10 b1 kA1 .char (6 : Int32) [(.int (xs.getD 0 0)), (.int (xs.getD 1 0)), (.int (nar .char (xs.getD 2 0))), (.int (0 : Int32)), (.int (0 : Int32)), (.int (0 : Int32))] (.int (0 : Int32)) := Arv.set Ar9 qk9 sz9 nn9 hs9 ft9 (fits_nar_char _) W10 2 rfl (Nat.le_of_ble_eq_true rfl)
  rw [own_nc16 (hxr _ (own_mem (i := 2) (by omega)))] at V_b1
  have V_a1 := V_a1.other W10 ne_a1_b1
  have O := O.wr W10 g_b1
  have K := K.wr W10 (Or.inr sz_b1)
  have N := Fr.snoc X10 N g_b1
  refine gb st10 ?_
  show G T10 (mkF m 36 #[rv a1, iv 6, rv b1] [])
  refine gb (fun _ k => XS.iloadN X10.here hx rfl (hb hby d1_36) rfl (XS.iconst X10.here hx rfl (hb hby d1_37) (XS.icmpNo X10.here hx rfl (hb hby d1_38) rfl (tlt (by decide : (3 : Int32) < (6 : Int32))).2.2.2 (XS.aloadN X10.here hx rfl (hb hby d1_41) rfl rfl (XS.iconst X10.here hx rfl (hb hby d1_42) (XS.aloadN X10.here hx rfl (hb hby d1_43) rfl rfl k)))))) ?_
  show G T10 (mkF m 44 #[rv a1, iv 6, rv b1] [.ref a1, .int 3, .ref b1])
  refine gb (fun _ k => XS.iconst X10.here hx rfl (hb hby d1_44) k) ?_
  show G T10 (mkF m 45 #[rv a1, iv 6, rv b1] [.int 3, .ref a1, .int 3, .ref b1])
  have V'11 := V_a1
  obtain ⟨cl11, Ar11, qk11, sz11, nn11, hs11, ft11⟩ := V'11
  have hin11 : ¬ ((3 : Int32) < 0 ∨ cl11.slots.size ≤ ((3 : Int32)).toNatClampNeg) := inb_of sz11 ⟨by decide, by decide⟩
  have hat11 : cl11.slots[((3 : Int32)).toNatClampNeg]? = some (.int (xs.getD 3 0)) := hs11.at hin11 rfl
  refine gb (X10.caload hx (j := (3 : Int32)) (v := (.int (xs.getD 3 0))) (by rw [e10]; exact Ar11.1) (State.isArrayOf_alike hZ.alike Ar11.2.1) Ar11.2.2 hin11 hat11 (g := (mkF m 45 #[rv a1, iv 6, rv b1] [.int 3, .ref a1, .int 3, .ref b1])) rfl rfl (hb hby d1_45)) ?_
  show G T10 (mkF m 46 #[rv a1, iv 6, rv b1] [.int (xs.getD 3 0), .int 3, .ref b1])
  have V'12 := V_b1
  obtain ⟨cl12, Ar12, qk12, sz12, nn12, hs12, ft12⟩ := V'12
  have hin12 : ¬ ((3 : Int32) < 0 ∨ cl12.slots.size ≤ ((3 : Int32)).toNatClampNeg) := inb_of sz12 ⟨by decide, by decide⟩
  obtain ⟨T13, h13, X13, e13, W13, st13⟩ := stC X10 hx hZ e10 Ar12 (j := (3 : Int32)) hin12 (g := (mkF m 46 #[rv a1, iv 6, rv b1] [.int (xs.getD 3 0), .int 3, .ref b1])) rfl rfl (hb hby d1_46)
  have V_b1 : Arv Z h13 b1 kA1 .char (6 : Int32) [(.int (xs.getD 0 0)), (.int (xs.getD 1 0)), (.int (xs.getD 2 0)), (.int (nar .char (xs.getD 3 0))), (.int (0 : Int32)), (.int (0 : Int32))] (.int (0 : Int32)) := Arv.set Ar12 qk12 sz12 nn12 hs12 ft12 (fits_nar_char _) W13 3 rfl (Nat.le_of_ble_eq_true rfl)
  rw [own_nc16 (hxr _ (own_mem (i := 3) (by omega)))] at V_b1
  have V_a1 := V_a1.other W13 ne_a1_b1
  have O := O.wr W13 g_b1
  have K := K.wr W13 (Or.inr sz_b1)
  have N := Fr.snoc X13 N g_b1
  refine gb st13 ?_
  show G T13 (mkF m 47 #[rv a1, iv 6, rv b1] [])
  refine gb (fun _ k => XS.iloadN X13.here hx rfl (hb hby d1_47) rfl (XS.iconst X13.here hx rfl (hb hby d1_48) (XS.icmpNo X13.here hx rfl (hb hby d1_49) rfl (tlt (by decide : (4 : Int32) < (6 : Int32))).2.2.2 (XS.aloadN X13.here hx rfl (hb hby d1_52) rfl rfl (XS.iconst X13.here hx rfl (hb hby d1_53) (XS.aloadN X13.here hx rfl (hb hby d1_54) rfl rfl k)))))) ?_
  show G T13 (mkF m 55 #[rv a1, iv 6, rv b1] [.ref a1, .int 4, .ref b1])
  refine gb (fun _ k => XS.iconst X13.here hx rfl (hb hby d1_55) k) ?_
  show G T13 (mkF m 56 #[rv a1, iv 6, rv b1] [.int 4, .ref a1, .int 4, .ref b1])
  have V'14 := V_a1
  obtain ⟨cl14, Ar14, qk14, sz14, nn14, hs14, ft14⟩ := V'14
  have hin14 : ¬ ((4 : Int32) < 0 ∨ cl14.slots.size ≤ ((4 : Int32)).toNatClampNeg) := inb_of sz14 ⟨by decide, by decide⟩
  have hat14 : cl14.slots[((4 : Int32)).toNatClampNeg]? = some (.int (xs.getD 4 0)) := hs14.at hin14 rfl
  refine gb (X13.caload hx (j := (4 : Int32)) (v := (.int (xs.getD 4 0))) (by rw [e13]; exact Ar14.1) (State.isArrayOf_alike hZ.alike Ar14.2.1) Ar14.2.2 hin14 hat14 (g := (mkF m 56 #[rv a1, iv 6, rv b1] [.int 4, .ref a1, .int 4, .ref b1])) rfl rfl (hb hby d1_56)) ?_
  show G T13 (mkF m 57 #[rv a1, iv 6, rv b1] [.int (xs.getD 4 0), .int 4, .ref b1])
  have V'15 := V_b1
  obtain ⟨cl15, Ar15, qk15, sz15, nn15, hs15, ft15⟩ := V'15
  have hin15 : ¬ ((4 : Int32) < 0 ∨ cl15.slots.size ≤ ((4 : Int32)).toNatClampNeg) := inb_of sz15 ⟨by decide, by decide⟩
  obtain ⟨T16, h16, X16, e16, W16, st16⟩ := stC X13 hx hZ e13 Ar15 (j := (4 : Int32)) hin15 (g := (mkF m 57 #[rv a1, iv 6, rv b1] [.int (xs.getD 4 0), .int 4, .ref b1])) rfl rfl (hb hby d1_57)
  have V_b1 : Arv Z h16 b1 kA1 .char (6 : Int32) [(.int (xs.getD 0 0)), (.int (xs.getD 1 0)), (.int (xs.getD 2 0)), (.int (xs.getD 3 0)), (.int (nar .char (xs.getD 4 0))), (.int (0 : Int32))] (.int (0 : Int32)) := Arv.set Ar15 qk15 sz15 nn15 hs15 ft15 (fits_nar_char _) W16 4 rfl (Nat.le_of_ble_eq_true rfl)
  rw [own_nc16 (hxr _ (own_mem (i := 4) (by omega)))] at V_b1
  have V_a1 := V_a1.other W16 ne_a1_b1
  have O := O.wr W16 g_b1
  have K := K.wr W16 (Or.inr sz_b1)
  have N := Fr.snoc X16 N g_b1
  refine gb st16 ?_
  show G T16 (mkF m 58 #[rv a1, iv 6, rv b1] [])
  refine gb (fun _ k => XS.iloadN X16.here hx rfl (hb hby d1_58) rfl (XS.iconst X16.here hx rfl (hb hby d1_59) (XS.icmpNo X16.here hx rfl (hb hby d1_60) rfl (tlt (by decide : (5 : Int32) < (6 : Int32))).2.2.2 (XS.aloadN X16.here hx rfl (hb hby d1_63) rfl rfl (XS.iconst X16.here hx rfl (hb hby d1_64) (XS.aloadN X16.here hx rfl (hb hby d1_65) rfl rfl k)))))) ?_
  show G T16 (mkF m 66 #[rv a1, iv 6, rv b1] [.ref a1, .int 5, .ref b1])
  refine gb (fun _ k => XS.iconst X16.here hx rfl (hb hby d1_66) k) ?_
  show G T16 (mkF m 67 #[rv a1, iv 6, rv b1] [.int 5, .ref a1, .int 5, .ref b1])
  have V'17 := V_a1
  obtain ⟨cl17, Ar17, qk17, sz17, nn17, hs17, ft17⟩ := V'17
  have hin17 : ¬ ((5 : Int32) < 0 ∨ cl17.slots.size ≤ ((5 : Int32)).toNatClampNeg) := inb_of sz17 ⟨by decide, by decide⟩
  have hat17 : cl17.slots[((5 : Int32)).toNatClampNeg]? = some (.int (xs.getD 5 0)) := hs17.at hin17 rfl
  refine gb (X16.caload hx (j := (5 : Int32)) (v := (.int (xs.getD 5 0))) (by rw [e16]; exact Ar17.1) (State.isArrayOf_alike hZ.alike Ar17.2.1) Ar17.2.2 hin17 hat17 (g := (mkF m 67 #[rv a1, iv 6, rv b1] [.int 5, .ref a1, .int 5, .ref b1])) rfl rfl (hb hby d1_67)) ?_
  show G T16 (mkF m 68 #[rv a1, iv 6, rv b1] [.int (xs.getD 5 0), .int 5, .ref b1])
  have V'18 := V_b1
  obtain ⟨cl18, Ar18, qk18, sz18, nn18, hs18, ft18⟩ := V'18
  have hin18 : ¬ ((5 : Int32) < 0 ∨ cl18.slots.size ≤ ((5 : Int32)).toNatClampNeg) := inb_of sz18 ⟨by decide, by decide⟩
  obtain ⟨T19, h19, X19, e19, W19, st19⟩ := stC X16 hx hZ e16 Ar18 (j := (5 : Int32)) hin18 (g := (mkF m 68 #[rv a1, iv 6, rv b1] [.int (xs.getD 5 0), .int 5, .ref b1])) rfl rfl (hb hby d1_68)
  have V_b1 : Arv Z h19 b1 kA1 .char (6 : Int32) [(.int (xs.getD 0 0)), (.int (xs.getD 1 0)), (.int (xs.getD 2 0)), (.int (xs.getD 3 0)), (.int (xs.getD 4 0)), (.int (nar .char (xs.getD 5 0)))] (.int (0 : Int32)) := Arv.set Ar18 qk18 sz18 nn18 hs18 ft18 (fits_nar_char _) W19 5 rfl (Nat.le_of_ble_eq_true rfl)
  rw [own_nc16 (hxr _ (own_mem (i := 5) (by omega)))] at V_b1
  have V_a1 := V_a1.other W19 ne_a1_b1
  have O := O.wr W19 g_b1
  have K := K.wr W19 (Or.inr sz_b1)
  have N := Fr.snoc X19 N g_b1
  refine gb st19 ?_
  show G T19 (mkF m 69 #[rv a1, iv 6, rv b1] [])
  refine gb (fun _ k => XS.aloadN X19.here hx rfl (hb hby d1_69) rfl rfl k) ?_
  show G T19 (mkF m 70 #[rv a1, iv 6, rv b1] [.ref b1])
  exact go X19 (v := (some (.ref b1))) (fun h => by rw [Bd.returns] at h; cases h) (fun fs hr => retOut X19 hx Bd.returns rfl (Or.inr (Or.inr (Or.inr (Or.inr ⟨rfl, rfl, rfl⟩)))) (hb hby d1_70) hr) (by rw [e19]; exact ⟨_, _, rfl, N, K, g_b1, sz_b1, by rw [own_take1 xs 5 (by omega), own_take1 xs 4 (by omega), own_take1 xs 3 (by omega), own_take1 xs 2 (by omega), own_take1 xs 1 (by omega), own_take1 xs 0 (by omega)]; exact V_b1⟩) (by decide) (by decide)
def Q_rmEX (Z : State) (k : Nat) (xs : List Int32) (h0 : Heap) (n0 : Nat) : Option Value → Heap → List Loc → Prop := fun v h L => ∃ (b : Addr) (kb : ClassId), v = some (.ref b) ∧ Fr n0 L ∧ Keep h0 h [] ∧ n0 ≤ b ∧ h0.size ≤ b ∧ Arv Z h b kb .char (Int32.ofNat k) ((xs.take k).map Value.int) (.int (0 : Int32))
theorem rmEX (l : Launch) (Z : State) (a0 : Array Value) (hw : ∀ d ∈ tables_1, d.before a0 Z = true) (ws : List Jvm.Cond) (k : Nat) (a1 : Addr) (k1 : ClassId) (xs : List Int32) (h0 : Heap) (n0 : Nat) (O : Old Z n0 h0) (V_a1 : Arv Z h0 a1 k1 .char (6 : Int32) (xs.map Value.int) (.int (0 : Int32))) (hk : k ≤ xs.length) (hx6 : xs.length ≤ 6) (hxr : ∀ c ∈ xs, 0 ≤ c.toInt ∧ c.toInt ≤ 65535) :
    MetFree l (⟨"com/example/lease/lease/core/InputsLeadingPinLaw", "exact", "([CI)[C"⟩ : MethodName) (head1 (Jvm.Cond.code (⟨"com/example/lease/lease/core/InputsLeadingPinLaw", "exact", "([CI)[C"⟩ : MethodName) method_7_code 3 (some (.array .char)) :: ws) ({ frames := 0, cells := 1, slots := 6, locals := 0 } : Room)) (fun a U => a = #[.ref a1, .int (Int32.ofNat k)] ∧ Z.Warmed39 U.vm ∧ U.heap = h0) (fun _ _ _ _ _ => True) (fun _ U o U' => ∃ v L, o = .returned v ∧ (Q_rmEX Z k xs h0 n0) v U'.heap L ∧ FrameEnd U o U' L ({ frames := 0, cells := 1, slots := 6, locals := 0 } : Room).cells ({ frames := 0, cells := 1, slots := 6, locals := 0 } : Room).slots) := by
  rcases own_7 (Nat.le_trans hk hx6) with rfl | rfl | rfl | rfl | rfl | rfl | rfl
  · exact rmEX0 l Z a0 hw ws a1 k1 xs h0 n0 O V_a1 hk hx6 hxr
  · exact rmEX1 l Z a0 hw ws a1 k1 xs h0 n0 O V_a1 hk hx6 hxr
  · exact rmEX2 l Z a0 hw ws a1 k1 xs h0 n0 O V_a1 hk hx6 hxr
  · exact rmEX3 l Z a0 hw ws a1 k1 xs h0 n0 O V_a1 hk hx6 hxr
  · exact rmEX4 l Z a0 hw ws a1 k1 xs h0 n0 O V_a1 hk hx6 hxr
  · exact rmEX5 l Z a0 hw ws a1 k1 xs h0 n0 O V_a1 hk hx6 hxr
  · exact rmEX6 l Z a0 hw ws a1 k1 xs h0 n0 O V_a1 hk hx6 hxr
def own_ps (c a b d : Int32) : List Int32 := if c < (1 : Int32) then [] else if c < (2 : Int32) then [a] else if c < (3 : Int32) then [a, b] else [a, b, d]
theorem own_c12 {c : Int32} (h : c < (1 : Int32)) : c < (2 : Int32) := by
  have b1 : (1 : Int32).toInt = 1 := rfl
  have b2 : (2 : Int32).toInt = 2 := rfl
  rw [Int32.lt_iff_toInt_lt] at h ⊢; omega
theorem own_c23 {c : Int32} (h : c < (2 : Int32)) : c < (3 : Int32) := by
  have b2 : (2 : Int32).toInt = 2 := rfl
  have b3 : (3 : Int32).toInt = 3 := rfl
  rw [Int32.lt_iff_toInt_lt] at h ⊢; omega
theorem own_s1 (x : Int32) : 1 ≤ ((x &&& (3 : Int32)) + (1 : Int32)).toInt ∧ ((x &&& (3 : Int32)) + (1 : Int32)).toInt ≤ 4 := by
  have h := c_and x (3 : Int32) (by decide)
  have a3 : (3 : Int32).toInt = 3 := rfl
  have f := c_iadd (x &&& (3 : Int32)) (1 : Int32)
  have b1 : (1 : Int32).toInt = 1 := rfl
  have t1 := Int32.toInt_lt ((x &&& (3 : Int32)) + (1 : Int32))
  have t2 := Int32.le_toInt ((x &&& (3 : Int32)) + (1 : Int32))
  rw [b1] at f; omega
theorem own_m2 {m x y : Int32} (h : m < ((x &&& (3 : Int32)) + (1 : Int32))) : m < (((x &&& (3 : Int32)) + (1 : Int32)) + ((y &&& (3 : Int32)) + (1 : Int32))) := by
  have h1 := own_s1 x
  have h2 := own_s1 y
  generalize ((x &&& (3 : Int32)) + (1 : Int32)) = a at h h1 ⊢
  generalize ((y &&& (3 : Int32)) + (1 : Int32)) = b at h2 ⊢
  have f := c_iadd a b
  have t1 := Int32.toInt_lt (a + b)
  have t2 := Int32.le_toInt (a + b)
  rw [Int32.lt_iff_toInt_lt] at h ⊢; omega
theorem own_m3 {m x y z : Int32} (h : m < (((x &&& (3 : Int32)) + (1 : Int32)) + ((y &&& (3 : Int32)) + (1 : Int32)))) : m < ((((x &&& (3 : Int32)) + (1 : Int32)) + ((y &&& (3 : Int32)) + (1 : Int32))) + ((z &&& (3 : Int32)) + (1 : Int32))) := by
  have h1 := own_s1 x
  have h2 := own_s1 y
  have h3 := own_s1 z
  generalize ((x &&& (3 : Int32)) + (1 : Int32)) = a at h h1 ⊢
  generalize ((y &&& (3 : Int32)) + (1 : Int32)) = b at h h2 ⊢
  generalize ((z &&& (3 : Int32)) + (1 : Int32)) = c at h3 ⊢
  have f := c_iadd a b
  have t1 := Int32.toInt_lt (a + b)
  have t2 := Int32.le_toInt (a + b)
  generalize (a + b) = ab at f t1 t2 h ⊢
  have g := c_iadd ab c
  have t3 := Int32.toInt_lt (ab + c)
  have t4 := Int32.le_toInt (ab + c)
  rw [Int32.lt_iff_toInt_lt] at h ⊢; omega
theorem own_k1 (x : Int32) : own_uc x = Int32.ofNat (own_us [own_cp x]).length := by
  rw [show own_us [own_cp x] = own_un (own_cp x) from List.append_nil _, (own_cpS x).2.2]
theorem own_k2 (x y : Int32) : (own_uc x + own_uc y) = Int32.ofNat (own_us [own_cp x, own_cp y]).length := by
  rw [show own_us [own_cp x, own_cp y] = own_un (own_cp x) ++ own_us [own_cp y] from rfl, List.length_append, Int32.ofNat_add, ← own_k1 y, (own_cpS x).2.2]
theorem own_k3 (x y z : Int32) : ((own_uc x + own_uc y) + own_uc z) = Int32.ofNat (own_us [own_cp x, own_cp y, own_cp z]).length := by
  rw [show own_us [own_cp x, own_cp y, own_cp z] = own_un (own_cp x) ++ own_us [own_cp y, own_cp z] from rfl, List.length_append, Int32.ofNat_add, ← own_k2 y z, (own_cpS x).2.2, Int32.add_assoc]
theorem own_ld_pre (mx : Int32) : ∀ (ps : List Int32) (t : Int32), ∃ r, ps = own_ld mx t ps ++ r
  | [], t => ⟨[], rfl⟩
  | p :: r, t => by
    by_cases h : mx < t + own_sz p
    · exact ⟨p :: r, by rw [show own_ld mx t (p :: r) = [] from if_pos h]; rfl⟩
    · obtain ⟨q, hq⟩ := own_ld_pre mx r (t + own_sz p)
      refine ⟨q, ?_⟩
      rw [show own_ld mx t (p :: r) = p :: own_ld mx (t + own_sz p) r from if_neg h]
      show p :: r = p :: (own_ld mx (t + own_sz p) r ++ q)
      rw [← hq]
theorem own_ps_V (c x y z : Int32) : ∀ p ∈ own_ps c (own_cp x) (own_cp y) (own_cp z), own_V p := by
  intro p hp
  have vx := (own_cpS x).1
  have vy := (own_cpS y).1
  have vz := (own_cpS z).1
  unfold own_ps at hp
  split at hp
  · cases hp
  · split at hp
    · cases List.mem_singleton.mp hp; exact vx
    · split at hp
      · rcases List.mem_cons.mp hp with rfl | hp
        · exact vx
        · cases List.mem_singleton.mp hp; exact vy
      · rcases List.mem_cons.mp hp with rfl | hp
        · exact vx
        · rcases List.mem_cons.mp hp with rfl | hp
          · exact vy
          · cases List.mem_singleton.mp hp; exact vz
theorem own_ps_len (c a b d : Int32) : (own_ps c a b d).length ≤ 3 := by
  unfold own_ps
  split
  · exact Nat.zero_le _
  · split
    · exact (by decide : 1 ≤ 3)
    · split
      · exact (by decide : 2 ≤ 3)
      · exact Nat.le_refl _
theorem own_Rps {cs : List Int32} {c x y z : Int32} (h : cs = own_us (own_ps c (own_cp x) (own_cp y) (own_cp z))) : own_R cs := by
  have l1 := own_us_len (own_ps c (own_cp x) (own_cp y) (own_cp z))
  have l2 := own_ps_len c (own_cp x) (own_cp y) (own_cp z)
  exact ⟨by rw [h]; omega, by rw [h]; exact own_us_R _ (own_ps_V c x y z)⟩
theorem own_kpre {cs ks ps : List Int32} {mx : Int32} (h : cs = own_us ps) (hk : ks = own_us (own_ld mx 0 ps)) : ks = cs.take ks.length ∧ ks.length ≤ cs.length := by
  obtain ⟨r, hr⟩ := own_ld_pre mx ps 0
  have e : cs = ks ++ own_us r := by rw [h, hk, ← own_us_app, ← hr]
  rw [e, List.take_left' rfl, List.length_append]
  exact ⟨rfl, by omega⟩
theorem own_isRef {Z : State} {args : Array Value} {t : Jvm.Term} (h : (Jvm.Cond.isRef t).value args Z none Z [] = some true) : ∃ v, t.eval args Z none [] Z = some v ∧ v.isRef = true := by
  simp only [Jvm.Cond.value] at h
  cases q : t.eval args Z none [] Z with
  | none => rw [q] at h; cases h
  | some v =>
    rw [q] at h
    refine ⟨v, rfl, ?_⟩
    cases v <;> first | rfl | exact absurd h (by simp)
def Q_rm0 (Z : State) (i0 i1 i2 i3 i4 : Int32) (h0 : Heap) (n0 : Nat) (zc : Int32) (sf : Value) : Option Value → Heap → List Loc → Prop := fun v h L => v = some (.int 1) ∧ Fr n0 L
set_option maxRecDepth 65536 in
set_option maxHeartbeats 40000000 in
theorem rm0 (l : Launch) (Z : State) (a0 : Array Value) (hw : ∀ d ∈ tables_1, d.before a0 Z = true) (ws : List Jvm.Cond) (i0 i1 i2 i3 i4 : Int32) (h0 : Heap) (n0 : Nat) (O : Old Z n0 h0) (zc : Int32) (S_cs : Sta Z Z.heap "java/lang/String" "COMPACT_STRINGS" "Z" (.int zc)) (hzc : ¬ zc = (0 : Int32)) (sf : Value) (hr_sf : sf.isRef = true) (S_sf : Sta Z Z.heap "jdk/internal/util/Preconditions" "SIOOBE_FORMATTER" "Ljava/util/function/BiFunction;" sf) (S_ad : Sta Z Z.heap "java/lang/StringUTF16" "$assertionsDisabled" "Z" (.int (1 : Int32))) (S_hi : Sta Z Z.heap "java/lang/StringUTF16" "HI_BYTE_SHIFT" "I" (.int (0 : Int32))) (S_lo : Sta Z Z.heap "java/lang/StringUTF16" "LO_BYTE_SHIFT" "I" (.int (8 : Int32))) (hEL : EW Z a0 [("java/lang/String", 7), ("java/lang/StringLatin1", 151), ("java/lang/StringUTF16", 295)]) (hHC : CHv Z [("java/lang/String", 7), ("java/lang/StringLatin1", 151), ("java/lang/StringUTF16", 295)] Z.vm Z.heap) :
    MetFree l x (head1 (Jvm.Cond.code x code maxLocals ret :: ws) room_1) (fun a U => a = #[(.int i0), (.int i1), (.int i2), (.int i3), (.int i4)] ∧ Z.Warmed39 U.vm ∧ U.heap = h0 ∧ U = Z) (fun _ _ _ _ _ => True) (fun _ U o U' => ∃ v L, o = .returned v ∧ (Q_rm0 Z i0 i1 i2 i3 i4 h0 n0 zc sf) v U'.heap L ∧ ReturnedEndW U o U' L 16 84) := by
  refine MetFree.of_bodySF (plainFor_of_name pn_7) hisR ?_
  intro p e s m args below meth c s₁ Bd hml0 hP hK
  obtain ⟨rfl, hZ, hh, hUZ⟩ := hP
  have hx := Bd.exec
  have hby := Bd.bytes
  have hml : c.maxLocals = 15 := hml0
  have hown : s.vm.findClass "com/example/lease/lease/core/InputsLeadingPinLaw" = some m.cls := findClass_of_methodNamed Bd.named
  have hnm := (name_of_methodNamed Bd.named Bd.method).1
  have hlk := BodyLoose.notSynchronized Bd
  have X0 : Stand p l e room_1 (s.setVm s.vm) m #[(.int i0), (.int i1), (.int i2), (.int i3), (.int i4)] below meth c s₁ [] 0 0 := Stand.of_body Bd
  have e0 : s₁.heap = h0 := by rw [← hh, Bd.state]; rfl
  have N := Fr.nil n0
  have O0 := O
  have hS : s.Since s.vm h0.size := (State.WarmedH.refl s).since _
  have hk := Nat.le_refl h0.size
  have HR : CHr Z [("java/lang/String", 7), ("java/lang/StringLatin1", 151), ("java/lang/StringUTF16", 295)] s.vm h0 s.vm h0 := CHr.refl (by rw [← hh, hUZ]; exact hHC)
  obtain ⟨G, hG⟩ : ∃ G : State → JFrame → Prop, G = OwnGW p e below s 16 84 (Q_rm0 Z i0 i1 i2 i3 i4 h0 n0 zc sf) := ⟨_, rfl⟩
  have gb : ∀ {T T' : State} {g g' : JFrame}, (∀ t, Steps p.tables e below (T'.setTop g') t → Steps p.tables e below (T.setTop g) t) → G T' g' → G T g := by subst hG; exact fun k h => own_byW k h
  have go : ∀ {T : State} {locs : List Loc} {cells slots : Nat} {g : JFrame} {v : Option Value} {vm : Vm} {k : Nat}, Stand p l e room_1 (s.setVm vm) m #[(.int i0), (.int i1), (.int i2), (.int i3), (.int i4)] below meth c T locs cells slots → s.Since vm k → k ≤ T.heap.size → (meth.sig.returnType = none → v = none) → (∀ fs, (∀ (f : JFrame) (acts : List Action), f.method = m → f.locked = none → f.entered = [] → (doReturn e (T.setTop f) acts v).1 = T.setFrames fs) → Steps p.tables e below (T.setTop g) (T.setFrames fs)) → (Q_rm0 Z i0 i1 i2 i3 i4 h0 n0 zc sf) v T.heap locs → cells ≤ 16 → slots ≤ 84 → G T g := by subst hG; exact fun X a b h1 h2 h3 h4 h5 => own_outW X a b hlk h1 h2 h3 h4 h5
  show OwnGW p e below s 16 84 (Q_rm0 Z i0 i1 i2 i3 i4 h0 n0 zc sf) s₁ (entryFrame m #[(.int i0), (.int i1), (.int i2), (.int i3), (.int i4)] maxLocals)
  rw [← hG, ef_rm0 m i0 i1 i2 i3 i4]
  clear hG
  show G s₁ (mkF m 0 #[.val (.int i0), .val (.int i1), .val (.int i2), .val (.int i3), .val (.int i4), .unset, .unset, .unset, .unset, .unset, .unset, .unset, .unset, .unset, .unset] [])
  refine gb (fun _ k => XS.iloadN X0.here hx rfl (hb hby at_0) rfl (XS.iconst X0.here hx rfl (hb hby at_1) (XS.iand X0.here hx rfl (hb hby at_2) rfl (XS.istore X0.here hx rfl (hb hby at_3) rfl (l' := #[iv i0, iv i1, iv i2, iv i3, iv i4, iv (i0 &&& (3 : Int32)), .unset, .unset, .unset, .unset, .unset, .unset, .unset, .unset, .unset]) rfl (XS.bipush X0.here hx rfl (hb hby at_5) k))))) ?_
  show G s₁ (mkF m 7 #[iv i0, iv i1, iv i2, iv i3, iv i4, iv (i0 &&& (3 : Int32)), .unset, .unset, .unset, .unset, .unset, .unset, .unset, .unset, .unset] [.int 6])
  obtain ⟨T1, h1, kA1, X1, e1, E1, A1, st1⟩ := newP X0 hx hZ (ow hw 0 rfl) e0 (g := (mkF m 7 #[iv i0, iv i1, iv i2, iv i3, iv i4, iv (i0 &&& (3 : Int32)), .unset, .unset, .unset, .unset, .unset, .unset, .unset, .unset, .unset] [.int 6])) rfl (hb hby at_7) rfl (by decide) (cap := 6) (by decide) (by decide) (by decide) (by decide)
  obtain ⟨b1, g1⟩ : ∃ z, z = h0.size := ⟨_, rfl⟩
  rw [← g1] at A1 st1
  have g_b1 : n0 ≤ b1 := Nat.le_trans (by have := O.2.1; rw [O.1] at this; exact this) (Nat.le_of_eq g1.symm)
  have HR := HR.trans (CHr.ext E1 HR.1)
  have O := O.ext E1
  have hk := Nat.le_trans hk E1.1
  have V_b1 : Arv Z h1 b1 kA1 .char (6 : Int32) [(.int (0 : Int32)), (.int (0 : Int32)), (.int (0 : Int32)), (.int (0 : Int32)), (.int (0 : Int32)), (.int (0 : Int32))] (.int (0 : Int32)) := (Arv.new A1 (by decide)).pad (pad_rep [] (.int (0 : Int32)) 6)
  refine gb st1 ?_
  show G T1 (mkF m 9 #[iv i0, iv i1, iv i2, iv i3, iv i4, iv (i0 &&& (3 : Int32)), .unset, .unset, .unset, .unset, .unset, .unset, .unset, .unset, .unset] [.ref b1])
  refine gb (fun _ k => XS.astore X1.here hx rfl (hb hby at_9) rfl rfl (l' := #[iv i0, iv i1, iv i2, iv i3, iv i4, iv (i0 &&& (3 : Int32)), rv b1, .unset, .unset, .unset, .unset, .unset, .unset, .unset, .unset]) rfl k) ?_
  show G T1 (mkF m 11 #[iv i0, iv i1, iv i2, iv i3, iv i4, iv (i0 &&& (3 : Int32)), rv b1, .unset, .unset, .unset, .unset, .unset, .unset, .unset, .unset] [])
  have V_b1 : Arv Z h1 b1 kA1 .char (6 : Int32) (([] : List Int32).map Value.int) (.int (0 : Int32)) := V_b1.pad (fun i => (pad_rep [] _ 6 i).symm)
  refine gb (fun _ k => XS.iconst X1.here hx rfl (hb hby at_11) (XS.istore X1.here hx rfl (hb hby at_12) rfl (l' := #[iv i0, iv i1, iv i2, iv i3, iv i4, iv (i0 &&& (3 : Int32)), rv b1, iv 0, .unset, .unset, .unset, .unset, .unset, .unset, .unset]) rfl k)) ?_
  show G T1 (mkF m 14 #[iv i0, iv i1, iv i2, iv i3, iv i4, iv (i0 &&& (3 : Int32)), rv b1, iv 0, .unset, .unset, .unset, .unset, .unset, .unset, .unset] [])
  have J2 : ∀ (T2 : State) (locs2 : List Loc) (h2 : Heap) (vm2 : Vm) (kn2 : Nat) (hS : s.Since vm2 kn2) (hk : kn2 ≤ h2.size) (hZ : Z.Warmed39 (s.setVm vm2).vm) (hown : (s.setVm vm2).vm.findClass "com/example/lease/lease/core/InputsLeadingPinLaw" = some m.cls) (X2 : Stand p l e room_1 (s.setVm vm2) m #[(.int i0), (.int i1), (.int i2), (.int i3), (.int i4)] below meth c T2 locs2 1 6) (N : Fr n0 locs2) (e2 : T2.heap = h2) (HR : CHr Z [("java/lang/String", 7), ("java/lang/StringLatin1", 151), ("java/lang/StringUTF16", 295)] s.vm h0 vm2 h2)  (O : Old Z n0 h2)  (cs : List Int32) (V_b1 : Arv Z h2 b1 kA1 .char (6 : Int32) (cs.map Value.int) (.int (0 : Int32))) (hcs : cs = own_us (own_ps (i0 &&& (3 : Int32)) (own_cp i1) (own_cp i2) (own_cp i3))), G T2 (mkF m 71 #[iv i0, iv i1, iv i2, iv i3, iv i4, iv (i0 &&& (3 : Int32)), rv b1, iv (Int32.ofNat cs.length), .unset, .unset, .unset, .unset, .unset, .unset, .unset] []) := by
    intro T2 locs2 h2 vm2 kn2 hS hk hZ hown X2 N e2 HR O cs V_b1 hcs
    have hR : own_R cs := own_Rps hcs
    have hr6 := hR.1
    show G T2 (mkF m 71 #[iv i0, iv i1, iv i2, iv i3, iv i4, iv (i0 &&& (3 : Int32)), rv b1, iv (Int32.ofNat cs.length), .unset, .unset, .unset, .unset, .unset, .unset, .unset] [])
    obtain ⟨T3, h3, X3, e3, E3, A3, D3, U3, st3⟩ := newO X2 hx hZ hown (ow hw 1 rfl) (ow hw 2 rfl) (ow hw 3 rfl) e2 (g := (mkF m 71 #[iv i0, iv i1, iv i2, iv i3, iv i4, iv (i0 &&& (3 : Int32)), rv b1, iv (Int32.ofNat cs.length), .unset, .unset, .unset, .unset, .unset, .unset, .unset] [])) rfl (hb hby at_71) (by decide) (by decide)
    obtain ⟨b3, g3⟩ : ∃ z, z = h2.size := ⟨_, rfl⟩
    rw [← g3] at A3 D3 U3 st3
    have g_b3 : n0 ≤ b3 := Nat.le_trans (by have := O.2.1; rw [O.1] at this; exact this) (Nat.le_of_eq g3.symm)
    have ne_b1_b3 : b1 ≠ b3 := Nat.ne_of_lt (Nat.lt_of_lt_of_le V_b1.lt (Nat.le_of_eq g3.symm))
    have Sf_b3 := Safe.ext E3 HR.1 (Safe.new (x := b3) (Nat.le_of_eq g3.symm))
    have HR := HR.trans (CHr.ext E3 HR.1)
    have V_b1 := V_b1.ext E3
    have O := O.ext E3
    have hk := Nat.le_trans hk E3.1
    have E_b3 := A3
    have F_value_b3 : Fld Z h3 b3 "java/lang/String" "value" "[B" .null := D3 (Or.inr (ow hw 20 rfl)) (ty := (.array .byte)) (by decide)
    have F_coder_b3 : Fld Z h3 b3 "java/lang/String" "coder" "B" (.int (0 : Int32)) := D3 (Or.inr (ow hw 21 rfl)) (ty := .byte) (by decide)
    refine gb st3 ?_
    show G T3 (mkF m 74 #[iv i0, iv i1, iv i2, iv i3, iv i4, iv (i0 &&& (3 : Int32)), rv b1, iv (Int32.ofNat cs.length), .unset, .unset, .unset, .unset, .unset, .unset, .unset] [.ref b3])
    refine gb (fun _ k => XS.dup X3.here hx rfl (hb hby at_74) rfl rfl (XS.aload X3.here hx rfl (hb hby at_75) rfl rfl (XS.iload X3.here hx rfl (hb hby at_77) rfl k))) ?_
    show G T3 (mkF m 79 #[iv i0, iv i1, iv i2, iv i3, iv i4, iv (i0 &&& (3 : Int32)), rv b1, iv (Int32.ofNat cs.length), .unset, .unset, .unset, .unset, .unset, .unset, .unset] [.int (Int32.ofNat cs.length), .ref b1, .ref b3, .ref b3])
    have lt_b1 := V_b1.lt
    have lt_b3 := E_b3.lt
    have Sk4 := sf0 (Z := Z) (EL := [("java/lang/String", 7), ("java/lang/StringLatin1", 151), ("java/lang/StringUTF16", 295)]) (vm := vm2) (h := h3)
    obtain ⟨_, _, ⟨T4, Lz4, kz4, nz4⟩, -, X4, ⟨Lc4, hQ4, lq4, yq4, zq4⟩, st4⟩ := Jvm.LawKit.callS X3 hx (y := (⟨"com/example/lease/lease/core/InputsLeadingPinLaw", "exact", "([CI)[C"⟩ : MethodName)) hown (mvT hZ (ow hw 4 rfl)) (mvT hZ (ow hw 5 rfl)) (mvT hZ (ow hw 6 rfl)) (mvT hZ (ow hw 7 rfl)) (by decide) (backOf (W := 2) (rmEX l Z a0 hw [] cs.length b1 kA1 cs h3 n0 O V_b1 (Nat.le_refl _) hr6 hR.2) hZ (ow hw 7 rfl) (ow hw 6 rfl) (by decide) (by decide)) (g := (mkF m 79 #[iv i0, iv i1, iv i2, iv i3, iv i4, iv (i0 &&& (3 : Int32)), rv b1, iv (Int32.ofNat cs.length), .unset, .unset, .unset, .unset, .unset, .unset, .unset] [.int (Int32.ofNat cs.length), .ref b1, .ref b3, .ref b3])) rfl (by rw [hml]; rfl) (argsL := [(.ref b1), (.int (Int32.ofNat cs.length))]) (rest := [(.ref b3), (.ref b3)]) (lenOf pd_29 rfl) rfl (by show 2 * 0 + _ ≤ _; exact Nat.le_of_eq rfl) (hb hby at_79) (fun _ _ => ⟨rfl, e3, (by decide : 2 + 1 ≤ _), (by decide : 10 + 6 ≤ _)⟩)
    dsimp only [Pt.U, Pt.locs, Pt.cells, Pt.slots] at X4 lq4 yq4 zq4 st4 hQ4
    subst lq4 yq4 zq4
    obtain ⟨h4, e4⟩ : ∃ z, z = T4.heap := ⟨_, rfl⟩
    rw [← e4] at hQ4
    replace e4 := e4.symm
    obtain ⟨b4, kb4, rfl, Nq4, Kq4, hR4⟩ := hQ4
    have N := Fr.app N Nq4
    have Sf_b3 := Safe.keep Kq4 Sk4 HR.1 Sf_b3
    have HR := HR.trans (CHr.keep Kq4 Sk4 HR.1)
    have V_b1 := V_b1.keep Kq4 nin0
    have E_b3 := E_b3.keep Kq4
    have F_value_b3 := F_value_b3.keep Kq4 nin0
    have F_coder_b3 := F_coder_b3.keep Kq4 nin0
    have hk := Nat.le_trans hk Kq4.1
    obtain ⟨g_b4, sz_b4, V_b4⟩ := hR4
    have O := O.keep Kq4 all0
    have ne_b1_b4 : b1 ≠ b4 := Nat.ne_of_lt (Nat.lt_of_lt_of_le lt_b1 sz_b4)
    have ne_b3_b4 : b3 ≠ b4 := Nat.ne_of_lt (Nat.lt_of_lt_of_le lt_b3 sz_b4)
    rw [List.take_length] at V_b4
    refine gb st4 ?_
    show G T4 (mkF m 82 #[iv i0, iv i1, iv i2, iv i3, iv i4, iv (i0 &&& (3 : Int32)), rv b1, iv (Int32.ofNat cs.length), .unset, .unset, .unset, .unset, .unset, .unset, .unset] [.ref b4, .ref b3, .ref b3])
    have lt_b1 := V_b1.lt
    have lt_b3 := E_b3.lt
    have lt_b4 := V_b4.lt
    have ltS_b3 := E_b3.lt
    obtain ⟨_, _, ⟨T5, Lz5, kz5, nz5⟩, -, X5, hS5, hg5, ⟨Lc5, hQ5, lq5, yq5, zq5, hC5⟩, st5⟩ := X4.specialBackS hx (y := (⟨"java/lang/String", "<init>", "([C)V"⟩ : MethodName)) rfl hown (mvT hZ (ow hw 8 rfl)) (mvT hZ (ow hw 9 rfl)) (mvT hZ (ow hw 10 rfl)) (by decide) (backOfSH (W := 1) (rmS1 l Z a0 hw [] b3 b4 kb4 cs h4 n0 O hEL S_ad S_hi S_lo E_b3 F_coder_b3 F_value_b3 g_b3 V_b4 (Ne.symm ne_b3_b4) hR zc S_cs hzc) hZ (ow hw 10 rfl) (ow hw 3 rfl) (by decide) (by decide) hEL HR.1) (g := (mkF m 82 #[iv i0, iv i1, iv i2, iv i3, iv i4, iv (i0 &&& (3 : Int32)), rv b1, iv (Int32.ofNat cs.length), .unset, .unset, .unset, .unset, .unset, .unset, .unset] [.ref b4, .ref b3, .ref b3])) rfl (by rw [hml]; rfl) (Steps.refl _) (a := b3) (argsL := [(.ref b4)]) (rest := [(.ref b3)]) (lenOf pd_30 rfl) rfl (by show 2 * 0 + _ ≤ _; exact Nat.le_of_eq rfl) (hb hby at_82) (fun _ _ => ⟨rfl, e4, (by decide : 3 + 4 ≤ _), (by decide : 16 + 18 ≤ _)⟩)
    dsimp only [Pt.U, Pt.locs, Pt.cells, Pt.slots] at X5 lq5 yq5 zq5 st5 hQ5 hS5 hg5 hC5
    subst lq5 yq5 zq5
    obtain ⟨X5, hS, hZ, hown⟩ := rebS hS (Nat.le_trans hk (Nat.le_of_eq (congrArg Array.size e4.symm))) X5 hS5 hg5 hZ hown
    obtain ⟨h5, e5⟩ : ∃ z, z = T5.heap := ⟨_, rfl⟩
    rw [← e5] at hQ5 hC5
    replace e5 := e5.symm
    obtain ⟨b5, kb5, rfl, Nq5, Kq5, hR5⟩ := hQ5
    have N := Fr.app N Nq5
    have Sf_b3 := hC5.safe ltS_b3 Sf_b3
    have HR := HR.trans hC5
    have V_b1 := V_b1.keep Kq5 (ninS ne_b1_b3 nin0)
    have E_b3 := E_b3.keep Kq5
    have V_b4 := V_b4.keep Kq5 (ninS (Ne.symm ne_b3_b4) nin0)
    have hk := Nat.le_trans hk Kq5.1
    have hk : T5.heap.size ≤ h5.size := by rw [e5]; exact Nat.le_refl _
    obtain ⟨E_b3, F_coder_b3, F_value_b3, V_b5⟩ := hR5
    have O := O.keep Kq5 (allS g_b3 all0)
    refine gb (fun _ k => st5.trans k) ?_
    show G T5 (mkF m 85 #[iv i0, iv i1, iv i2, iv i3, iv i4, iv (i0 &&& (3 : Int32)), rv b1, iv (Int32.ofNat cs.length), .unset, .unset, .unset, .unset, .unset, .unset, .unset] [.ref b3])
    refine gb (fun _ k => XS.astore X5.here hx rfl (hb hby at_85) rfl rfl (l' := #[iv i0, iv i1, iv i2, iv i3, iv i4, iv (i0 &&& (3 : Int32)), rv b1, iv (Int32.ofNat cs.length), rv b3, .unset, .unset, .unset, .unset, .unset, .unset]) rfl (XS.iloadN X5.here hx rfl (hb hby at_87) rfl k)) ?_
    show G T5 (mkF m 88 #[iv i0, iv i1, iv i2, iv i3, iv i4, iv (i0 &&& (3 : Int32)), rv b1, iv (Int32.ofNat cs.length), rv b3, .unset, .unset, .unset, .unset, .unset, .unset] [.int i1])
    obtain ⟨_, _, ⟨T6, Lz6, kz6, nz6⟩, -, X6, ⟨Lc6, hQ6, lq6, yq6, zq6⟩, st6⟩ := Jvm.LawKit.callS X5 hx (y := (⟨"com/example/lease/lease/core/InputsLeadingPinLaw", "size", "(I)I"⟩ : MethodName)) hown (mvT hZ (ow hw 26 rfl)) (mvT hZ (ow hw 27 rfl)) (mvT hZ (ow hw 6 rfl)) (mvT hZ (ow hw 28 rfl)) (by decide) (backOf (W := 0) (rmSZ l Z a0 hw [] i1 h5 n0 O) hZ (ow hw 28 rfl) (ow hw 6 rfl) (by decide) (by decide)) (g := (mkF m 88 #[iv i0, iv i1, iv i2, iv i3, iv i4, iv (i0 &&& (3 : Int32)), rv b1, iv (Int32.ofNat cs.length), rv b3, .unset, .unset, .unset, .unset, .unset, .unset] [.int i1])) rfl (by rw [hml]; rfl) (argsL := [(.int i1)]) (rest := []) (lenOf pd_0 rfl) rfl (by show 2 * 0 + _ ≤ _; exact Nat.le_of_eq rfl) (hb hby at_88) (fun _ _ => ⟨rfl, e5, (by decide : 7 + 0 ≤ _), (by decide : 34 + 0 ≤ _)⟩)
    dsimp only [Pt.U, Pt.locs, Pt.cells, Pt.slots] at X6 lq6 yq6 zq6 st6 hQ6
    subst lq6 yq6 zq6
    obtain ⟨rfl, rfl, e6⟩ := hQ6
    try rw [List.append_nil] at X6
    refine gb st6 ?_
    show G T6 (mkF m 91 #[iv i0, iv i1, iv i2, iv i3, iv i4, iv (i0 &&& (3 : Int32)), rv b1, iv (Int32.ofNat cs.length), rv b3, .unset, .unset, .unset, .unset, .unset, .unset] [.int ((i1 &&& (3 : Int32)) + (1 : Int32))])
    refine gb (fun _ k => XS.istore X6.here hx rfl (hb hby at_91) rfl (l' := #[iv i0, iv i1, iv i2, iv i3, iv i4, iv (i0 &&& (3 : Int32)), rv b1, iv (Int32.ofNat cs.length), rv b3, iv ((i1 &&& (3 : Int32)) + (1 : Int32)), .unset, .unset, .unset, .unset, .unset]) rfl (XS.iload X6.here hx rfl (hb hby at_93) rfl (XS.iloadN X6.here hx rfl (hb hby at_95) rfl k))) ?_
    show G T6 (mkF m 96 #[iv i0, iv i1, iv i2, iv i3, iv i4, iv (i0 &&& (3 : Int32)), rv b1, iv (Int32.ofNat cs.length), rv b3, iv ((i1 &&& (3 : Int32)) + (1 : Int32)), .unset, .unset, .unset, .unset, .unset] [.int i2, .int ((i1 &&& (3 : Int32)) + (1 : Int32))])
    obtain ⟨_, _, ⟨T7, Lz7, kz7, nz7⟩, -, X7, ⟨Lc7, hQ7, lq7, yq7, zq7⟩, st7⟩ := Jvm.LawKit.callS X6 hx (y := (⟨"com/example/lease/lease/core/InputsLeadingPinLaw", "size", "(I)I"⟩ : MethodName)) hown (mvT hZ (ow hw 26 rfl)) (mvT hZ (ow hw 27 rfl)) (mvT hZ (ow hw 6 rfl)) (mvT hZ (ow hw 28 rfl)) (by decide) (backOf (W := 1) (rmSZ l Z a0 hw [] i2 h5 n0 O) hZ (ow hw 28 rfl) (ow hw 6 rfl) (by decide) (by decide)) (g := (mkF m 96 #[iv i0, iv i1, iv i2, iv i3, iv i4, iv (i0 &&& (3 : Int32)), rv b1, iv (Int32.ofNat cs.length), rv b3, iv ((i1 &&& (3 : Int32)) + (1 : Int32)), .unset, .unset, .unset, .unset, .unset] [.int i2, .int ((i1 &&& (3 : Int32)) + (1 : Int32))])) rfl (by rw [hml]; rfl) (argsL := [(.int i2)]) (rest := [(.int ((i1 &&& (3 : Int32)) + (1 : Int32)))]) (lenOf pd_0 rfl) rfl (by show 2 * 0 + _ ≤ _; exact Nat.le_of_eq rfl) (hb hby at_96) (fun _ _ => ⟨rfl, e6, (by decide : 7 + 0 ≤ _), (by decide : 34 + 0 ≤ _)⟩)
    dsimp only [Pt.U, Pt.locs, Pt.cells, Pt.slots] at X7 lq7 yq7 zq7 st7 hQ7
    subst lq7 yq7 zq7
    obtain ⟨rfl, rfl, e7⟩ := hQ7
    try rw [List.append_nil] at X7
    refine gb st7 ?_
    show G T7 (mkF m 99 #[iv i0, iv i1, iv i2, iv i3, iv i4, iv (i0 &&& (3 : Int32)), rv b1, iv (Int32.ofNat cs.length), rv b3, iv ((i1 &&& (3 : Int32)) + (1 : Int32)), .unset, .unset, .unset, .unset, .unset] [.int ((i2 &&& (3 : Int32)) + (1 : Int32)), .int ((i1 &&& (3 : Int32)) + (1 : Int32))])
    refine gb (fun _ k => XS.iadd X7.here hx rfl (hb hby at_99) rfl (XS.istore X7.here hx rfl (hb hby at_100) rfl (l' := #[iv i0, iv i1, iv i2, iv i3, iv i4, iv (i0 &&& (3 : Int32)), rv b1, iv (Int32.ofNat cs.length), rv b3, iv ((i1 &&& (3 : Int32)) + (1 : Int32)), iv (((i1 &&& (3 : Int32)) + (1 : Int32)) + ((i2 &&& (3 : Int32)) + (1 : Int32))), .unset, .unset, .unset, .unset]) rfl (XS.iload X7.here hx rfl (hb hby at_102) rfl (XS.iloadN X7.here hx rfl (hb hby at_104) rfl k)))) ?_
    show G T7 (mkF m 105 #[iv i0, iv i1, iv i2, iv i3, iv i4, iv (i0 &&& (3 : Int32)), rv b1, iv (Int32.ofNat cs.length), rv b3, iv ((i1 &&& (3 : Int32)) + (1 : Int32)), iv (((i1 &&& (3 : Int32)) + (1 : Int32)) + ((i2 &&& (3 : Int32)) + (1 : Int32))), .unset, .unset, .unset, .unset] [.int i3, .int (((i1 &&& (3 : Int32)) + (1 : Int32)) + ((i2 &&& (3 : Int32)) + (1 : Int32)))])
    obtain ⟨_, _, ⟨T8, Lz8, kz8, nz8⟩, -, X8, ⟨Lc8, hQ8, lq8, yq8, zq8⟩, st8⟩ := Jvm.LawKit.callS X7 hx (y := (⟨"com/example/lease/lease/core/InputsLeadingPinLaw", "size", "(I)I"⟩ : MethodName)) hown (mvT hZ (ow hw 26 rfl)) (mvT hZ (ow hw 27 rfl)) (mvT hZ (ow hw 6 rfl)) (mvT hZ (ow hw 28 rfl)) (by decide) (backOf (W := 1) (rmSZ l Z a0 hw [] i3 h5 n0 O) hZ (ow hw 28 rfl) (ow hw 6 rfl) (by decide) (by decide)) (g := (mkF m 105 #[iv i0, iv i1, iv i2, iv i3, iv i4, iv (i0 &&& (3 : Int32)), rv b1, iv (Int32.ofNat cs.length), rv b3, iv ((i1 &&& (3 : Int32)) + (1 : Int32)), iv (((i1 &&& (3 : Int32)) + (1 : Int32)) + ((i2 &&& (3 : Int32)) + (1 : Int32))), .unset, .unset, .unset, .unset] [.int i3, .int (((i1 &&& (3 : Int32)) + (1 : Int32)) + ((i2 &&& (3 : Int32)) + (1 : Int32)))])) rfl (by rw [hml]; rfl) (argsL := [(.int i3)]) (rest := [(.int (((i1 &&& (3 : Int32)) + (1 : Int32)) + ((i2 &&& (3 : Int32)) + (1 : Int32))))]) (lenOf pd_0 rfl) rfl (by show 2 * 0 + _ ≤ _; exact Nat.le_of_eq rfl) (hb hby at_105) (fun _ _ => ⟨rfl, e7, (by decide : 7 + 0 ≤ _), (by decide : 34 + 0 ≤ _)⟩)
    dsimp only [Pt.U, Pt.locs, Pt.cells, Pt.slots] at X8 lq8 yq8 zq8 st8 hQ8
    subst lq8 yq8 zq8
    obtain ⟨rfl, rfl, e8⟩ := hQ8
    try rw [List.append_nil] at X8
    refine gb st8 ?_
    show G T8 (mkF m 108 #[iv i0, iv i1, iv i2, iv i3, iv i4, iv (i0 &&& (3 : Int32)), rv b1, iv (Int32.ofNat cs.length), rv b3, iv ((i1 &&& (3 : Int32)) + (1 : Int32)), iv (((i1 &&& (3 : Int32)) + (1 : Int32)) + ((i2 &&& (3 : Int32)) + (1 : Int32))), .unset, .unset, .unset, .unset] [.int ((i3 &&& (3 : Int32)) + (1 : Int32)), .int (((i1 &&& (3 : Int32)) + (1 : Int32)) + ((i2 &&& (3 : Int32)) + (1 : Int32)))])
    refine gb (fun _ k => XS.iadd X8.here hx rfl (hb hby at_108) rfl (XS.istore X8.here hx rfl (hb hby at_109) rfl (l' := #[iv i0, iv i1, iv i2, iv i3, iv i4, iv (i0 &&& (3 : Int32)), rv b1, iv (Int32.ofNat cs.length), rv b3, iv ((i1 &&& (3 : Int32)) + (1 : Int32)), iv (((i1 &&& (3 : Int32)) + (1 : Int32)) + ((i2 &&& (3 : Int32)) + (1 : Int32))), iv ((((i1 &&& (3 : Int32)) + (1 : Int32)) + ((i2 &&& (3 : Int32)) + (1 : Int32))) + ((i3 &&& (3 : Int32)) + (1 : Int32))), .unset, .unset, .unset]) rfl (XS.iconst X8.here hx rfl (hb hby at_111) (XS.istore X8.here hx rfl (hb hby at_112) rfl (l' := #[iv i0, iv i1, iv i2, iv i3, iv i4, iv (i0 &&& (3 : Int32)), rv b1, iv (Int32.ofNat cs.length), rv b3, iv ((i1 &&& (3 : Int32)) + (1 : Int32)), iv (((i1 &&& (3 : Int32)) + (1 : Int32)) + ((i2 &&& (3 : Int32)) + (1 : Int32))), iv ((((i1 &&& (3 : Int32)) + (1 : Int32)) + ((i2 &&& (3 : Int32)) + (1 : Int32))) + ((i3 &&& (3 : Int32)) + (1 : Int32))), iv 0, .unset, .unset]) rfl k)))) ?_
    show G T8 (mkF m 114 #[iv i0, iv i1, iv i2, iv i3, iv i4, iv (i0 &&& (3 : Int32)), rv b1, iv (Int32.ofNat cs.length), rv b3, iv ((i1 &&& (3 : Int32)) + (1 : Int32)), iv (((i1 &&& (3 : Int32)) + (1 : Int32)) + ((i2 &&& (3 : Int32)) + (1 : Int32))), iv ((((i1 &&& (3 : Int32)) + (1 : Int32)) + ((i2 &&& (3 : Int32)) + (1 : Int32))) + ((i3 &&& (3 : Int32)) + (1 : Int32))), iv 0, .unset, .unset] [])
    have J9 : ∀ (T9 : State) (locs9 : List Loc) (vm9 : Vm) (kn9 : Nat) (hS : s.Since vm9 kn9) (hk : kn9 ≤ h5.size) (hZ : Z.Warmed39 (s.setVm vm9).vm) (hown : (s.setVm vm9).vm.findClass "com/example/lease/lease/core/InputsLeadingPinLaw" = some m.cls) (X9 : Stand p l e room_1 (s.setVm vm9) m #[(.int i0), (.int i1), (.int i2), (.int i3), (.int i4)] below meth c T9 locs9 7 34) (N : Fr n0 locs9) (e9 : T9.heap = h5) (HR : CHr Z [("java/lang/String", 7), ("java/lang/StringLatin1", 151), ("java/lang/StringUTF16", 295)] s.vm h0 vm9 h5) (Sf_b3 : Safe Z [("java/lang/String", 7), ("java/lang/StringLatin1", 151), ("java/lang/StringUTF16", 295)] vm9 h5 b3)  (kp : Int32) (ks : List Int32) (hks : ks = own_us (own_ld i4 0 (own_ps (i0 &&& (3 : Int32)) (own_cp i1) (own_cp i2) (own_cp i3)))) (hkp : kp = (Int32.ofNat ks.length)), G T9 (mkF m 177 #[iv i0, iv i1, iv i2, iv i3, iv i4, iv (i0 &&& (3 : Int32)), rv b1, iv (Int32.ofNat cs.length), rv b3, iv ((i1 &&& (3 : Int32)) + (1 : Int32)), iv (((i1 &&& (3 : Int32)) + (1 : Int32)) + ((i2 &&& (3 : Int32)) + (1 : Int32))), iv ((((i1 &&& (3 : Int32)) + (1 : Int32)) + ((i2 &&& (3 : Int32)) + (1 : Int32))) + ((i3 &&& (3 : Int32)) + (1 : Int32))), iv kp, .unset, .unset] []) := by
      intro T9 locs9 vm9 kn9 hS hk hZ hown X9 N e9 HR Sf_b3 kp ks hks hkp
      subst hkp
      have hkpre := own_kpre hcs hks
      have hRk : own_R ks := by rw [hkpre.1]; exact own_Rt hR _
      show G T9 (mkF m 177 #[iv i0, iv i1, iv i2, iv i3, iv i4, iv (i0 &&& (3 : Int32)), rv b1, iv (Int32.ofNat cs.length), rv b3, iv ((i1 &&& (3 : Int32)) + (1 : Int32)), iv (((i1 &&& (3 : Int32)) + (1 : Int32)) + ((i2 &&& (3 : Int32)) + (1 : Int32))), iv ((((i1 &&& (3 : Int32)) + (1 : Int32)) + ((i2 &&& (3 : Int32)) + (1 : Int32))) + ((i3 &&& (3 : Int32)) + (1 : Int32))), iv (Int32.ofNat ks.length), .unset, .unset] [])
      obtain ⟨T10, h10, X10, e10, E10, A10, D10, U10, st10⟩ := newO X9 hx hZ hown (ow hw 1 rfl) (ow hw 2 rfl) (ow hw 3 rfl) e9 (g := (mkF m 177 #[iv i0, iv i1, iv i2, iv i3, iv i4, iv (i0 &&& (3 : Int32)), rv b1, iv (Int32.ofNat cs.length), rv b3, iv ((i1 &&& (3 : Int32)) + (1 : Int32)), iv (((i1 &&& (3 : Int32)) + (1 : Int32)) + ((i2 &&& (3 : Int32)) + (1 : Int32))), iv ((((i1 &&& (3 : Int32)) + (1 : Int32)) + ((i2 &&& (3 : Int32)) + (1 : Int32))) + ((i3 &&& (3 : Int32)) + (1 : Int32))), iv (Int32.ofNat ks.length), .unset, .unset] [])) rfl (hb hby at_177) (by decide) (by decide)
      obtain ⟨b10, g10⟩ : ∃ z, z = h5.size := ⟨_, rfl⟩
      rw [← g10] at A10 D10 U10 st10
      have g_b10 : n0 ≤ b10 := Nat.le_trans (by have := O.2.1; rw [O.1] at this; exact this) (Nat.le_of_eq g10.symm)
      have ne_b1_b10 : b1 ≠ b10 := Nat.ne_of_lt (Nat.lt_of_lt_of_le V_b1.lt (Nat.le_of_eq g10.symm))
      have ne_b4_b10 : b4 ≠ b10 := Nat.ne_of_lt (Nat.lt_of_lt_of_le V_b4.lt (Nat.le_of_eq g10.symm))
      have ne_b3_b10 : b3 ≠ b10 := Nat.ne_of_lt (Nat.lt_of_lt_of_le E_b3.lt (Nat.le_of_eq g10.symm))
      have ne_b5_b10 : b5 ≠ b10 := Nat.ne_of_lt (Nat.lt_of_lt_of_le V_b5.lt (Nat.le_of_eq g10.symm))
      have Sf_b10 := Safe.ext E10 HR.1 (Safe.new (x := b10) (Nat.le_of_eq g10.symm))
      have Sf_b3 := Safe.ext E10 HR.1 Sf_b3
      have HR := HR.trans (CHr.ext E10 HR.1)
      have V_b1 := V_b1.ext E10
      have V_b4 := V_b4.ext E10
      have E_b3 := E_b3.ext E10
      have F_coder_b3 := F_coder_b3.ext E10
      have F_value_b3 := F_value_b3.ext E10
      have V_b5 := V_b5.ext E10
      have O := O.ext E10
      have hk := Nat.le_trans hk E10.1
      have E_b10 := A10
      have F_value_b10 : Fld Z h10 b10 "java/lang/String" "value" "[B" .null := D10 (Or.inr (ow hw 20 rfl)) (ty := (.array .byte)) (by decide)
      have F_coder_b10 : Fld Z h10 b10 "java/lang/String" "coder" "B" (.int (0 : Int32)) := D10 (Or.inr (ow hw 21 rfl)) (ty := .byte) (by decide)
      refine gb st10 ?_
      show G T10 (mkF m 180 #[iv i0, iv i1, iv i2, iv i3, iv i4, iv (i0 &&& (3 : Int32)), rv b1, iv (Int32.ofNat cs.length), rv b3, iv ((i1 &&& (3 : Int32)) + (1 : Int32)), iv (((i1 &&& (3 : Int32)) + (1 : Int32)) + ((i2 &&& (3 : Int32)) + (1 : Int32))), iv ((((i1 &&& (3 : Int32)) + (1 : Int32)) + ((i2 &&& (3 : Int32)) + (1 : Int32))) + ((i3 &&& (3 : Int32)) + (1 : Int32))), iv (Int32.ofNat ks.length), .unset, .unset] [.ref b10])
      refine gb (fun _ k => XS.dup X10.here hx rfl (hb hby at_180) rfl rfl (XS.aload X10.here hx rfl (hb hby at_181) rfl rfl (XS.iload X10.here hx rfl (hb hby at_183) rfl k))) ?_
      show G T10 (mkF m 185 #[iv i0, iv i1, iv i2, iv i3, iv i4, iv (i0 &&& (3 : Int32)), rv b1, iv (Int32.ofNat cs.length), rv b3, iv ((i1 &&& (3 : Int32)) + (1 : Int32)), iv (((i1 &&& (3 : Int32)) + (1 : Int32)) + ((i2 &&& (3 : Int32)) + (1 : Int32))), iv ((((i1 &&& (3 : Int32)) + (1 : Int32)) + ((i2 &&& (3 : Int32)) + (1 : Int32))) + ((i3 &&& (3 : Int32)) + (1 : Int32))), iv (Int32.ofNat ks.length), .unset, .unset] [.int (Int32.ofNat ks.length), .ref b1, .ref b10, .ref b10])
      have lt_b1 := V_b1.lt
      have lt_b4 := V_b4.lt
      have lt_b3 := E_b3.lt
      have lt_b5 := V_b5.lt
      have lt_b10 := E_b10.lt
      have Sk11 := sf0 (Z := Z) (EL := [("java/lang/String", 7), ("java/lang/StringLatin1", 151), ("java/lang/StringUTF16", 295)]) (vm := vm9) (h := h10)
      obtain ⟨_, _, ⟨T11, Lz11, kz11, nz11⟩, -, X11, ⟨Lc11, hQ11, lq11, yq11, zq11⟩, st11⟩ := Jvm.LawKit.callS X10 hx (y := (⟨"com/example/lease/lease/core/InputsLeadingPinLaw", "exact", "([CI)[C"⟩ : MethodName)) hown (mvT hZ (ow hw 4 rfl)) (mvT hZ (ow hw 5 rfl)) (mvT hZ (ow hw 6 rfl)) (mvT hZ (ow hw 7 rfl)) (by decide) (backOf (W := 2) (rmEX l Z a0 hw [] ks.length b1 kA1 cs h10 n0 O V_b1 hkpre.2 hr6 hR.2) hZ (ow hw 7 rfl) (ow hw 6 rfl) (by decide) (by decide)) (g := (mkF m 185 #[iv i0, iv i1, iv i2, iv i3, iv i4, iv (i0 &&& (3 : Int32)), rv b1, iv (Int32.ofNat cs.length), rv b3, iv ((i1 &&& (3 : Int32)) + (1 : Int32)), iv (((i1 &&& (3 : Int32)) + (1 : Int32)) + ((i2 &&& (3 : Int32)) + (1 : Int32))), iv ((((i1 &&& (3 : Int32)) + (1 : Int32)) + ((i2 &&& (3 : Int32)) + (1 : Int32))) + ((i3 &&& (3 : Int32)) + (1 : Int32))), iv (Int32.ofNat ks.length), .unset, .unset] [.int (Int32.ofNat ks.length), .ref b1, .ref b10, .ref b10])) rfl (by rw [hml]; rfl) (argsL := [(.ref b1), (.int (Int32.ofNat ks.length))]) (rest := [(.ref b10), (.ref b10)]) (lenOf pd_29 rfl) rfl (by show 2 * 0 + _ ≤ _; exact Nat.le_of_eq rfl) (hb hby at_185) (fun _ _ => ⟨rfl, e10, (by decide : 8 + 1 ≤ _), (by decide : 38 + 6 ≤ _)⟩)
      dsimp only [Pt.U, Pt.locs, Pt.cells, Pt.slots] at X11 lq11 yq11 zq11 st11 hQ11
      subst lq11 yq11 zq11
      obtain ⟨h11, e11⟩ : ∃ z, z = T11.heap := ⟨_, rfl⟩
      rw [← e11] at hQ11
      replace e11 := e11.symm
      obtain ⟨b11, kb11, rfl, Nq11, Kq11, hR11⟩ := hQ11
      have N := Fr.app N Nq11
      have Sf_b3 := Safe.keep Kq11 Sk11 HR.1 Sf_b3
      have Sf_b10 := Safe.keep Kq11 Sk11 HR.1 Sf_b10
      have HR := HR.trans (CHr.keep Kq11 Sk11 HR.1)
      have V_b1 := V_b1.keep Kq11 nin0
      have V_b4 := V_b4.keep Kq11 nin0
      have E_b3 := E_b3.keep Kq11
      have F_coder_b3 := F_coder_b3.keep Kq11 nin0
      have F_value_b3 := F_value_b3.keep Kq11 nin0
      have V_b5 := V_b5.keep Kq11 nin0
      have E_b10 := E_b10.keep Kq11
      have F_value_b10 := F_value_b10.keep Kq11 nin0
      have F_coder_b10 := F_coder_b10.keep Kq11 nin0
      have hk := Nat.le_trans hk Kq11.1
      obtain ⟨g_b11, sz_b11, V_b11⟩ := hR11
      have O := O.keep Kq11 all0
      have ne_b1_b11 : b1 ≠ b11 := Nat.ne_of_lt (Nat.lt_of_lt_of_le lt_b1 sz_b11)
      have ne_b4_b11 : b4 ≠ b11 := Nat.ne_of_lt (Nat.lt_of_lt_of_le lt_b4 sz_b11)
      have ne_b3_b11 : b3 ≠ b11 := Nat.ne_of_lt (Nat.lt_of_lt_of_le lt_b3 sz_b11)
      have ne_b5_b11 : b5 ≠ b11 := Nat.ne_of_lt (Nat.lt_of_lt_of_le lt_b5 sz_b11)
      have ne_b10_b11 : b10 ≠ b11 := Nat.ne_of_lt (Nat.lt_of_lt_of_le lt_b10 sz_b11)
      rw [← hkpre.1] at V_b11
      refine gb st11 ?_
      show G T11 (mkF m 188 #[iv i0, iv i1, iv i2, iv i3, iv i4, iv (i0 &&& (3 : Int32)), rv b1, iv (Int32.ofNat cs.length), rv b3, iv ((i1 &&& (3 : Int32)) + (1 : Int32)), iv (((i1 &&& (3 : Int32)) + (1 : Int32)) + ((i2 &&& (3 : Int32)) + (1 : Int32))), iv ((((i1 &&& (3 : Int32)) + (1 : Int32)) + ((i2 &&& (3 : Int32)) + (1 : Int32))) + ((i3 &&& (3 : Int32)) + (1 : Int32))), iv (Int32.ofNat ks.length), .unset, .unset] [.ref b11, .ref b10, .ref b10])
      have lt_b1 := V_b1.lt
      have lt_b4 := V_b4.lt
      have lt_b3 := E_b3.lt
      have lt_b5 := V_b5.lt
      have lt_b10 := E_b10.lt
      have lt_b11 := V_b11.lt
      have ltS_b3 := E_b3.lt
      have ltS_b10 := E_b10.lt
      obtain ⟨_, _, ⟨T12, Lz12, kz12, nz12⟩, -, X12, hS12, hg12, ⟨Lc12, hQ12, lq12, yq12, zq12, hC12⟩, st12⟩ := X11.specialBackS hx (y := (⟨"java/lang/String", "<init>", "([C)V"⟩ : MethodName)) rfl hown (mvT hZ (ow hw 8 rfl)) (mvT hZ (ow hw 9 rfl)) (mvT hZ (ow hw 10 rfl)) (by decide) (backOfSH (W := 1) (rmS1 l Z a0 hw [] b10 b11 kb11 ks h11 n0 O hEL S_ad S_hi S_lo E_b10 F_coder_b10 F_value_b10 g_b10 V_b11 (Ne.symm ne_b10_b11) hRk zc S_cs hzc) hZ (ow hw 10 rfl) (ow hw 3 rfl) (by decide) (by decide) hEL HR.1) (g := (mkF m 188 #[iv i0, iv i1, iv i2, iv i3, iv i4, iv (i0 &&& (3 : Int32)), rv b1, iv (Int32.ofNat cs.length), rv b3, iv ((i1 &&& (3 : Int32)) + (1 : Int32)), iv (((i1 &&& (3 : Int32)) + (1 : Int32)) + ((i2 &&& (3 : Int32)) + (1 : Int32))), iv ((((i1 &&& (3 : Int32)) + (1 : Int32)) + ((i2 &&& (3 : Int32)) + (1 : Int32))) + ((i3 &&& (3 : Int32)) + (1 : Int32))), iv (Int32.ofNat ks.length), .unset, .unset] [.ref b11, .ref b10, .ref b10])) rfl (by rw [hml]; rfl) (Steps.refl _) (a := b10) (argsL := [(.ref b11)]) (rest := [(.ref b10)]) (lenOf pd_30 rfl) rfl (by show 2 * 0 + _ ≤ _; exact Nat.le_of_eq rfl) (hb hby at_188) (fun _ _ => ⟨rfl, e11, (by decide : 9 + 4 ≤ _), (by decide : 44 + 18 ≤ _)⟩)
      dsimp only [Pt.U, Pt.locs, Pt.cells, Pt.slots] at X12 lq12 yq12 zq12 st12 hQ12 hS12 hg12 hC12
      subst lq12 yq12 zq12
      obtain ⟨X12, hS, hZ, hown⟩ := rebS hS (Nat.le_trans hk (Nat.le_of_eq (congrArg Array.size e11.symm))) X12 hS12 hg12 hZ hown
      obtain ⟨h12, e12⟩ : ∃ z, z = T12.heap := ⟨_, rfl⟩
      rw [← e12] at hQ12 hC12
      replace e12 := e12.symm
      obtain ⟨b12, kb12, rfl, Nq12, Kq12, hR12⟩ := hQ12
      have N := Fr.app N Nq12
      have Sf_b3 := hC12.safe ltS_b3 Sf_b3
      have Sf_b10 := hC12.safe ltS_b10 Sf_b10
      have HR := HR.trans hC12
      have V_b1 := V_b1.keep Kq12 (ninS ne_b1_b10 nin0)
      have V_b4 := V_b4.keep Kq12 (ninS ne_b4_b10 nin0)
      have E_b3 := E_b3.keep Kq12
      have F_coder_b3 := F_coder_b3.keep Kq12 (ninS ne_b3_b10 nin0)
      have F_value_b3 := F_value_b3.keep Kq12 (ninS ne_b3_b10 nin0)
      have V_b5 := V_b5.keep Kq12 (ninS ne_b5_b10 nin0)
      have E_b10 := E_b10.keep Kq12
      have V_b11 := V_b11.keep Kq12 (ninS (Ne.symm ne_b10_b11) nin0)
      have hk := Nat.le_trans hk Kq12.1
      have hk : T12.heap.size ≤ h12.size := by rw [e12]; exact Nat.le_refl _
      obtain ⟨E_b10, F_coder_b10, F_value_b10, V_b12⟩ := hR12
      have O := O.keep Kq12 (allS g_b10 all0)
      refine gb (fun _ k => st12.trans k) ?_
      show G T12 (mkF m 191 #[iv i0, iv i1, iv i2, iv i3, iv i4, iv (i0 &&& (3 : Int32)), rv b1, iv (Int32.ofNat cs.length), rv b3, iv ((i1 &&& (3 : Int32)) + (1 : Int32)), iv (((i1 &&& (3 : Int32)) + (1 : Int32)) + ((i2 &&& (3 : Int32)) + (1 : Int32))), iv ((((i1 &&& (3 : Int32)) + (1 : Int32)) + ((i2 &&& (3 : Int32)) + (1 : Int32))) + ((i3 &&& (3 : Int32)) + (1 : Int32))), iv (Int32.ofNat ks.length), .unset, .unset] [.ref b10])
      refine gb (fun _ k => XS.astore X12.here hx rfl (hb hby at_191) rfl rfl (l' := #[iv i0, iv i1, iv i2, iv i3, iv i4, iv (i0 &&& (3 : Int32)), rv b1, iv (Int32.ofNat cs.length), rv b3, iv ((i1 &&& (3 : Int32)) + (1 : Int32)), iv (((i1 &&& (3 : Int32)) + (1 : Int32)) + ((i2 &&& (3 : Int32)) + (1 : Int32))), iv ((((i1 &&& (3 : Int32)) + (1 : Int32)) + ((i2 &&& (3 : Int32)) + (1 : Int32))) + ((i3 &&& (3 : Int32)) + (1 : Int32))), iv (Int32.ofNat ks.length), rv b10, .unset]) rfl (XS.aload X12.here hx rfl (hb hby at_193) rfl rfl (XS.iload X12.here hx rfl (hb hby at_195) rfl k))) ?_
      show G T12 (mkF m 197 #[iv i0, iv i1, iv i2, iv i3, iv i4, iv (i0 &&& (3 : Int32)), rv b1, iv (Int32.ofNat cs.length), rv b3, iv ((i1 &&& (3 : Int32)) + (1 : Int32)), iv (((i1 &&& (3 : Int32)) + (1 : Int32)) + ((i2 &&& (3 : Int32)) + (1 : Int32))), iv ((((i1 &&& (3 : Int32)) + (1 : Int32)) + ((i2 &&& (3 : Int32)) + (1 : Int32))) + ((i3 &&& (3 : Int32)) + (1 : Int32))), iv (Int32.ofNat ks.length), rv b10, .unset] [.int i4, .ref b3])
      have lt_b1 := V_b1.lt
      have lt_b4 := V_b4.lt
      have lt_b3 := E_b3.lt
      have lt_b5 := V_b5.lt
      have lt_b11 := V_b11.lt
      have lt_b10 := E_b10.lt
      have lt_b12 := V_b12.lt
      have ltS_b3 := E_b3.lt
      have ltS_b10 := E_b10.lt
      obtain ⟨_, _, ⟨T13, Lz13, kz13, nz13⟩, -, X13, hS13, hg13, ⟨Lc13, hQ13, lq13, yq13, zq13, hC13⟩, st13⟩ := callSS X12 hx (y := (⟨"com/example/lease/lease/core/Inputs", "leading", "(Ljava/lang/String;I)Ljava/lang/String;"⟩ : MethodName)) hown (mvT hZ (ow hw 29 rfl)) (mvT hZ (ow hw 30 rfl)) (mvT hZ (ow hw 31 rfl)) (mvT hZ (ow hw 32 rfl)) (by decide) (backOfSH (W := 0) (rmLD l Z a0 hw [] b3 b5 kb5 ks cs (own_ps (i0 &&& (3 : Int32)) (own_cp i1) (own_cp i2) (own_cp i3)) i4 h12 n0 O hEL S_ad S_hi S_lo sf hr_sf S_sf E_b3 F_coder_b3 F_value_b3 V_b5 zc S_cs hzc hcs (own_ps_V _ _ _ _) hR hks) hZ (ow hw 32 rfl) (ow hw 31 rfl) (by decide) (by decide) hEL HR.1) (g := (mkF m 197 #[iv i0, iv i1, iv i2, iv i3, iv i4, iv (i0 &&& (3 : Int32)), rv b1, iv (Int32.ofNat cs.length), rv b3, iv ((i1 &&& (3 : Int32)) + (1 : Int32)), iv (((i1 &&& (3 : Int32)) + (1 : Int32)) + ((i2 &&& (3 : Int32)) + (1 : Int32))), iv ((((i1 &&& (3 : Int32)) + (1 : Int32)) + ((i2 &&& (3 : Int32)) + (1 : Int32))) + ((i3 &&& (3 : Int32)) + (1 : Int32))), iv (Int32.ofNat ks.length), rv b10, .unset] [.int i4, .ref b3])) rfl (by rw [hml]; rfl) (argsL := [(.ref b3), (.int i4)]) (rest := []) (lenOf pd_31 rfl) rfl (by show 2 * 0 + _ ≤ _; exact Nat.le_of_eq rfl) (hb hby at_197) (fun _ _ => ⟨rfl, e12, (by decide : 13 + 3 ≤ _), (by decide : 62 + 22 ≤ _)⟩)
      dsimp only [Pt.U, Pt.locs, Pt.cells, Pt.slots] at X13 lq13 yq13 zq13 st13 hQ13 hS13 hg13 hC13
      subst lq13 yq13 zq13
      obtain ⟨X13, hS, hZ, hown⟩ := rebS hS (Nat.le_trans hk (Nat.le_of_eq (congrArg Array.size e12.symm))) X13 hS13 hg13 hZ hown
      obtain ⟨h13, e13⟩ : ∃ z, z = T13.heap := ⟨_, rfl⟩
      rw [← e13] at hQ13 hC13
      replace e13 := e13.symm
      obtain ⟨x13, b13, kb13, rfl, Nq13, Kq13, hR13⟩ := hQ13
      have N := Fr.app N Nq13
      have Sf_b3 := hC13.safe ltS_b3 Sf_b3
      have Sf_b10 := hC13.safe ltS_b10 Sf_b10
      have HR := HR.trans hC13
      have V_b1 := V_b1.keep Kq13 nin0
      have V_b4 := V_b4.keep Kq13 nin0
      have E_b3 := E_b3.keep Kq13
      have F_coder_b3 := F_coder_b3.keep Kq13 nin0
      have F_value_b3 := F_value_b3.keep Kq13 nin0
      have V_b5 := V_b5.keep Kq13 nin0
      have V_b11 := V_b11.keep Kq13 nin0
      have E_b10 := E_b10.keep Kq13
      have F_coder_b10 := F_coder_b10.keep Kq13 nin0
      have F_value_b10 := F_value_b10.keep Kq13 nin0
      have V_b12 := V_b12.keep Kq13 nin0
      have hk := Nat.le_trans hk Kq13.1
      have hk : T13.heap.size ≤ h13.size := by rw [e13]; exact Nat.le_refl _
      obtain ⟨E_x13, F_coder_x13, F_value_x13, V_b13⟩ := hR13
      have O := O.keep Kq13 all0
      refine gb (fun _ k => st13.trans k) ?_
      show G T13 (mkF m 200 #[iv i0, iv i1, iv i2, iv i3, iv i4, iv (i0 &&& (3 : Int32)), rv b1, iv (Int32.ofNat cs.length), rv b3, iv ((i1 &&& (3 : Int32)) + (1 : Int32)), iv (((i1 &&& (3 : Int32)) + (1 : Int32)) + ((i2 &&& (3 : Int32)) + (1 : Int32))), iv ((((i1 &&& (3 : Int32)) + (1 : Int32)) + ((i2 &&& (3 : Int32)) + (1 : Int32))) + ((i3 &&& (3 : Int32)) + (1 : Int32))), iv (Int32.ofNat ks.length), rv b10, .unset] [.ref x13])
      refine gb (fun _ k => XS.astore X13.here hx rfl (hb hby at_200) rfl rfl (l' := #[iv i0, iv i1, iv i2, iv i3, iv i4, iv (i0 &&& (3 : Int32)), rv b1, iv (Int32.ofNat cs.length), rv b3, iv ((i1 &&& (3 : Int32)) + (1 : Int32)), iv (((i1 &&& (3 : Int32)) + (1 : Int32)) + ((i2 &&& (3 : Int32)) + (1 : Int32))), iv ((((i1 &&& (3 : Int32)) + (1 : Int32)) + ((i2 &&& (3 : Int32)) + (1 : Int32))) + ((i3 &&& (3 : Int32)) + (1 : Int32))), iv (Int32.ofNat ks.length), rv b10, rv x13]) rfl (XS.aload X13.here hx rfl (hb hby at_202) rfl rfl (XS.aload X13.here hx rfl (hb hby at_204) rfl rfl k))) ?_
      show G T13 (mkF m 206 #[iv i0, iv i1, iv i2, iv i3, iv i4, iv (i0 &&& (3 : Int32)), rv b1, iv (Int32.ofNat cs.length), rv b3, iv ((i1 &&& (3 : Int32)) + (1 : Int32)), iv (((i1 &&& (3 : Int32)) + (1 : Int32)) + ((i2 &&& (3 : Int32)) + (1 : Int32))), iv ((((i1 &&& (3 : Int32)) + (1 : Int32)) + ((i2 &&& (3 : Int32)) + (1 : Int32))) + ((i3 &&& (3 : Int32)) + (1 : Int32))), iv (Int32.ofNat ks.length), rv b10, rv x13] [.ref b10, .ref x13])
      obtain ⟨cq14, kq14, q14a, q14b, q14c⟩ := isOf hZ e13 E_x13
      obtain ⟨_, _, ⟨T14, Lz14, kz14, nz14⟩, -, X14, ⟨Lc14, hQ14, lq14, yq14, zq14⟩, st14⟩ := X13.virtualBack hx (y := (⟨"java/lang/String", "equals", "(Ljava/lang/Object;)Z"⟩ : MethodName)) (z := (⟨"java/lang/String", "equals", "(Ljava/lang/Object;)Z"⟩ : MethodName)) hown (mvT hZ (ow hw 58 rfl)) (mvT hZ (ow hw 59 rfl)) (notFace_of_selects (args := #[]) (mvT hZ (ow hw 61 rfl))) (mvT hZ (ow hw 61 rfl)) (mvT hZ (ow hw 60 rfl)) (by decide) (backOf (W := 0) (rmEQ l Z a0 hw [] x13 b13 b10 b12 kb13 kb12 ks h13 n0 O E_x13 F_coder_x13 F_value_x13 V_b13 E_b10 F_coder_b10 F_value_b10 V_b12 zc S_cs hzc hRk) hZ (ow hw 62 rfl) (ow hw 3 rfl) (by decide) (by decide)) q14a q14c (g := (mkF m 206 #[iv i0, iv i1, iv i2, iv i3, iv i4, iv (i0 &&& (3 : Int32)), rv b1, iv (Int32.ofNat cs.length), rv b3, iv ((i1 &&& (3 : Int32)) + (1 : Int32)), iv (((i1 &&& (3 : Int32)) + (1 : Int32)) + ((i2 &&& (3 : Int32)) + (1 : Int32))), iv ((((i1 &&& (3 : Int32)) + (1 : Int32)) + ((i2 &&& (3 : Int32)) + (1 : Int32))) + ((i3 &&& (3 : Int32)) + (1 : Int32))), iv (Int32.ofNat ks.length), rv b10, rv x13] [.ref b10, .ref x13])) rfl (by rw [hml]; rfl) (Steps.refl _) (argsL := [(.ref b10)]) (rest := []) (lenOf pd_32 rfl) rfl (by show 2 * 0 + _ ≤ _; exact Nat.le_of_eq rfl) (hb hby at_206) (fun _ _ => ⟨rfl, e13, (by decide : 16 + 0 ≤ _), (by decide : 84 + 0 ≤ _)⟩)
      dsimp only [Pt.U, Pt.locs, Pt.cells, Pt.slots] at X14 lq14 yq14 zq14 st14 hQ14
      subst lq14 yq14 zq14
      obtain ⟨rfl, rfl, e14⟩ := hQ14
      try rw [List.append_nil] at X14
      refine gb (fun _ k => st14.trans k) ?_
      show G T14 (mkF m 209 #[iv i0, iv i1, iv i2, iv i3, iv i4, iv (i0 &&& (3 : Int32)), rv b1, iv (Int32.ofNat cs.length), rv b3, iv ((i1 &&& (3 : Int32)) + (1 : Int32)), iv (((i1 &&& (3 : Int32)) + (1 : Int32)) + ((i2 &&& (3 : Int32)) + (1 : Int32))), iv ((((i1 &&& (3 : Int32)) + (1 : Int32)) + ((i2 &&& (3 : Int32)) + (1 : Int32))) + ((i3 &&& (3 : Int32)) + (1 : Int32))), iv (Int32.ofNat ks.length), rv b10, rv x13] [.int 1])
      exact go X14 hS (Nat.le_trans hk (Nat.le_of_eq (congrArg Array.size e14.symm))) (v := (some (.int (1 : Int32)))) (fun h => by rw [Bd.returns] at h; cases h) (fun fs hr => retOut X14 hx Bd.returns rfl (Or.inl ⟨rfl, by simp, _, rfl⟩) (hb hby at_209) hr) (⟨rfl, N⟩) (by decide) (by decide)
    refine gb (fun _ k => XS.iload X8.here hx rfl (hb hby at_114) rfl (XS.iconst X8.here hx rfl (hb hby at_116) k)) ?_
    show G T8 (mkF m 117 #[iv i0, iv i1, iv i2, iv i3, iv i4, iv (i0 &&& (3 : Int32)), rv b1, iv (Int32.ofNat cs.length), rv b3, iv ((i1 &&& (3 : Int32)) + (1 : Int32)), iv (((i1 &&& (3 : Int32)) + (1 : Int32)) + ((i2 &&& (3 : Int32)) + (1 : Int32))), iv ((((i1 &&& (3 : Int32)) + (1 : Int32)) + ((i2 &&& (3 : Int32)) + (1 : Int32))) + ((i3 &&& (3 : Int32)) + (1 : Int32))), iv 0, .unset, .unset] [.int 1, .int (i0 &&& (3 : Int32))])
    by_cases hc117 : (i0 &&& (3 : Int32)) < (1 : Int32)
    · skip
      refine gb (fun _ k => XS.icmpYes X8.here hx rfl (pc0 := 117) (pc' := 133) rfl (hb hby at_117) rfl (tlt hc117).1 (by decide) (by decide) (XS.iload X8.here hx rfl (hb hby at_133) rfl (XS.iconst X8.here hx rfl (hb hby at_135) (XS.icmpYes X8.here hx rfl (pc0 := 136) (pc' := 155) rfl (hb hby at_136) rfl (tlt (own_c12 hc117)).1 (by decide) (by decide) (XS.iload X8.here hx rfl (hb hby at_155) rfl (XS.iconst X8.here hx rfl (hb hby at_157) k)))))) ?_
      show G T8 (mkF m 158 #[iv i0, iv i1, iv i2, iv i3, iv i4, iv (i0 &&& (3 : Int32)), rv b1, iv (Int32.ofNat cs.length), rv b3, iv ((i1 &&& (3 : Int32)) + (1 : Int32)), iv (((i1 &&& (3 : Int32)) + (1 : Int32)) + ((i2 &&& (3 : Int32)) + (1 : Int32))), iv ((((i1 &&& (3 : Int32)) + (1 : Int32)) + ((i2 &&& (3 : Int32)) + (1 : Int32))) + ((i3 &&& (3 : Int32)) + (1 : Int32))), iv 0, .unset, .unset] [.int 3, .int (i0 &&& (3 : Int32))])
      refine gb (fun _ k => XS.icmpYes X8.here hx rfl (pc0 := 158) (pc' := 177) rfl (hb hby at_158) rfl (tlt (own_c23 (own_c12 hc117))).1 (by decide) (by decide) k) ?_
      show G T8 (mkF m 177 #[iv i0, iv i1, iv i2, iv i3, iv i4, iv (i0 &&& (3 : Int32)), rv b1, iv (Int32.ofNat cs.length), rv b3, iv ((i1 &&& (3 : Int32)) + (1 : Int32)), iv (((i1 &&& (3 : Int32)) + (1 : Int32)) + ((i2 &&& (3 : Int32)) + (1 : Int32))), iv ((((i1 &&& (3 : Int32)) + (1 : Int32)) + ((i2 &&& (3 : Int32)) + (1 : Int32))) + ((i3 &&& (3 : Int32)) + (1 : Int32))), iv 0, .unset, .unset] [])
      exact J9 _ _ _ _ hS hk hZ hown X8 N e8 HR Sf_b3 ((0 : Int32)) ((own_us ([] : List Int32))) (by unfold own_ps; rw [if_pos hc117]; simp only [own_ld, (own_cpS i1).2.1, (own_cpS i2).2.1, (own_cpS i3).2.1, own_0add]) (rfl)
    · skip
      refine gb (fun _ k => XS.icmpNo X8.here hx rfl (hb hby at_117) rfl (flt hc117).1 (XS.iload X8.here hx rfl (hb hby at_120) rfl (XS.iload X8.here hx rfl (hb hby at_122) rfl k))) ?_
      show G T8 (mkF m 124 #[iv i0, iv i1, iv i2, iv i3, iv i4, iv (i0 &&& (3 : Int32)), rv b1, iv (Int32.ofNat cs.length), rv b3, iv ((i1 &&& (3 : Int32)) + (1 : Int32)), iv (((i1 &&& (3 : Int32)) + (1 : Int32)) + ((i2 &&& (3 : Int32)) + (1 : Int32))), iv ((((i1 &&& (3 : Int32)) + (1 : Int32)) + ((i2 &&& (3 : Int32)) + (1 : Int32))) + ((i3 &&& (3 : Int32)) + (1 : Int32))), iv 0, .unset, .unset] [.int i4, .int ((i1 &&& (3 : Int32)) + (1 : Int32))])
      by_cases hc124 : i4 < ((i1 &&& (3 : Int32)) + (1 : Int32))
      · skip
        refine gb (fun _ k => XS.icmpYes X8.here hx rfl (pc0 := 124) (pc' := 133) rfl (hb hby at_124) rfl (tlt hc124).2.2.1 (by decide) (by decide) (XS.iload X8.here hx rfl (hb hby at_133) rfl (XS.iconst X8.here hx rfl (hb hby at_135) k))) ?_
        show G T8 (mkF m 136 #[iv i0, iv i1, iv i2, iv i3, iv i4, iv (i0 &&& (3 : Int32)), rv b1, iv (Int32.ofNat cs.length), rv b3, iv ((i1 &&& (3 : Int32)) + (1 : Int32)), iv (((i1 &&& (3 : Int32)) + (1 : Int32)) + ((i2 &&& (3 : Int32)) + (1 : Int32))), iv ((((i1 &&& (3 : Int32)) + (1 : Int32)) + ((i2 &&& (3 : Int32)) + (1 : Int32))) + ((i3 &&& (3 : Int32)) + (1 : Int32))), iv 0, .unset, .unset] [.int 2, .int (i0 &&& (3 : Int32))])
        by_cases hc136 : (i0 &&& (3 : Int32)) < (2 : Int32)
        · skip
          refine gb (fun _ k => XS.icmpYes X8.here hx rfl (pc0 := 136) (pc' := 155) rfl (hb hby at_136) rfl (tlt hc136).1 (by decide) (by decide) (XS.iload X8.here hx rfl (hb hby at_155) rfl (XS.iconst X8.here hx rfl (hb hby at_157) (XS.icmpYes X8.here hx rfl (pc0 := 158) (pc' := 177) rfl (hb hby at_158) rfl (tlt (own_c23 hc136)).1 (by decide) (by decide) k)))) ?_
          show G T8 (mkF m 177 #[iv i0, iv i1, iv i2, iv i3, iv i4, iv (i0 &&& (3 : Int32)), rv b1, iv (Int32.ofNat cs.length), rv b3, iv ((i1 &&& (3 : Int32)) + (1 : Int32)), iv (((i1 &&& (3 : Int32)) + (1 : Int32)) + ((i2 &&& (3 : Int32)) + (1 : Int32))), iv ((((i1 &&& (3 : Int32)) + (1 : Int32)) + ((i2 &&& (3 : Int32)) + (1 : Int32))) + ((i3 &&& (3 : Int32)) + (1 : Int32))), iv 0, .unset, .unset] [])
          exact J9 _ _ _ _ hS hk hZ hown X8 N e8 HR Sf_b3 ((0 : Int32)) ((own_us ([] : List Int32))) (by unfold own_ps; rw [if_neg hc117, if_pos hc136]; simp only [own_ld, (own_cpS i1).2.1, (own_cpS i2).2.1, (own_cpS i3).2.1, own_0add, if_pos hc124]) (rfl)
        · skip
          refine gb (fun _ k => XS.icmpNo X8.here hx rfl (hb hby at_136) rfl (flt hc136).1 (XS.iload X8.here hx rfl (hb hby at_139) rfl (XS.iload X8.here hx rfl (hb hby at_141) rfl (XS.icmpYes X8.here hx rfl (pc0 := 143) (pc' := 155) rfl (hb hby at_143) rfl (tlt (own_m2 hc124)).2.2.1 (by decide) (by decide) (XS.iload X8.here hx rfl (hb hby at_155) rfl (XS.iconst X8.here hx rfl (hb hby at_157) k)))))) ?_
          show G T8 (mkF m 158 #[iv i0, iv i1, iv i2, iv i3, iv i4, iv (i0 &&& (3 : Int32)), rv b1, iv (Int32.ofNat cs.length), rv b3, iv ((i1 &&& (3 : Int32)) + (1 : Int32)), iv (((i1 &&& (3 : Int32)) + (1 : Int32)) + ((i2 &&& (3 : Int32)) + (1 : Int32))), iv ((((i1 &&& (3 : Int32)) + (1 : Int32)) + ((i2 &&& (3 : Int32)) + (1 : Int32))) + ((i3 &&& (3 : Int32)) + (1 : Int32))), iv 0, .unset, .unset] [.int 3, .int (i0 &&& (3 : Int32))])
          by_cases hc158 : (i0 &&& (3 : Int32)) < (3 : Int32)
          · skip
            refine gb (fun _ k => XS.icmpYes X8.here hx rfl (pc0 := 158) (pc' := 177) rfl (hb hby at_158) rfl (tlt hc158).1 (by decide) (by decide) k) ?_
            show G T8 (mkF m 177 #[iv i0, iv i1, iv i2, iv i3, iv i4, iv (i0 &&& (3 : Int32)), rv b1, iv (Int32.ofNat cs.length), rv b3, iv ((i1 &&& (3 : Int32)) + (1 : Int32)), iv (((i1 &&& (3 : Int32)) + (1 : Int32)) + ((i2 &&& (3 : Int32)) + (1 : Int32))), iv ((((i1 &&& (3 : Int32)) + (1 : Int32)) + ((i2 &&& (3 : Int32)) + (1 : Int32))) + ((i3 &&& (3 : Int32)) + (1 : Int32))), iv 0, .unset, .unset] [])
            exact J9 _ _ _ _ hS hk hZ hown X8 N e8 HR Sf_b3 ((0 : Int32)) ((own_us ([] : List Int32))) (by unfold own_ps; rw [if_neg hc117, if_neg hc136, if_pos hc158]; simp only [own_ld, (own_cpS i1).2.1, (own_cpS i2).2.1, (own_cpS i3).2.1, own_0add, if_pos hc124]) (rfl)
          · skip
            refine gb (fun _ k => XS.icmpNo X8.here hx rfl (hb hby at_158) rfl (flt hc158).1 (XS.iload X8.here hx rfl (hb hby at_161) rfl (XS.iload X8.here hx rfl (hb hby at_163) rfl (XS.icmpYes X8.here hx rfl (pc0 := 165) (pc' := 177) rfl (hb hby at_165) rfl (tlt (own_m3 (own_m2 hc124))).2.2.1 (by decide) (by decide) k)))) ?_
            show G T8 (mkF m 177 #[iv i0, iv i1, iv i2, iv i3, iv i4, iv (i0 &&& (3 : Int32)), rv b1, iv (Int32.ofNat cs.length), rv b3, iv ((i1 &&& (3 : Int32)) + (1 : Int32)), iv (((i1 &&& (3 : Int32)) + (1 : Int32)) + ((i2 &&& (3 : Int32)) + (1 : Int32))), iv ((((i1 &&& (3 : Int32)) + (1 : Int32)) + ((i2 &&& (3 : Int32)) + (1 : Int32))) + ((i3 &&& (3 : Int32)) + (1 : Int32))), iv 0, .unset, .unset] [])
            exact J9 _ _ _ _ hS hk hZ hown X8 N e8 HR Sf_b3 ((0 : Int32)) ((own_us ([] : List Int32))) (by unfold own_ps; rw [if_neg hc117, if_neg hc136, if_neg hc158]; simp only [own_ld, (own_cpS i1).2.1, (own_cpS i2).2.1, (own_cpS i3).2.1, own_0add, if_pos hc124]) (rfl)
      · skip
        refine gb (fun _ k => XS.icmpNo X8.here hx rfl (hb hby at_124) rfl (flt hc124).2.2.1 (XS.iloadN X8.here hx rfl (hb hby at_127) rfl k)) ?_
        show G T8 (mkF m 128 #[iv i0, iv i1, iv i2, iv i3, iv i4, iv (i0 &&& (3 : Int32)), rv b1, iv (Int32.ofNat cs.length), rv b3, iv ((i1 &&& (3 : Int32)) + (1 : Int32)), iv (((i1 &&& (3 : Int32)) + (1 : Int32)) + ((i2 &&& (3 : Int32)) + (1 : Int32))), iv ((((i1 &&& (3 : Int32)) + (1 : Int32)) + ((i2 &&& (3 : Int32)) + (1 : Int32))) + ((i3 &&& (3 : Int32)) + (1 : Int32))), iv 0, .unset, .unset] [.int i1])
        obtain ⟨_, _, ⟨T15, Lz15, kz15, nz15⟩, -, X15, ⟨Lc15, hQ15, lq15, yq15, zq15⟩, st15⟩ := Jvm.LawKit.callS X8 hx (y := (⟨"com/example/lease/lease/core/InputsLeadingPinLaw", "units", "(I)I"⟩ : MethodName)) hown (mvT hZ (ow hw 108 rfl)) (mvT hZ (ow hw 109 rfl)) (mvT hZ (ow hw 6 rfl)) (mvT hZ (ow hw 110 rfl)) (by decide) (backOf (W := 0) (rmUN l Z a0 hw [] i1 h5 n0 O) hZ (ow hw 110 rfl) (ow hw 6 rfl) (by decide) (by decide)) (g := (mkF m 128 #[iv i0, iv i1, iv i2, iv i3, iv i4, iv (i0 &&& (3 : Int32)), rv b1, iv (Int32.ofNat cs.length), rv b3, iv ((i1 &&& (3 : Int32)) + (1 : Int32)), iv (((i1 &&& (3 : Int32)) + (1 : Int32)) + ((i2 &&& (3 : Int32)) + (1 : Int32))), iv ((((i1 &&& (3 : Int32)) + (1 : Int32)) + ((i2 &&& (3 : Int32)) + (1 : Int32))) + ((i3 &&& (3 : Int32)) + (1 : Int32))), iv 0, .unset, .unset] [.int i1])) rfl (by rw [hml]; rfl) (argsL := [(.int i1)]) (rest := []) (lenOf pd_0 rfl) rfl (by show 2 * 0 + _ ≤ _; exact Nat.le_of_eq rfl) (hb hby at_128) (fun _ _ => ⟨rfl, e8, (by decide : 7 + 0 ≤ _), (by decide : 34 + 0 ≤ _)⟩)
        dsimp only [Pt.U, Pt.locs, Pt.cells, Pt.slots] at X15 lq15 yq15 zq15 st15 hQ15
        subst lq15 yq15 zq15
        obtain ⟨rfl, rfl, e15⟩ := hQ15
        try rw [List.append_nil] at X15
        refine gb st15 ?_
        show G T15 (mkF m 131 #[iv i0, iv i1, iv i2, iv i3, iv i4, iv (i0 &&& (3 : Int32)), rv b1, iv (Int32.ofNat cs.length), rv b3, iv ((i1 &&& (3 : Int32)) + (1 : Int32)), iv (((i1 &&& (3 : Int32)) + (1 : Int32)) + ((i2 &&& (3 : Int32)) + (1 : Int32))), iv ((((i1 &&& (3 : Int32)) + (1 : Int32)) + ((i2 &&& (3 : Int32)) + (1 : Int32))) + ((i3 &&& (3 : Int32)) + (1 : Int32))), iv 0, .unset, .unset] [.int (own_uc i1)])
        refine gb (fun _ k => XS.istore X15.here hx rfl (hb hby at_131) rfl (l' := #[iv i0, iv i1, iv i2, iv i3, iv i4, iv (i0 &&& (3 : Int32)), rv b1, iv (Int32.ofNat cs.length), rv b3, iv ((i1 &&& (3 : Int32)) + (1 : Int32)), iv (((i1 &&& (3 : Int32)) + (1 : Int32)) + ((i2 &&& (3 : Int32)) + (1 : Int32))), iv ((((i1 &&& (3 : Int32)) + (1 : Int32)) + ((i2 &&& (3 : Int32)) + (1 : Int32))) + ((i3 &&& (3 : Int32)) + (1 : Int32))), iv (own_uc i1), .unset, .unset]) rfl (XS.iload X15.here hx rfl (hb hby at_133) rfl (XS.iconst X15.here hx rfl (hb hby at_135) k))) ?_
        show G T15 (mkF m 136 #[iv i0, iv i1, iv i2, iv i3, iv i4, iv (i0 &&& (3 : Int32)), rv b1, iv (Int32.ofNat cs.length), rv b3, iv ((i1 &&& (3 : Int32)) + (1 : Int32)), iv (((i1 &&& (3 : Int32)) + (1 : Int32)) + ((i2 &&& (3 : Int32)) + (1 : Int32))), iv ((((i1 &&& (3 : Int32)) + (1 : Int32)) + ((i2 &&& (3 : Int32)) + (1 : Int32))) + ((i3 &&& (3 : Int32)) + (1 : Int32))), iv (own_uc i1), .unset, .unset] [.int 2, .int (i0 &&& (3 : Int32))])
        by_cases hc136 : (i0 &&& (3 : Int32)) < (2 : Int32)
        · skip
          refine gb (fun _ k => XS.icmpYes X15.here hx rfl (pc0 := 136) (pc' := 155) rfl (hb hby at_136) rfl (tlt hc136).1 (by decide) (by decide) (XS.iload X15.here hx rfl (hb hby at_155) rfl (XS.iconst X15.here hx rfl (hb hby at_157) (XS.icmpYes X15.here hx rfl (pc0 := 158) (pc' := 177) rfl (hb hby at_158) rfl (tlt (own_c23 hc136)).1 (by decide) (by decide) k)))) ?_
          show G T15 (mkF m 177 #[iv i0, iv i1, iv i2, iv i3, iv i4, iv (i0 &&& (3 : Int32)), rv b1, iv (Int32.ofNat cs.length), rv b3, iv ((i1 &&& (3 : Int32)) + (1 : Int32)), iv (((i1 &&& (3 : Int32)) + (1 : Int32)) + ((i2 &&& (3 : Int32)) + (1 : Int32))), iv ((((i1 &&& (3 : Int32)) + (1 : Int32)) + ((i2 &&& (3 : Int32)) + (1 : Int32))) + ((i3 &&& (3 : Int32)) + (1 : Int32))), iv (own_uc i1), .unset, .unset] [])
          exact J9 _ _ _ _ hS hk hZ hown X15 N e15 HR Sf_b3 ((own_uc i1)) ((own_us [own_cp i1])) (by unfold own_ps; rw [if_neg hc117, if_pos hc136]; simp only [own_ld, (own_cpS i1).2.1, (own_cpS i2).2.1, (own_cpS i3).2.1, own_0add, if_neg hc124]) (own_k1 i1)
        · skip
          refine gb (fun _ k => XS.icmpNo X15.here hx rfl (hb hby at_136) rfl (flt hc136).1 (XS.iload X15.here hx rfl (hb hby at_139) rfl (XS.iload X15.here hx rfl (hb hby at_141) rfl k))) ?_
          show G T15 (mkF m 143 #[iv i0, iv i1, iv i2, iv i3, iv i4, iv (i0 &&& (3 : Int32)), rv b1, iv (Int32.ofNat cs.length), rv b3, iv ((i1 &&& (3 : Int32)) + (1 : Int32)), iv (((i1 &&& (3 : Int32)) + (1 : Int32)) + ((i2 &&& (3 : Int32)) + (1 : Int32))), iv ((((i1 &&& (3 : Int32)) + (1 : Int32)) + ((i2 &&& (3 : Int32)) + (1 : Int32))) + ((i3 &&& (3 : Int32)) + (1 : Int32))), iv (own_uc i1), .unset, .unset] [.int i4, .int (((i1 &&& (3 : Int32)) + (1 : Int32)) + ((i2 &&& (3 : Int32)) + (1 : Int32)))])
          by_cases hc143 : i4 < (((i1 &&& (3 : Int32)) + (1 : Int32)) + ((i2 &&& (3 : Int32)) + (1 : Int32)))
          · skip
            refine gb (fun _ k => XS.icmpYes X15.here hx rfl (pc0 := 143) (pc' := 155) rfl (hb hby at_143) rfl (tlt hc143).2.2.1 (by decide) (by decide) (XS.iload X15.here hx rfl (hb hby at_155) rfl (XS.iconst X15.here hx rfl (hb hby at_157) k))) ?_
            show G T15 (mkF m 158 #[iv i0, iv i1, iv i2, iv i3, iv i4, iv (i0 &&& (3 : Int32)), rv b1, iv (Int32.ofNat cs.length), rv b3, iv ((i1 &&& (3 : Int32)) + (1 : Int32)), iv (((i1 &&& (3 : Int32)) + (1 : Int32)) + ((i2 &&& (3 : Int32)) + (1 : Int32))), iv ((((i1 &&& (3 : Int32)) + (1 : Int32)) + ((i2 &&& (3 : Int32)) + (1 : Int32))) + ((i3 &&& (3 : Int32)) + (1 : Int32))), iv (own_uc i1), .unset, .unset] [.int 3, .int (i0 &&& (3 : Int32))])
            by_cases hc158 : (i0 &&& (3 : Int32)) < (3 : Int32)
            · skip
              refine gb (fun _ k => XS.icmpYes X15.here hx rfl (pc0 := 158) (pc' := 177) rfl (hb hby at_158) rfl (tlt hc158).1 (by decide) (by decide) k) ?_
              show G T15 (mkF m 177 #[iv i0, iv i1, iv i2, iv i3, iv i4, iv (i0 &&& (3 : Int32)), rv b1, iv (Int32.ofNat cs.length), rv b3, iv ((i1 &&& (3 : Int32)) + (1 : Int32)), iv (((i1 &&& (3 : Int32)) + (1 : Int32)) + ((i2 &&& (3 : Int32)) + (1 : Int32))), iv ((((i1 &&& (3 : Int32)) + (1 : Int32)) + ((i2 &&& (3 : Int32)) + (1 : Int32))) + ((i3 &&& (3 : Int32)) + (1 : Int32))), iv (own_uc i1), .unset, .unset] [])
              exact J9 _ _ _ _ hS hk hZ hown X15 N e15 HR Sf_b3 ((own_uc i1)) ((own_us [own_cp i1])) (by unfold own_ps; rw [if_neg hc117, if_neg hc136, if_pos hc158]; simp only [own_ld, (own_cpS i1).2.1, (own_cpS i2).2.1, (own_cpS i3).2.1, own_0add, if_neg hc124, if_pos hc143]) (own_k1 i1)
            · skip
              refine gb (fun _ k => XS.icmpNo X15.here hx rfl (hb hby at_158) rfl (flt hc158).1 (XS.iload X15.here hx rfl (hb hby at_161) rfl (XS.iload X15.here hx rfl (hb hby at_163) rfl (XS.icmpYes X15.here hx rfl (pc0 := 165) (pc' := 177) rfl (hb hby at_165) rfl (tlt (own_m3 hc143)).2.2.1 (by decide) (by decide) k)))) ?_
              show G T15 (mkF m 177 #[iv i0, iv i1, iv i2, iv i3, iv i4, iv (i0 &&& (3 : Int32)), rv b1, iv (Int32.ofNat cs.length), rv b3, iv ((i1 &&& (3 : Int32)) + (1 : Int32)), iv (((i1 &&& (3 : Int32)) + (1 : Int32)) + ((i2 &&& (3 : Int32)) + (1 : Int32))), iv ((((i1 &&& (3 : Int32)) + (1 : Int32)) + ((i2 &&& (3 : Int32)) + (1 : Int32))) + ((i3 &&& (3 : Int32)) + (1 : Int32))), iv (own_uc i1), .unset, .unset] [])
              exact J9 _ _ _ _ hS hk hZ hown X15 N e15 HR Sf_b3 ((own_uc i1)) ((own_us [own_cp i1])) (by unfold own_ps; rw [if_neg hc117, if_neg hc136, if_neg hc158]; simp only [own_ld, (own_cpS i1).2.1, (own_cpS i2).2.1, (own_cpS i3).2.1, own_0add, if_neg hc124, if_pos hc143]) (own_k1 i1)
          · skip
            refine gb (fun _ k => XS.icmpNo X15.here hx rfl (hb hby at_143) rfl (flt hc143).2.2.1 (XS.iload X15.here hx rfl (hb hby at_146) rfl (XS.iloadN X15.here hx rfl (hb hby at_148) rfl k))) ?_
            show G T15 (mkF m 149 #[iv i0, iv i1, iv i2, iv i3, iv i4, iv (i0 &&& (3 : Int32)), rv b1, iv (Int32.ofNat cs.length), rv b3, iv ((i1 &&& (3 : Int32)) + (1 : Int32)), iv (((i1 &&& (3 : Int32)) + (1 : Int32)) + ((i2 &&& (3 : Int32)) + (1 : Int32))), iv ((((i1 &&& (3 : Int32)) + (1 : Int32)) + ((i2 &&& (3 : Int32)) + (1 : Int32))) + ((i3 &&& (3 : Int32)) + (1 : Int32))), iv (own_uc i1), .unset, .unset] [.int i2, .int (own_uc i1)])
            obtain ⟨_, _, ⟨T16, Lz16, kz16, nz16⟩, -, X16, ⟨Lc16, hQ16, lq16, yq16, zq16⟩, st16⟩ := Jvm.LawKit.callS X15 hx (y := (⟨"com/example/lease/lease/core/InputsLeadingPinLaw", "units", "(I)I"⟩ : MethodName)) hown (mvT hZ (ow hw 108 rfl)) (mvT hZ (ow hw 109 rfl)) (mvT hZ (ow hw 6 rfl)) (mvT hZ (ow hw 110 rfl)) (by decide) (backOf (W := 1) (rmUN l Z a0 hw [] i2 h5 n0 O) hZ (ow hw 110 rfl) (ow hw 6 rfl) (by decide) (by decide)) (g := (mkF m 149 #[iv i0, iv i1, iv i2, iv i3, iv i4, iv (i0 &&& (3 : Int32)), rv b1, iv (Int32.ofNat cs.length), rv b3, iv ((i1 &&& (3 : Int32)) + (1 : Int32)), iv (((i1 &&& (3 : Int32)) + (1 : Int32)) + ((i2 &&& (3 : Int32)) + (1 : Int32))), iv ((((i1 &&& (3 : Int32)) + (1 : Int32)) + ((i2 &&& (3 : Int32)) + (1 : Int32))) + ((i3 &&& (3 : Int32)) + (1 : Int32))), iv (own_uc i1), .unset, .unset] [.int i2, .int (own_uc i1)])) rfl (by rw [hml]; rfl) (argsL := [(.int i2)]) (rest := [(.int (own_uc i1))]) (lenOf pd_0 rfl) rfl (by show 2 * 0 + _ ≤ _; exact Nat.le_of_eq rfl) (hb hby at_149) (fun _ _ => ⟨rfl, e15, (by decide : 7 + 0 ≤ _), (by decide : 34 + 0 ≤ _)⟩)
            dsimp only [Pt.U, Pt.locs, Pt.cells, Pt.slots] at X16 lq16 yq16 zq16 st16 hQ16
            subst lq16 yq16 zq16
            obtain ⟨rfl, rfl, e16⟩ := hQ16
            try rw [List.append_nil] at X16
            refine gb st16 ?_
            show G T16 (mkF m 152 #[iv i0, iv i1, iv i2, iv i3, iv i4, iv (i0 &&& (3 : Int32)), rv b1, iv (Int32.ofNat cs.length), rv b3, iv ((i1 &&& (3 : Int32)) + (1 : Int32)), iv (((i1 &&& (3 : Int32)) + (1 : Int32)) + ((i2 &&& (3 : Int32)) + (1 : Int32))), iv ((((i1 &&& (3 : Int32)) + (1 : Int32)) + ((i2 &&& (3 : Int32)) + (1 : Int32))) + ((i3 &&& (3 : Int32)) + (1 : Int32))), iv (own_uc i1), .unset, .unset] [.int (own_uc i2), .int (own_uc i1)])
            refine gb (fun _ k => XS.iadd X16.here hx rfl (hb hby at_152) rfl (XS.istore X16.here hx rfl (hb hby at_153) rfl (l' := #[iv i0, iv i1, iv i2, iv i3, iv i4, iv (i0 &&& (3 : Int32)), rv b1, iv (Int32.ofNat cs.length), rv b3, iv ((i1 &&& (3 : Int32)) + (1 : Int32)), iv (((i1 &&& (3 : Int32)) + (1 : Int32)) + ((i2 &&& (3 : Int32)) + (1 : Int32))), iv ((((i1 &&& (3 : Int32)) + (1 : Int32)) + ((i2 &&& (3 : Int32)) + (1 : Int32))) + ((i3 &&& (3 : Int32)) + (1 : Int32))), iv ((own_uc i1) + (own_uc i2)), .unset, .unset]) rfl (XS.iload X16.here hx rfl (hb hby at_155) rfl (XS.iconst X16.here hx rfl (hb hby at_157) k)))) ?_
            show G T16 (mkF m 158 #[iv i0, iv i1, iv i2, iv i3, iv i4, iv (i0 &&& (3 : Int32)), rv b1, iv (Int32.ofNat cs.length), rv b3, iv ((i1 &&& (3 : Int32)) + (1 : Int32)), iv (((i1 &&& (3 : Int32)) + (1 : Int32)) + ((i2 &&& (3 : Int32)) + (1 : Int32))), iv ((((i1 &&& (3 : Int32)) + (1 : Int32)) + ((i2 &&& (3 : Int32)) + (1 : Int32))) + ((i3 &&& (3 : Int32)) + (1 : Int32))), iv ((own_uc i1) + (own_uc i2)), .unset, .unset] [.int 3, .int (i0 &&& (3 : Int32))])
            by_cases hc158 : (i0 &&& (3 : Int32)) < (3 : Int32)
            · skip
              refine gb (fun _ k => XS.icmpYes X16.here hx rfl (pc0 := 158) (pc' := 177) rfl (hb hby at_158) rfl (tlt hc158).1 (by decide) (by decide) k) ?_
              show G T16 (mkF m 177 #[iv i0, iv i1, iv i2, iv i3, iv i4, iv (i0 &&& (3 : Int32)), rv b1, iv (Int32.ofNat cs.length), rv b3, iv ((i1 &&& (3 : Int32)) + (1 : Int32)), iv (((i1 &&& (3 : Int32)) + (1 : Int32)) + ((i2 &&& (3 : Int32)) + (1 : Int32))), iv ((((i1 &&& (3 : Int32)) + (1 : Int32)) + ((i2 &&& (3 : Int32)) + (1 : Int32))) + ((i3 &&& (3 : Int32)) + (1 : Int32))), iv ((own_uc i1) + (own_uc i2)), .unset, .unset] [])
              exact J9 _ _ _ _ hS hk hZ hown X16 N e16 HR Sf_b3 (((own_uc i1) + (own_uc i2))) ((own_us [own_cp i1, own_cp i2])) (by unfold own_ps; rw [if_neg hc117, if_neg hc136, if_pos hc158]; simp only [own_ld, (own_cpS i1).2.1, (own_cpS i2).2.1, (own_cpS i3).2.1, own_0add, if_neg hc124, if_neg hc143]) (own_k2 i1 i2)
            · skip
              refine gb (fun _ k => XS.icmpNo X16.here hx rfl (hb hby at_158) rfl (flt hc158).1 (XS.iload X16.here hx rfl (hb hby at_161) rfl (XS.iload X16.here hx rfl (hb hby at_163) rfl k))) ?_
              show G T16 (mkF m 165 #[iv i0, iv i1, iv i2, iv i3, iv i4, iv (i0 &&& (3 : Int32)), rv b1, iv (Int32.ofNat cs.length), rv b3, iv ((i1 &&& (3 : Int32)) + (1 : Int32)), iv (((i1 &&& (3 : Int32)) + (1 : Int32)) + ((i2 &&& (3 : Int32)) + (1 : Int32))), iv ((((i1 &&& (3 : Int32)) + (1 : Int32)) + ((i2 &&& (3 : Int32)) + (1 : Int32))) + ((i3 &&& (3 : Int32)) + (1 : Int32))), iv ((own_uc i1) + (own_uc i2)), .unset, .unset] [.int i4, .int ((((i1 &&& (3 : Int32)) + (1 : Int32)) + ((i2 &&& (3 : Int32)) + (1 : Int32))) + ((i3 &&& (3 : Int32)) + (1 : Int32)))])
              by_cases hc165 : i4 < ((((i1 &&& (3 : Int32)) + (1 : Int32)) + ((i2 &&& (3 : Int32)) + (1 : Int32))) + ((i3 &&& (3 : Int32)) + (1 : Int32)))
              · skip
                refine gb (fun _ k => XS.icmpYes X16.here hx rfl (pc0 := 165) (pc' := 177) rfl (hb hby at_165) rfl (tlt hc165).2.2.1 (by decide) (by decide) k) ?_
                show G T16 (mkF m 177 #[iv i0, iv i1, iv i2, iv i3, iv i4, iv (i0 &&& (3 : Int32)), rv b1, iv (Int32.ofNat cs.length), rv b3, iv ((i1 &&& (3 : Int32)) + (1 : Int32)), iv (((i1 &&& (3 : Int32)) + (1 : Int32)) + ((i2 &&& (3 : Int32)) + (1 : Int32))), iv ((((i1 &&& (3 : Int32)) + (1 : Int32)) + ((i2 &&& (3 : Int32)) + (1 : Int32))) + ((i3 &&& (3 : Int32)) + (1 : Int32))), iv ((own_uc i1) + (own_uc i2)), .unset, .unset] [])
                exact J9 _ _ _ _ hS hk hZ hown X16 N e16 HR Sf_b3 (((own_uc i1) + (own_uc i2))) ((own_us [own_cp i1, own_cp i2])) (by unfold own_ps; rw [if_neg hc117, if_neg hc136, if_neg hc158]; simp only [own_ld, (own_cpS i1).2.1, (own_cpS i2).2.1, (own_cpS i3).2.1, own_0add, if_neg hc124, if_neg hc143, if_pos hc165]) (own_k2 i1 i2)
              · skip
                refine gb (fun _ k => XS.icmpNo X16.here hx rfl (hb hby at_165) rfl (flt hc165).2.2.1 (XS.iload X16.here hx rfl (hb hby at_168) rfl (XS.iloadN X16.here hx rfl (hb hby at_170) rfl k))) ?_
                show G T16 (mkF m 171 #[iv i0, iv i1, iv i2, iv i3, iv i4, iv (i0 &&& (3 : Int32)), rv b1, iv (Int32.ofNat cs.length), rv b3, iv ((i1 &&& (3 : Int32)) + (1 : Int32)), iv (((i1 &&& (3 : Int32)) + (1 : Int32)) + ((i2 &&& (3 : Int32)) + (1 : Int32))), iv ((((i1 &&& (3 : Int32)) + (1 : Int32)) + ((i2 &&& (3 : Int32)) + (1 : Int32))) + ((i3 &&& (3 : Int32)) + (1 : Int32))), iv ((own_uc i1) + (own_uc i2)), .unset, .unset] [.int i3, .int ((own_uc i1) + (own_uc i2))])
                obtain ⟨_, _, ⟨T17, Lz17, kz17, nz17⟩, -, X17, ⟨Lc17, hQ17, lq17, yq17, zq17⟩, st17⟩ := Jvm.LawKit.callS X16 hx (y := (⟨"com/example/lease/lease/core/InputsLeadingPinLaw", "units", "(I)I"⟩ : MethodName)) hown (mvT hZ (ow hw 108 rfl)) (mvT hZ (ow hw 109 rfl)) (mvT hZ (ow hw 6 rfl)) (mvT hZ (ow hw 110 rfl)) (by decide) (backOf (W := 1) (rmUN l Z a0 hw [] i3 h5 n0 O) hZ (ow hw 110 rfl) (ow hw 6 rfl) (by decide) (by decide)) (g := (mkF m 171 #[iv i0, iv i1, iv i2, iv i3, iv i4, iv (i0 &&& (3 : Int32)), rv b1, iv (Int32.ofNat cs.length), rv b3, iv ((i1 &&& (3 : Int32)) + (1 : Int32)), iv (((i1 &&& (3 : Int32)) + (1 : Int32)) + ((i2 &&& (3 : Int32)) + (1 : Int32))), iv ((((i1 &&& (3 : Int32)) + (1 : Int32)) + ((i2 &&& (3 : Int32)) + (1 : Int32))) + ((i3 &&& (3 : Int32)) + (1 : Int32))), iv ((own_uc i1) + (own_uc i2)), .unset, .unset] [.int i3, .int ((own_uc i1) + (own_uc i2))])) rfl (by rw [hml]; rfl) (argsL := [(.int i3)]) (rest := [(.int ((own_uc i1) + (own_uc i2)))]) (lenOf pd_0 rfl) rfl (by show 2 * 0 + _ ≤ _; exact Nat.le_of_eq rfl) (hb hby at_171) (fun _ _ => ⟨rfl, e16, (by decide : 7 + 0 ≤ _), (by decide : 34 + 0 ≤ _)⟩)
                dsimp only [Pt.U, Pt.locs, Pt.cells, Pt.slots] at X17 lq17 yq17 zq17 st17 hQ17
                subst lq17 yq17 zq17
                obtain ⟨rfl, rfl, e17⟩ := hQ17
                try rw [List.append_nil] at X17
                refine gb st17 ?_
                show G T17 (mkF m 174 #[iv i0, iv i1, iv i2, iv i3, iv i4, iv (i0 &&& (3 : Int32)), rv b1, iv (Int32.ofNat cs.length), rv b3, iv ((i1 &&& (3 : Int32)) + (1 : Int32)), iv (((i1 &&& (3 : Int32)) + (1 : Int32)) + ((i2 &&& (3 : Int32)) + (1 : Int32))), iv ((((i1 &&& (3 : Int32)) + (1 : Int32)) + ((i2 &&& (3 : Int32)) + (1 : Int32))) + ((i3 &&& (3 : Int32)) + (1 : Int32))), iv ((own_uc i1) + (own_uc i2)), .unset, .unset] [.int (own_uc i3), .int ((own_uc i1) + (own_uc i2))])
                refine gb (fun _ k => XS.iadd X17.here hx rfl (hb hby at_174) rfl (XS.istore X17.here hx rfl (hb hby at_175) rfl (l' := #[iv i0, iv i1, iv i2, iv i3, iv i4, iv (i0 &&& (3 : Int32)), rv b1, iv (Int32.ofNat cs.length), rv b3, iv ((i1 &&& (3 : Int32)) + (1 : Int32)), iv (((i1 &&& (3 : Int32)) + (1 : Int32)) + ((i2 &&& (3 : Int32)) + (1 : Int32))), iv ((((i1 &&& (3 : Int32)) + (1 : Int32)) + ((i2 &&& (3 : Int32)) + (1 : Int32))) + ((i3 &&& (3 : Int32)) + (1 : Int32))), iv (((own_uc i1) + (own_uc i2)) + (own_uc i3)), .unset, .unset]) rfl k)) ?_
                show G T17 (mkF m 177 #[iv i0, iv i1, iv i2, iv i3, iv i4, iv (i0 &&& (3 : Int32)), rv b1, iv (Int32.ofNat cs.length), rv b3, iv ((i1 &&& (3 : Int32)) + (1 : Int32)), iv (((i1 &&& (3 : Int32)) + (1 : Int32)) + ((i2 &&& (3 : Int32)) + (1 : Int32))), iv ((((i1 &&& (3 : Int32)) + (1 : Int32)) + ((i2 &&& (3 : Int32)) + (1 : Int32))) + ((i3 &&& (3 : Int32)) + (1 : Int32))), iv (((own_uc i1) + (own_uc i2)) + (own_uc i3)), .unset, .unset] [])
                exact J9 _ _ _ _ hS hk hZ hown X17 N e17 HR Sf_b3 ((((own_uc i1) + (own_uc i2)) + (own_uc i3))) ((own_us [own_cp i1, own_cp i2, own_cp i3])) (by unfold own_ps; rw [if_neg hc117, if_neg hc136, if_neg hc158]; simp only [own_ld, (own_cpS i1).2.1, (own_cpS i2).2.1, (own_cpS i3).2.1, own_0add, if_neg hc124, if_neg hc143, if_neg hc165]) (own_k3 i1 i2 i3)
  refine gb (fun _ k => XS.iload X1.here hx rfl (hb hby at_14) rfl (XS.iconst X1.here hx rfl (hb hby at_16) k)) ?_
  show G T1 (mkF m 17 #[iv i0, iv i1, iv i2, iv i3, iv i4, iv (i0 &&& (3 : Int32)), rv b1, iv 0, .unset, .unset, .unset, .unset, .unset, .unset, .unset] [.int 1, .int (i0 &&& (3 : Int32))])
  by_cases hc17 : (i0 &&& (3 : Int32)) < (1 : Int32)
  · skip
    refine gb (fun _ k => XS.icmpYes X1.here hx rfl (pc0 := 17) (pc' := 33) rfl (hb hby at_17) rfl (tlt hc17).1 (by decide) (by decide) (XS.iload X1.here hx rfl (hb hby at_33) rfl (XS.iconst X1.here hx rfl (hb hby at_35) (XS.icmpYes X1.here hx rfl (pc0 := 36) (pc' := 52) rfl (hb hby at_36) rfl (tlt (own_c12 hc17)).1 (by decide) (by decide) (XS.iload X1.here hx rfl (hb hby at_52) rfl (XS.iconst X1.here hx rfl (hb hby at_54) k)))))) ?_
    show G T1 (mkF m 55 #[iv i0, iv i1, iv i2, iv i3, iv i4, iv (i0 &&& (3 : Int32)), rv b1, iv 0, .unset, .unset, .unset, .unset, .unset, .unset, .unset] [.int 3, .int (i0 &&& (3 : Int32))])
    refine gb (fun _ k => XS.icmpYes X1.here hx rfl (pc0 := 55) (pc' := 71) rfl (hb hby at_55) rfl (tlt (own_c23 (own_c12 hc17))).1 (by decide) (by decide) k) ?_
    show G T1 (mkF m 71 #[iv i0, iv i1, iv i2, iv i3, iv i4, iv (i0 &&& (3 : Int32)), rv b1, iv 0, .unset, .unset, .unset, .unset, .unset, .unset, .unset] [])
    exact J2 _ _ _ _ _ hS hk hZ hown X1 N e1 HR O (([] : List Int32)) (V_b1) (by unfold own_ps; rw [if_pos hc17]; simp only [own_us, List.nil_append, List.append_nil, List.append_assoc])
  · skip
    refine gb (fun _ k => XS.icmpNo X1.here hx rfl (hb hby at_17) rfl (flt hc17).1 (XS.aload X1.here hx rfl (hb hby at_20) rfl rfl (XS.iload X1.here hx rfl (hb hby at_22) rfl (XS.iloadN X1.here hx rfl (hb hby at_24) rfl k)))) ?_
    show G T1 (mkF m 25 #[iv i0, iv i1, iv i2, iv i3, iv i4, iv (i0 &&& (3 : Int32)), rv b1, iv 0, .unset, .unset, .unset, .unset, .unset, .unset, .unset] [.int i1, .int 0, .ref b1])
    obtain ⟨_, _, ⟨T18, Lz18, kz18, nz18⟩, -, X18, ⟨Lc18, hQ18, lq18, yq18, zq18⟩, st18⟩ := Jvm.LawKit.callS X1 hx (y := (⟨"com/example/lease/lease/core/InputsLeadingPinLaw", "cp", "(I)I"⟩ : MethodName)) hown (mvT hZ (ow hw 68 rfl)) (mvT hZ (ow hw 69 rfl)) (mvT hZ (ow hw 6 rfl)) (mvT hZ (ow hw 70 rfl)) (by decide) (backOf (W := 2) (rmPT l Z a0 hw [] i1 h1 n0 O) hZ (ow hw 70 rfl) (ow hw 6 rfl) (by decide) (by decide)) (g := (mkF m 25 #[iv i0, iv i1, iv i2, iv i3, iv i4, iv (i0 &&& (3 : Int32)), rv b1, iv 0, .unset, .unset, .unset, .unset, .unset, .unset, .unset] [.int i1, .int 0, .ref b1])) rfl (by rw [hml]; rfl) (argsL := [(.int i1)]) (rest := [(.int (0 : Int32)), (.ref b1)]) (lenOf pd_0 rfl) rfl (by show 2 * 0 + _ ≤ _; exact Nat.le_of_eq rfl) (hb hby at_25) (fun _ _ => ⟨rfl, e1, (by decide : 1 + 0 ≤ _), (by decide : 6 + 0 ≤ _)⟩)
    dsimp only [Pt.U, Pt.locs, Pt.cells, Pt.slots] at X18 lq18 yq18 zq18 st18 hQ18
    subst lq18 yq18 zq18
    obtain ⟨rfl, rfl, e18⟩ := hQ18
    try rw [List.append_nil] at X18
    refine gb st18 ?_
    show G T18 (mkF m 28 #[iv i0, iv i1, iv i2, iv i3, iv i4, iv (i0 &&& (3 : Int32)), rv b1, iv 0, .unset, .unset, .unset, .unset, .unset, .unset, .unset] [.int (own_cp i1), .int 0, .ref b1])
    have Sk19 : ∀ x ∈ [b1], Safe Z [("java/lang/String", 7), ("java/lang/StringLatin1", 151), ("java/lang/StringUTF16", 295)] _ _ x := (sfS (Safe.arv hZ.alike V_b1 (by decide)) sf0)
    obtain ⟨_, _, ⟨T19, Lz19, kz19, nz19⟩, -, X19, ⟨Lc19, hQ19, lq19, yq19, zq19⟩, st19⟩ := Jvm.LawKit.callS X18 hx (y := (⟨"com/example/lease/lease/core/InputsLeadingPinLaw", "put", "([CII)I"⟩ : MethodName)) hown (mvT hZ (ow hw 71 rfl)) (mvT hZ (ow hw 72 rfl)) (mvT hZ (ow hw 6 rfl)) (mvT hZ (ow hw 73 rfl)) (by decide) (backOf (W := 0) (rmPW l Z a0 hw [] b1 kA1 ([] : List Int32) (own_cp i1) h1 n0 O V_b1 (by have q1 := (own_un_len (own_cp i1)).2; have q2 := (own_un_len (own_cp i2)).2; have q3 := (own_un_len (own_cp i3)).2; simp only [List.length_append, List.length_nil]; omega) (own_cpS i1).1 g_b1) hZ (ow hw 73 rfl) (ow hw 6 rfl) (by decide) (by decide)) (g := (mkF m 28 #[iv i0, iv i1, iv i2, iv i3, iv i4, iv (i0 &&& (3 : Int32)), rv b1, iv 0, .unset, .unset, .unset, .unset, .unset, .unset, .unset] [.int (own_cp i1), .int 0, .ref b1])) rfl (by rw [hml]; rfl) (argsL := [(.ref b1), (.int (0 : Int32)), (.int (own_cp i1))]) (rest := []) (lenOf pd_33 rfl) rfl (by show 2 * 0 + _ ≤ _; exact Nat.le_of_eq rfl) (hb hby at_28) (fun _ _ => ⟨rfl, e18, (by decide : 1 + 0 ≤ _), (by decide : 6 + 0 ≤ _)⟩)
    dsimp only [Pt.U, Pt.locs, Pt.cells, Pt.slots] at X19 lq19 yq19 zq19 st19 hQ19
    subst lq19 yq19 zq19
    obtain ⟨h19, e19⟩ : ∃ z, z = T19.heap := ⟨_, rfl⟩
    rw [← e19] at hQ19
    replace e19 := e19.symm
    obtain ⟨rfl, Nq19, Kq19, hR19⟩ := hQ19
    have N := Fr.app N Nq19
    have HR := HR.trans (CHr.keep Kq19 Sk19 HR.1)
    have hk := Nat.le_trans hk Kq19.1
    have V_b1 := hR19
    have O := O.keep Kq19 (allS g_b1 all0)
    refine gb st19 ?_
    show G T19 (mkF m 31 #[iv i0, iv i1, iv i2, iv i3, iv i4, iv (i0 &&& (3 : Int32)), rv b1, iv 0, .unset, .unset, .unset, .unset, .unset, .unset, .unset] [.int (Int32.ofNat (([] : List Int32) ++ own_un (own_cp i1)).length)])
    refine gb (fun _ k => XS.istore X19.here hx rfl (hb hby at_31) rfl (l' := #[iv i0, iv i1, iv i2, iv i3, iv i4, iv (i0 &&& (3 : Int32)), rv b1, iv (Int32.ofNat (([] : List Int32) ++ own_un (own_cp i1)).length), .unset, .unset, .unset, .unset, .unset, .unset, .unset]) rfl (XS.iload X19.here hx rfl (hb hby at_33) rfl (XS.iconst X19.here hx rfl (hb hby at_35) k))) ?_
    show G T19 (mkF m 36 #[iv i0, iv i1, iv i2, iv i3, iv i4, iv (i0 &&& (3 : Int32)), rv b1, iv (Int32.ofNat (([] : List Int32) ++ own_un (own_cp i1)).length), .unset, .unset, .unset, .unset, .unset, .unset, .unset] [.int 2, .int (i0 &&& (3 : Int32))])
    by_cases hc36 : (i0 &&& (3 : Int32)) < (2 : Int32)
    · skip
      refine gb (fun _ k => XS.icmpYes X19.here hx rfl (pc0 := 36) (pc' := 52) rfl (hb hby at_36) rfl (tlt hc36).1 (by decide) (by decide) (XS.iload X19.here hx rfl (hb hby at_52) rfl (XS.iconst X19.here hx rfl (hb hby at_54) (XS.icmpYes X19.here hx rfl (pc0 := 55) (pc' := 71) rfl (hb hby at_55) rfl (tlt (own_c23 hc36)).1 (by decide) (by decide) k)))) ?_
      show G T19 (mkF m 71 #[iv i0, iv i1, iv i2, iv i3, iv i4, iv (i0 &&& (3 : Int32)), rv b1, iv (Int32.ofNat (([] : List Int32) ++ own_un (own_cp i1)).length), .unset, .unset, .unset, .unset, .unset, .unset, .unset] [])
      exact J2 _ _ _ _ _ hS hk hZ hown X19 N e19 HR O ((([] : List Int32) ++ own_un (own_cp i1))) (V_b1) (by unfold own_ps; rw [if_neg hc17, if_pos hc36]; simp only [own_us, List.nil_append, List.append_nil, List.append_assoc])
    · skip
      refine gb (fun _ k => XS.icmpNo X19.here hx rfl (hb hby at_36) rfl (flt hc36).1 (XS.aload X19.here hx rfl (hb hby at_39) rfl rfl (XS.iload X19.here hx rfl (hb hby at_41) rfl (XS.iloadN X19.here hx rfl (hb hby at_43) rfl k)))) ?_
      show G T19 (mkF m 44 #[iv i0, iv i1, iv i2, iv i3, iv i4, iv (i0 &&& (3 : Int32)), rv b1, iv (Int32.ofNat (([] : List Int32) ++ own_un (own_cp i1)).length), .unset, .unset, .unset, .unset, .unset, .unset, .unset] [.int i2, .int (Int32.ofNat (([] : List Int32) ++ own_un (own_cp i1)).length), .ref b1])
      obtain ⟨_, _, ⟨T20, Lz20, kz20, nz20⟩, -, X20, ⟨Lc20, hQ20, lq20, yq20, zq20⟩, st20⟩ := Jvm.LawKit.callS X19 hx (y := (⟨"com/example/lease/lease/core/InputsLeadingPinLaw", "cp", "(I)I"⟩ : MethodName)) hown (mvT hZ (ow hw 68 rfl)) (mvT hZ (ow hw 69 rfl)) (mvT hZ (ow hw 6 rfl)) (mvT hZ (ow hw 70 rfl)) (by decide) (backOf (W := 2) (rmPT l Z a0 hw [] i2 h19 n0 O) hZ (ow hw 70 rfl) (ow hw 6 rfl) (by decide) (by decide)) (g := (mkF m 44 #[iv i0, iv i1, iv i2, iv i3, iv i4, iv (i0 &&& (3 : Int32)), rv b1, iv (Int32.ofNat (([] : List Int32) ++ own_un (own_cp i1)).length), .unset, .unset, .unset, .unset, .unset, .unset, .unset] [.int i2, .int (Int32.ofNat (([] : List Int32) ++ own_un (own_cp i1)).length), .ref b1])) rfl (by rw [hml]; rfl) (argsL := [(.int i2)]) (rest := [(.int (Int32.ofNat (([] : List Int32) ++ own_un (own_cp i1)).length)), (.ref b1)]) (lenOf pd_0 rfl) rfl (by show 2 * 0 + _ ≤ _; exact Nat.le_of_eq rfl) (hb hby at_44) (fun _ _ => ⟨rfl, e19, (by decide : 1 + 0 ≤ _), (by decide : 6 + 0 ≤ _)⟩)
      dsimp only [Pt.U, Pt.locs, Pt.cells, Pt.slots] at X20 lq20 yq20 zq20 st20 hQ20
      subst lq20 yq20 zq20
      obtain ⟨rfl, rfl, e20⟩ := hQ20
      try rw [List.append_nil] at X20
      refine gb st20 ?_
      show G T20 (mkF m 47 #[iv i0, iv i1, iv i2, iv i3, iv i4, iv (i0 &&& (3 : Int32)), rv b1, iv (Int32.ofNat (([] : List Int32) ++ own_un (own_cp i1)).length), .unset, .unset, .unset, .unset, .unset, .unset, .unset] [.int (own_cp i2), .int (Int32.ofNat (([] : List Int32) ++ own_un (own_cp i1)).length), .ref b1])
      have Sk21 : ∀ x ∈ [b1], Safe Z [("java/lang/String", 7), ("java/lang/StringLatin1", 151), ("java/lang/StringUTF16", 295)] _ _ x := (sfS (Safe.arv hZ.alike V_b1 (by decide)) sf0)
      obtain ⟨_, _, ⟨T21, Lz21, kz21, nz21⟩, -, X21, ⟨Lc21, hQ21, lq21, yq21, zq21⟩, st21⟩ := Jvm.LawKit.callS X20 hx (y := (⟨"com/example/lease/lease/core/InputsLeadingPinLaw", "put", "([CII)I"⟩ : MethodName)) hown (mvT hZ (ow hw 71 rfl)) (mvT hZ (ow hw 72 rfl)) (mvT hZ (ow hw 6 rfl)) (mvT hZ (ow hw 73 rfl)) (by decide) (backOf (W := 0) (rmPW l Z a0 hw [] b1 kA1 (([] : List Int32) ++ own_un (own_cp i1)) (own_cp i2) h19 n0 O V_b1 (by have q1 := (own_un_len (own_cp i1)).2; have q2 := (own_un_len (own_cp i2)).2; have q3 := (own_un_len (own_cp i3)).2; simp only [List.length_append, List.length_nil]; omega) (own_cpS i2).1 g_b1) hZ (ow hw 73 rfl) (ow hw 6 rfl) (by decide) (by decide)) (g := (mkF m 47 #[iv i0, iv i1, iv i2, iv i3, iv i4, iv (i0 &&& (3 : Int32)), rv b1, iv (Int32.ofNat (([] : List Int32) ++ own_un (own_cp i1)).length), .unset, .unset, .unset, .unset, .unset, .unset, .unset] [.int (own_cp i2), .int (Int32.ofNat (([] : List Int32) ++ own_un (own_cp i1)).length), .ref b1])) rfl (by rw [hml]; rfl) (argsL := [(.ref b1), (.int (Int32.ofNat (([] : List Int32) ++ own_un (own_cp i1)).length)), (.int (own_cp i2))]) (rest := []) (lenOf pd_33 rfl) rfl (by show 2 * 0 + _ ≤ _; exact Nat.le_of_eq rfl) (hb hby at_47) (fun _ _ => ⟨rfl, e20, (by decide : 1 + 0 ≤ _), (by decide : 6 + 0 ≤ _)⟩)
      dsimp only [Pt.U, Pt.locs, Pt.cells, Pt.slots] at X21 lq21 yq21 zq21 st21 hQ21
      subst lq21 yq21 zq21
      obtain ⟨h21, e21⟩ : ∃ z, z = T21.heap := ⟨_, rfl⟩
      rw [← e21] at hQ21
      replace e21 := e21.symm
      obtain ⟨rfl, Nq21, Kq21, hR21⟩ := hQ21
      have N := Fr.app N Nq21
      have HR := HR.trans (CHr.keep Kq21 Sk21 HR.1)
      have hk := Nat.le_trans hk Kq21.1
      have V_b1 := hR21
      have O := O.keep Kq21 (allS g_b1 all0)
      refine gb st21 ?_
      show G T21 (mkF m 50 #[iv i0, iv i1, iv i2, iv i3, iv i4, iv (i0 &&& (3 : Int32)), rv b1, iv (Int32.ofNat (([] : List Int32) ++ own_un (own_cp i1)).length), .unset, .unset, .unset, .unset, .unset, .unset, .unset] [.int (Int32.ofNat ((([] : List Int32) ++ own_un (own_cp i1)) ++ own_un (own_cp i2)).length)])
      refine gb (fun _ k => XS.istore X21.here hx rfl (hb hby at_50) rfl (l' := #[iv i0, iv i1, iv i2, iv i3, iv i4, iv (i0 &&& (3 : Int32)), rv b1, iv (Int32.ofNat ((([] : List Int32) ++ own_un (own_cp i1)) ++ own_un (own_cp i2)).length), .unset, .unset, .unset, .unset, .unset, .unset, .unset]) rfl (XS.iload X21.here hx rfl (hb hby at_52) rfl (XS.iconst X21.here hx rfl (hb hby at_54) k))) ?_
      show G T21 (mkF m 55 #[iv i0, iv i1, iv i2, iv i3, iv i4, iv (i0 &&& (3 : Int32)), rv b1, iv (Int32.ofNat ((([] : List Int32) ++ own_un (own_cp i1)) ++ own_un (own_cp i2)).length), .unset, .unset, .unset, .unset, .unset, .unset, .unset] [.int 3, .int (i0 &&& (3 : Int32))])
      by_cases hc55 : (i0 &&& (3 : Int32)) < (3 : Int32)
      · skip
        refine gb (fun _ k => XS.icmpYes X21.here hx rfl (pc0 := 55) (pc' := 71) rfl (hb hby at_55) rfl (tlt hc55).1 (by decide) (by decide) k) ?_
        show G T21 (mkF m 71 #[iv i0, iv i1, iv i2, iv i3, iv i4, iv (i0 &&& (3 : Int32)), rv b1, iv (Int32.ofNat ((([] : List Int32) ++ own_un (own_cp i1)) ++ own_un (own_cp i2)).length), .unset, .unset, .unset, .unset, .unset, .unset, .unset] [])
        exact J2 _ _ _ _ _ hS hk hZ hown X21 N e21 HR O (((([] : List Int32) ++ own_un (own_cp i1)) ++ own_un (own_cp i2))) (V_b1) (by unfold own_ps; rw [if_neg hc17, if_neg hc36, if_pos hc55]; simp only [own_us, List.nil_append, List.append_nil, List.append_assoc])
      · skip
        refine gb (fun _ k => XS.icmpNo X21.here hx rfl (hb hby at_55) rfl (flt hc55).1 (XS.aload X21.here hx rfl (hb hby at_58) rfl rfl (XS.iload X21.here hx rfl (hb hby at_60) rfl (XS.iloadN X21.here hx rfl (hb hby at_62) rfl k)))) ?_
        show G T21 (mkF m 63 #[iv i0, iv i1, iv i2, iv i3, iv i4, iv (i0 &&& (3 : Int32)), rv b1, iv (Int32.ofNat ((([] : List Int32) ++ own_un (own_cp i1)) ++ own_un (own_cp i2)).length), .unset, .unset, .unset, .unset, .unset, .unset, .unset] [.int i3, .int (Int32.ofNat ((([] : List Int32) ++ own_un (own_cp i1)) ++ own_un (own_cp i2)).length), .ref b1])
        obtain ⟨_, _, ⟨T22, Lz22, kz22, nz22⟩, -, X22, ⟨Lc22, hQ22, lq22, yq22, zq22⟩, st22⟩ := Jvm.LawKit.callS X21 hx (y := (⟨"com/example/lease/lease/core/InputsLeadingPinLaw", "cp", "(I)I"⟩ : MethodName)) hown (mvT hZ (ow hw 68 rfl)) (mvT hZ (ow hw 69 rfl)) (mvT hZ (ow hw 6 rfl)) (mvT hZ (ow hw 70 rfl)) (by decide) (backOf (W := 2) (rmPT l Z a0 hw [] i3 h21 n0 O) hZ (ow hw 70 rfl) (ow hw 6 rfl) (by decide) (by decide)) (g := (mkF m 63 #[iv i0, iv i1, iv i2, iv i3, iv i4, iv (i0 &&& (3 : Int32)), rv b1, iv (Int32.ofNat ((([] : List Int32) ++ own_un (own_cp i1)) ++ own_un (own_cp i2)).length), .unset, .unset, .unset, .unset, .unset, .unset, .unset] [.int i3, .int (Int32.ofNat ((([] : List Int32) ++ own_un (own_cp i1)) ++ own_un (own_cp i2)).length), .ref b1])) rfl (by rw [hml]; rfl) (argsL := [(.int i3)]) (rest := [(.int (Int32.ofNat ((([] : List Int32) ++ own_un (own_cp i1)) ++ own_un (own_cp i2)).length)), (.ref b1)]) (lenOf pd_0 rfl) rfl (by show 2 * 0 + _ ≤ _; exact Nat.le_of_eq rfl) (hb hby at_63) (fun _ _ => ⟨rfl, e21, (by decide : 1 + 0 ≤ _), (by decide : 6 + 0 ≤ _)⟩)
        dsimp only [Pt.U, Pt.locs, Pt.cells, Pt.slots] at X22 lq22 yq22 zq22 st22 hQ22
        subst lq22 yq22 zq22
        obtain ⟨rfl, rfl, e22⟩ := hQ22
        try rw [List.append_nil] at X22
        refine gb st22 ?_
        show G T22 (mkF m 66 #[iv i0, iv i1, iv i2, iv i3, iv i4, iv (i0 &&& (3 : Int32)), rv b1, iv (Int32.ofNat ((([] : List Int32) ++ own_un (own_cp i1)) ++ own_un (own_cp i2)).length), .unset, .unset, .unset, .unset, .unset, .unset, .unset] [.int (own_cp i3), .int (Int32.ofNat ((([] : List Int32) ++ own_un (own_cp i1)) ++ own_un (own_cp i2)).length), .ref b1])
        have Sk23 : ∀ x ∈ [b1], Safe Z [("java/lang/String", 7), ("java/lang/StringLatin1", 151), ("java/lang/StringUTF16", 295)] _ _ x := (sfS (Safe.arv hZ.alike V_b1 (by decide)) sf0)
        obtain ⟨_, _, ⟨T23, Lz23, kz23, nz23⟩, -, X23, ⟨Lc23, hQ23, lq23, yq23, zq23⟩, st23⟩ := Jvm.LawKit.callS X22 hx (y := (⟨"com/example/lease/lease/core/InputsLeadingPinLaw", "put", "([CII)I"⟩ : MethodName)) hown (mvT hZ (ow hw 71 rfl)) (mvT hZ (ow hw 72 rfl)) (mvT hZ (ow hw 6 rfl)) (mvT hZ (ow hw 73 rfl)) (by decide) (backOf (W := 0) (rmPW l Z a0 hw [] b1 kA1 ((([] : List Int32) ++ own_un (own_cp i1)) ++ own_un (own_cp i2)) (own_cp i3) h21 n0 O V_b1 (by have q1 := (own_un_len (own_cp i1)).2; have q2 := (own_un_len (own_cp i2)).2; have q3 := (own_un_len (own_cp i3)).2; simp only [List.length_append, List.length_nil]; omega) (own_cpS i3).1 g_b1) hZ (ow hw 73 rfl) (ow hw 6 rfl) (by decide) (by decide)) (g := (mkF m 66 #[iv i0, iv i1, iv i2, iv i3, iv i4, iv (i0 &&& (3 : Int32)), rv b1, iv (Int32.ofNat ((([] : List Int32) ++ own_un (own_cp i1)) ++ own_un (own_cp i2)).length), .unset, .unset, .unset, .unset, .unset, .unset, .unset] [.int (own_cp i3), .int (Int32.ofNat ((([] : List Int32) ++ own_un (own_cp i1)) ++ own_un (own_cp i2)).length), .ref b1])) rfl (by rw [hml]; rfl) (argsL := [(.ref b1), (.int (Int32.ofNat ((([] : List Int32) ++ own_un (own_cp i1)) ++ own_un (own_cp i2)).length)), (.int (own_cp i3))]) (rest := []) (lenOf pd_33 rfl) rfl (by show 2 * 0 + _ ≤ _; exact Nat.le_of_eq rfl) (hb hby at_66) (fun _ _ => ⟨rfl, e22, (by decide : 1 + 0 ≤ _), (by decide : 6 + 0 ≤ _)⟩)
        dsimp only [Pt.U, Pt.locs, Pt.cells, Pt.slots] at X23 lq23 yq23 zq23 st23 hQ23
        subst lq23 yq23 zq23
        obtain ⟨h23, e23⟩ : ∃ z, z = T23.heap := ⟨_, rfl⟩
        rw [← e23] at hQ23
        replace e23 := e23.symm
        obtain ⟨rfl, Nq23, Kq23, hR23⟩ := hQ23
        have N := Fr.app N Nq23
        have HR := HR.trans (CHr.keep Kq23 Sk23 HR.1)
        have hk := Nat.le_trans hk Kq23.1
        have V_b1 := hR23
        have O := O.keep Kq23 (allS g_b1 all0)
        refine gb st23 ?_
        show G T23 (mkF m 69 #[iv i0, iv i1, iv i2, iv i3, iv i4, iv (i0 &&& (3 : Int32)), rv b1, iv (Int32.ofNat ((([] : List Int32) ++ own_un (own_cp i1)) ++ own_un (own_cp i2)).length), .unset, .unset, .unset, .unset, .unset, .unset, .unset] [.int (Int32.ofNat (((([] : List Int32) ++ own_un (own_cp i1)) ++ own_un (own_cp i2)) ++ own_un (own_cp i3)).length)])
        refine gb (fun _ k => XS.istore X23.here hx rfl (hb hby at_69) rfl (l' := #[iv i0, iv i1, iv i2, iv i3, iv i4, iv (i0 &&& (3 : Int32)), rv b1, iv (Int32.ofNat (((([] : List Int32) ++ own_un (own_cp i1)) ++ own_un (own_cp i2)) ++ own_un (own_cp i3)).length), .unset, .unset, .unset, .unset, .unset, .unset, .unset]) rfl k) ?_
        show G T23 (mkF m 71 #[iv i0, iv i1, iv i2, iv i3, iv i4, iv (i0 &&& (3 : Int32)), rv b1, iv (Int32.ofNat (((([] : List Int32) ++ own_un (own_cp i1)) ++ own_un (own_cp i2)) ++ own_un (own_cp i3)).length), .unset, .unset, .unset, .unset, .unset, .unset, .unset] [])
        exact J2 _ _ _ _ _ hS hk hZ hown X23 N e23 HR O ((((([] : List Int32) ++ own_un (own_cp i1)) ++ own_un (own_cp i2)) ++ own_un (own_cp i3))) (V_b1) (by unfold own_ps; rw [if_neg hc17, if_neg hc36, if_neg hc55]; simp only [own_us, List.nil_append, List.append_nil, List.append_assoc])
set_option maxRecDepth 65536 in
set_option maxHeartbeats 40000000 in
theorem comes_1 {Post : Tables → Env → Array Value → State → Outcome → State → Prop} (hpost : ∀ tb e args s v u, (limb_1_1.after args s (.returned v) u = true ∧ limb_1_2.after args s (.returned v) u = true ∧ True) → ReturnedEndW s (.returned v) u (Jvm.fieldLocs frame_1_writes args s ++ Jvm.arrayLocs frame_1_arrays args s ++ Jvm.staticLocs frame_1_statics s) 40 3328 → Post tb e args s (.returned v) u) :
    ArmFor flags0 classFile x code maxLocals ret World_1 tables_1 room_1 Calls_1 rest_1 Pre_1 Post := by
  intro l hfl _ _ p e ha hc hk s m args below hf hA hF happ hP
  obtain ⟨hcalls, hrest, hpre⟩ := hP
  obtain ⟨-, -, -, hnamed, -, -, -, hat⟩ := (Spec.applies_iff hf).mp happ
  obtain ⟨hg, hn⟩ := and_e (Cond.before_iff.mp (show (Jvm.Cond.and given_1 narrow_1).before args s = true from hpre))
  obtain ⟨g1, g2⟩ := and_e hg
  obtain ⟨g3, g4⟩ := and_e g2
  obtain ⟨g5, g6⟩ := and_e g4
  obtain ⟨g7, g8⟩ := and_e g6
  obtain ⟨g9, g10⟩ := and_e g8
  obtain ⟨w0, w1, w2, w3, w4, rfl⟩ : ∃ w0 w1 w2 w3 w4 : Value, args = #[w0, w1, w2, w3, w4] := by
    have hs : args.size = 5 := by simpa [Cond.value, given_1] using g1
    obtain ⟨L⟩ := args
    match L, hs with
    | [w0, w1, w2, w3, w4], _ => exact ⟨w0, w1, w2, w3, w4, rfl⟩
  have hw := fun d (hd : d ∈ tables_1) => atoms_spec (ws := Jvm.Cond.code x code maxLocals ret :: tables_1) hat d (List.mem_cons_of_mem _ hd)
  have hfit : Fit s := fun {y c} hc i hi => by
    obtain ⟨ha, rfl⟩ := Array.getElem?_eq_some_iff.mp hc
    have q := List.all_eq_true.mp ((Array.all_eq_true_iff_forall_mem.mp hF) _ (Array.getElem_mem ha)) i (List.mem_range.mpr hi)
    simpa [Array.getElem?_eq_getElem hi] using q
  obtain ⟨hsets, hown0⟩ := atoms_of _ (rest_1_c_eq ▸ (show rest_1_c.before _ s = true from hrest))
  have hr0 := Cond.before_iff.mp hown0
  obtain ⟨i0, ei0⟩ := is_v g3
  obtain rfl : w0 = (.int i0) := Option.some.inj ei0
  obtain ⟨i1, ei1⟩ := is_v g5
  obtain rfl : w1 = (.int i1) := Option.some.inj ei1
  obtain ⟨i2, ei2⟩ := is_v g7
  obtain rfl : w2 = (.int i2) := Option.some.inj ei2
  obtain ⟨i3, ei3⟩ := is_v g9
  obtain rfl : w3 = (.int i3) := Option.some.inj ei3
  obtain ⟨i4, ei4⟩ := is_v g10
  obtain rfl : w4 = (.int i4) := Option.some.inj ei4
  obtain ⟨zc, ezc⟩ := is_v (Cond.before_iff.mp (hsets _ (List.mem_of_getElem? (i := 1) rfl)))
  have S_cs : Sta s s.heap "java/lang/String" "COMPACT_STRINGS" "Z" (.int zc) := Sta.start ezc (Or.inl (hsets _ (List.mem_of_getElem? (i := 0) rfl)))
  have hzc : ¬ zc = (0 : Int32) := gotF (Cond.eq_ints ezc (Term.int_eval 0)) (not_v (Cond.before_iff.mp (hsets _ (List.mem_of_getElem? (i := 2) rfl))))
  have hs__assertionsDisabled := eqv_i (Term.int_eval (1 : Int32)) (Cond.before_iff.mp (hsets _ (List.mem_of_getElem? (i := 12) rfl)))
  have S_ad : Sta s s.heap "java/lang/StringUTF16" "$assertionsDisabled" "Z" (.int (1 : Int32)) := Sta.start hs__assertionsDisabled (Or.inl (hsets _ (List.mem_of_getElem? (i := 11) rfl)))
  have hs_HI_BYTE_SHIFT := eqv_i (Term.int_eval (0 : Int32)) (Cond.before_iff.mp (hsets _ (List.mem_of_getElem? (i := 15) rfl)))
  have S_hi : Sta s s.heap "java/lang/StringUTF16" "HI_BYTE_SHIFT" "I" (.int (0 : Int32)) := Sta.start hs_HI_BYTE_SHIFT (Or.inl (hsets _ (List.mem_of_getElem? (i := 14) rfl)))
  have hs_LO_BYTE_SHIFT := eqv_i (Term.int_eval (8 : Int32)) (Cond.before_iff.mp (hsets _ (List.mem_of_getElem? (i := 18) rfl)))
  have S_lo : Sta s s.heap "java/lang/StringUTF16" "LO_BYTE_SHIFT" "I" (.int (8 : Int32)) := Sta.start hs_LO_BYTE_SHIFT (Or.inl (hsets _ (List.mem_of_getElem? (i := 17) rfl)))
  obtain ⟨sf, esf, hr_sf⟩ := own_isRef (Cond.before_iff.mp (hsets _ (List.mem_of_getElem? (i := 8) rfl)))
  have S_sf : Sta s s.heap "jdk/internal/util/Preconditions" "SIOOBE_FORMATTER" "Ljava/util/function/BiFunction;" sf := Sta.start esf (Or.inl (hsets _ (List.mem_of_getElem? (i := 7) rfl)))
  have hEL : EW s _ [("java/lang/String", 7), ("java/lang/StringLatin1", 151), ("java/lang/StringUTF16", 295)] := EW.cons (ow hw 18 rfl) (by decide) ( EW.cons (ow hw 204 rfl) (by decide) ( EW.cons (ow hw 200 rfl) (by decide) EW.nil))
  have hHC : CHv s [("java/lang/String", 7), ("java/lang/StringLatin1", 151), ("java/lang/StringUTF16", 295)] s.vm s.heap := CHv.start hEL (fun p hp => hcalls.1 p (by
    rcases List.mem_cons.mp hp with rfl | hp
    · exact List.mem_of_getElem? (i := 0) rfl
    · rcases List.mem_cons.mp hp with rfl | hp
      · exact List.mem_of_getElem? (i := 1) rfl
      · cases List.mem_singleton.mp hp; exact List.mem_of_getElem? (i := 2) rfl)) (hsets _ (List.mem_of_getElem? (i := 2) rfl)) (ow hw 19 rfl) (ow hw 2 rfl)
  obtain ⟨n, o, h1, h2, h3, _, L, rfl, ⟨rfl, N⟩, hq⟩ := rm0 l s _ hw tables_1 i0 i1 i2 i3 i4 s.heap s.heap.size (Old.start s) zc S_cs hzc sf hr_sf S_sf S_ad S_hi S_lo hEL hHC p e ha hc hk s m _ below hf ((Spec.applies_iff_loose hf).mp happ).1 ⟨rfl, State.Warmed39.refl s, rfl, rfl⟩ trivial
  refine ⟨n, _, h1, h2, h3, hpost _ _ _ _ _ _ ⟨Cond.after_iff.mpr rfl, Cond.after_iff.mpr (eq_i res_at (Term.int_eval (1)) rfl), trivial⟩ ⟨hq.1, hq.2.1, hq.2.2.1, (hq.2.2.2.sift fun y hy => Or.inr (N y hy)).mono (by decide) (by decide)⟩⟩
theorem main_1_1 : Claimed_1_1 := comes_1 fun _ _ _ _ _ _ h hF => ⟨h.1, hF⟩
theorem main_1_2 : Claimed_1_2 := comes_1 fun _ _ _ _ _ _ h hF => ⟨h.2.1, hF⟩
end Jvm.Pilot.@@N@@
namespace Jvm.Pilot.@@N@@
open Jvm Jvm.ClassFile Sem Op Lib Jvm.Free Jvm.Stand Jvm.Pilot.@@N@@.Jvm.D
/-! MADE BY PROGRAM (witnessworld.py) out of the Statement's table words and the real class files: 24 classes; the members and pool entries that the words name. The judged class is class 1, her method 1. -/
namespace start1
open Jvm.ClassFile
def u (s : String) : CpInfo := .utf8 (stringToUtf16 s)
/-- a pool by its gaps: so many unusable entries, then the entry; so many at the end -/
def gap : Nat → List CpInfo → List CpInfo
  | 0, r => r
  | n + 1, r => .unusable :: gap n r
def poolList (es : List (Nat × CpInfo)) (last : Nat) : List CpInfo := es.foldr (fun e r => gap e.1 (e.2 :: r)) (gap last [])
def pool (es : List (Nat × CpInfo)) (last : Nat) : Array CpInfo := ⟨poolList es last⟩
def fileOf (pool : Array CpInfo) (this : Nat) (attrs : Array Attribute := #[]) (ms : Array MethodInfo := #[]) (fl : Nat := 33) (sup : Nat := 0) (ifs : Array Nat := #[]) (fds : Array FieldInfo := #[]) : ClassFile where
  minorVersion := 0
  majorVersion := 65
  constantPool := pool
  accessFlags := fl
  thisClass := this
  superClass := sup
  interfaces := ifs
  fields := fds
  methods := ms
  attributes := attrs
def plain (name : String) (sup : Option ClassId) : Class where
  name := name
  kind := .ordinary
  loader := none
  accessFlags := 33
  super := sup
  interfaces := #[]
  cf := none
  fields := #[]
  methods := #[]
  instanceTypes := #[]
  staticTypes := #[]
  resolved := #[]
  callSites := []
  init := .initialized
  statics := none
  mirror := none

def pool0 : Array CpInfo := pool [(5, u "<init>"), (0, u "()V"), (1, .class_ 10), (1, u "java/lang/Object")] 113

def k0c0 : Code := { maxStack := 0, maxLocals := 1, code := object_method_1_code, exceptionTable := #[], attributes := #[] }
def k0m0 : Method := { name := "<init>", desc := "()V", sig := { parameters := [], returnType := none }, accessFlags := 1, code := some k0c0 }
/-- java/lang/Object -/
def k0 : Class := { plain "java/lang/Object" none with
  accessFlags := 33
  interfaces := #[]
  cf := some (fileOf pool0 8 #[] #[{ accessFlags := 1, nameIndex := 5, descriptorIndex := 6, attributes := #[] }] 33 0 #[] #[])
  fields := #[]
  methods := #[k0m0]
  instanceTypes := #[]
  staticTypes := #[]
  resolved := Array.replicate 124 none
  statics := none }

def pool1 : Array CpInfo := pool [(2, .class_ 4), (1, u "java/lang/Object"), (0, u "<init>"), (0, u "()V"), (0, .methodref 8 9), (0, .class_ 10), (0, .nameAndType 11 12), (0, u "com/example/lease/lease/core/InputsLeadingPinLaw"), (0, u "cp"), (0, u "(I)I"), (0, .methodref 8 14), (0, .nameAndType 15 16), (0, u "put"), (0, u "([CII)I"), (0, .class_ 18), (0, u "java/lang/String"), (0, .methodref 8 20), (0, .nameAndType 21 22), (0, u "exact"), (0, u "([CI)[C"), (0, .methodref 17 24), (0, .nameAndType 5 25), (0, u "([C)V"), (0, .methodref 8 27), (0, .nameAndType 28 12), (0, u "size"), (0, .methodref 8 30), (0, .nameAndType 31 12), (0, u "units"), (0, .methodref 33 34), (0, .class_ 35), (0, .nameAndType 36 37), (0, u "com/example/lease/lease/core/Inputs"), (0, u "leading"), (0, u "(Ljava/lang/String;I)Ljava/lang/String;"), (0, .methodref 17 39), (0, .nameAndType 40 41), (0, u "equals"), (0, u "(Ljava/lang/Object;)Z"), (0, .integer 61440), (0, .integer 55296), (0, .integer 65536), (0, .integer 1048575), (0, .integer 56320), (2, u "law"), (0, u "(IIIII)Z")] 5

def k1m0 : Method := { name := "<init>", desc := "()V", sig := { parameters := [], returnType := none }, accessFlags := 1, code := none }
def k1c1 : Code := { maxStack := 4, maxLocals := 15, code := code, exceptionTable := #[], attributes := #[] }
def k1m1 : Method := { name := "law", desc := "(IIIII)Z", sig := { parameters := [.int, .int, .int, .int, .int], returnType := some .boolean }, accessFlags := 9, code := some k1c1 }
def k1c2 : Code := { maxStack := 2, maxLocals := 1, code := method_3_code, exceptionTable := #[], attributes := #[] }
def k1m2 : Method := { name := "size", desc := "(I)I", sig := { parameters := [.int], returnType := some .int }, accessFlags := 10, code := some k1c2 }
def k1c3 : Code := { maxStack := 2, maxLocals := 1, code := method_4_code, exceptionTable := #[], attributes := #[] }
def k1m3 : Method := { name := "units", desc := "(I)I", sig := { parameters := [.int], returnType := some .int }, accessFlags := 10, code := some k1c3 }
def k1c4 : Code := { maxStack := 3, maxLocals := 4, code := method_5_code, exceptionTable := #[], attributes := #[] }
def k1m4 : Method := { name := "cp", desc := "(I)I", sig := { parameters := [.int], returnType := some .int }, accessFlags := 10, code := some k1c4 }
def k1c5 : Code := { maxStack := 5, maxLocals := 4, code := method_6_code, exceptionTable := #[], attributes := #[] }
def k1m5 : Method := { name := "put", desc := "([CII)I", sig := { parameters := [(.array .char), .int, .int], returnType := some .int }, accessFlags := 10, code := some k1c5 }
def k1c6 : Code := { maxStack := 4, maxLocals := 3, code := method_7_code, exceptionTable := #[], attributes := #[] }
def k1m6 : Method := { name := "exact", desc := "([CI)[C", sig := { parameters := [(.array .char), .int], returnType := some (.array .char) }, accessFlags := 10, code := some k1c6 }
/-- com/example/lease/lease/core/InputsLeadingPinLaw -/
def k1 : Class := { plain "com/example/lease/lease/core/InputsLeadingPinLaw" (some 0) with
  accessFlags := 49
  interfaces := #[]
  cf := some (fileOf pool1 8 #[] #[{ accessFlags := 1, nameIndex := 5, descriptorIndex := 6, attributes := #[] }, { accessFlags := 9, nameIndex := 49, descriptorIndex := 50, attributes := #[] }, { accessFlags := 10, nameIndex := 28, descriptorIndex := 12, attributes := #[] }, { accessFlags := 10, nameIndex := 31, descriptorIndex := 12, attributes := #[] }, { accessFlags := 10, nameIndex := 11, descriptorIndex := 12, attributes := #[] }, { accessFlags := 10, nameIndex := 15, descriptorIndex := 16, attributes := #[] }, { accessFlags := 10, nameIndex := 21, descriptorIndex := 22, attributes := #[] }] 49 2 #[] #[])
  fields := #[]
  methods := #[k1m0, k1m1, k1m2, k1m3, k1m4, k1m5, k1m6]
  instanceTypes := #[]
  staticTypes := #[]
  resolved := Array.replicate 56 none
  statics := none }

def pool2 : Array CpInfo := pool [(1, .class_ 2), (0, u "java/io/Serializable"), (0, .class_ 4), (0, u "java/lang/Object")] 2

/-- java/io/Serializable -/
def k2 : Class := { plain "java/io/Serializable" (some 0) with
  accessFlags := 1537
  interfaces := #[]
  cf := some (fileOf pool2 1 #[] #[] 1537 3 #[] #[])
  fields := #[]
  methods := #[]
  instanceTypes := #[]
  staticTypes := #[]
  resolved := Array.replicate 7 none
  statics := none }

def pool3 : Array CpInfo := pool [(1, .class_ 2), (0, u "java/lang/Comparable"), (0, .class_ 4), (0, u "java/lang/Object")] 7

/-- java/lang/Comparable -/
def k3 : Class := { plain "java/lang/Comparable" (some 0) with
  accessFlags := 1537
  interfaces := #[]
  cf := some (fileOf pool3 1 #[] #[] 1537 3 #[] #[])
  fields := #[]
  methods := #[]
  instanceTypes := #[]
  staticTypes := #[]
  resolved := Array.replicate 12 none
  statics := none }

def pool4 : Array CpInfo := pool [(2, .class_ 4), (1, u "java/lang/CharSequence"), (42, .class_ 48), (0, u "java/lang/CharSequence$1CodePointIterator"), (10, .class_ 60), (0, u "java/lang/CharSequence$1CharIterator"), (5, .class_ 67), (0, u "java/lang/Object")] 63

/-- java/lang/CharSequence -/
def k4 : Class := { plain "java/lang/CharSequence" (some 0) with
  accessFlags := 1537
  interfaces := #[]
  cf := some (fileOf pool4 2 #[.nestMembers #[47, 59]] #[] 1537 66 #[] #[])
  fields := #[]
  methods := #[]
  instanceTypes := #[]
  staticTypes := #[]
  resolved := Array.replicate 131 none
  statics := none }

def pool5 : Array CpInfo := pool [(1, .class_ 2), (0, u "java/lang/constant/Constable"), (0, .class_ 4), (0, u "java/lang/Object")] 6

/-- java/lang/constant/Constable -/
def k5 : Class := { plain "java/lang/constant/Constable" (some 0) with
  accessFlags := 1537
  interfaces := #[]
  cf := some (fileOf pool5 1 #[] #[] 1537 3 #[] #[])
  fields := #[]
  methods := #[]
  instanceTypes := #[]
  staticTypes := #[]
  resolved := Array.replicate 11 none
  statics := none }

def pool6 : Array CpInfo := pool [(1, .class_ 2), (0, u "java/lang/constant/ConstantDesc"), (0, .class_ 4), (0, u "java/lang/Object")] 32

/-- java/lang/constant/ConstantDesc -/
def k6 : Class := { plain "java/lang/constant/ConstantDesc" (some 0) with
  accessFlags := 1537
  interfaces := #[]
  cf := some (fileOf pool6 1 #[] #[] 1537 3 #[] #[])
  fields := #[]
  methods := #[]
  instanceTypes := #[]
  staticTypes := #[]
  resolved := Array.replicate 37 none
  statics := none }

def pool7 : Array CpInfo := pool [(1, .methodref 2 3), (0, .class_ 4), (0, .nameAndType 5 6), (0, u "java/lang/Object"), (0, u "<init>"), (0, u "()V"), (0, .string 8), (0, u ""), (0, .fieldref 10 11), (0, .class_ 12), (0, .nameAndType 13 14), (0, u "java/lang/String"), (0, u "value"), (0, u "[B"), (0, .fieldref 10 16), (0, .nameAndType 17 18), (0, u "coder"), (0, u "B"), (2, u "hash"), (0, u "I"), (2, u "hashIsZero"), (0, u "Z"), (0, .methodref 10 28), (0, .nameAndType 5 29), (0, u "([CIILjava/lang/Void;)V"), (6, u "checkBoundsOffCount"), (0, u "(III)I"), (0, .fieldref 10 39), (0, .nameAndType 40 26), (0, u "COMPACT_STRINGS"), (1, .class_ 44), (1, u "java/lang/StringUTF16"), (0, u "compress"), (1, .methodref 42 48), (0, .nameAndType 49 50), (0, u "coderFromArrayLen"), (0, u "([BI)B"), (46, u "([BII)I"), (9, .class_ 109), (1, u "java/lang/StringLatin1"), (32, u "()Z"), (34, .methodref 42 178), (0, .nameAndType 45 179), (0, u "([CII)[B"), (31, u "([BB)V"), (122, u "()I"), (0, .methodref 10 336), (0, .nameAndType 17 337), (0, u "()B"), (53, u "(II)V"), (100, .methodref 10 493), (0, .nameAndType 494 142), (0, u "isLatin1"), (4, .methodref 10 500), (0, .nameAndType 501 391), (0, u "checkIndex"), (0, .methodref 42 503), (0, .nameAndType 504 97), (0, u "codePointAt"), (0, .methodref 10 506), (0, .nameAndType 507 334), (0, u "length"), (5, u "checkFromToIndex"), (7, .methodref 10 522), (0, .nameAndType 523 524), (0, u "checkBoundsBeginEnd"), (0, u "(III)V"), (16, .methodref 107 542), (0, .nameAndType 543 544), (0, u "equals"), (0, u "([B[B)Z"), (28, u "(Ljava/lang/Object;)Z"), (1, .class_ 576), (0, u "java/lang/CharSequence"), (22, u "CASE_INSENSITIVE_ORDER"), (0, u "Ljava/util/Comparator;"), (82, u "substring"), (0, u "(II)Ljava/lang/String;"), (0, .methodref 107 686), (0, .nameAndType 687 688), (0, u "newString"), (0, u "([BII)Ljava/lang/String;"), (0, .methodref 42 686), (75, u "(I)I"), (244, u "([C)V"), (42, .fieldref 1054 1055), (0, .class_ 1056), (0, .nameAndType 1057 1058), (0, u "jdk/internal/util/Preconditions"), (0, u "SIOOBE_FORMATTER"), (0, u "Ljava/util/function/BiFunction;"), (0, .methodref 1054 1060), (0, .nameAndType 501 1061), (0, u "(IILjava/util/function/BiFunction;)I"), (0, .methodref 1054 1063), (0, .nameAndType 513 1064), (0, u "(IIILjava/util/function/BiFunction;)I"), (0, .methodref 1054 1066), (0, .nameAndType 1067 1064), (0, u "checkFromIndexSize"), (33, u "serialPersistentFields"), (0, u "[Ljava/io/ObjectStreamField;"), (0, .class_ 1104), (0, u "java/lang/String$CaseInsensitiveComparator"), (1, .class_ 1107), (0, u "java/io/Serializable"), (0, .class_ 1109), (0, u "java/lang/Comparable"), (0, .class_ 1111), (0, u "java/lang/constant/Constable"), (0, .class_ 1113), (0, u "java/lang/constant/ConstantDesc"), (2, u "serialVersionUID"), (0, u "J"), (3, u "REPL"), (0, u "C"), (2, u "LATIN1"), (1, u "UTF16")] 323

def k7m0 : Method := { name := "<init>", desc := "()V", sig := { parameters := [], returnType := none }, accessFlags := 1, code := none }
def k7c1 : Code := { maxStack := 5, maxLocals := 2, code := jdk_42_method_3_code, exceptionTable := #[], attributes := #[] }
def k7m1 : Method := { name := "<init>", desc := "([C)V", sig := { parameters := [(.array .char)], returnType := none }, accessFlags := 1, code := some k7c1 }
def k7c2 : Code := { maxStack := 2, maxLocals := 1, code := jdk_42_method_54_code, exceptionTable := #[], attributes := #[] }
def k7m2 : Method := { name := "length", desc := "()I", sig := { parameters := [], returnType := some .int }, accessFlags := 1, code := some k7c2 }
def k7c3 : Code := { maxStack := 3, maxLocals := 3, code := jdk_42_method_57_code, exceptionTable := #[], attributes := #[] }
def k7m3 : Method := { name := "codePointAt", desc := "(I)I", sig := { parameters := [.int], returnType := some .int }, accessFlags := 1, code := some k7c3 }
def k7c4 : Code := { maxStack := 2, maxLocals := 3, code := jdk_42_method_66_code, exceptionTable := #[], attributes := #[] }
def k7m4 : Method := { name := "equals", desc := "(Ljava/lang/Object;)Z", sig := { parameters := [(.object "java/lang/Object")], returnType := some .boolean }, accessFlags := 1, code := some k7c4 }
def k7c5 : Code := { maxStack := 3, maxLocals := 5, code := jdk_42_method_92_code, exceptionTable := #[], attributes := #[] }
def k7m5 : Method := { name := "substring", desc := "(II)Ljava/lang/String;", sig := { parameters := [.int, .int], returnType := some (.object "java/lang/String") }, accessFlags := 1, code := some k7c5 }
def k7c6 : Code := { maxStack := 4, maxLocals := 6, code := jdk_42_method_149_code, exceptionTable := #[], attributes := #[] }
def k7m6 : Method := { name := "<init>", desc := "([CIILjava/lang/Void;)V", sig := { parameters := [(.array .char), .int, .int, (.object "java/lang/Void")], returnType := none }, accessFlags := 2, code := some k7c6 }
def k7c7 : Code := { maxStack := 2, maxLocals := 3, code := jdk_42_method_151_code, exceptionTable := #[], attributes := #[] }
def k7m7 : Method := { name := "<init>", desc := "([BB)V", sig := { parameters := [(.array .byte), .byte], returnType := none }, accessFlags := 0, code := some k7c7 }
def k7c8 : Code := { maxStack := 1, maxLocals := 1, code := jdk_42_method_152_code, exceptionTable := #[], attributes := #[] }
def k7m8 : Method := { name := "coder", desc := "()B", sig := { parameters := [], returnType := some .byte }, accessFlags := 0, code := some k7c8 }
def k7c9 : Code := { maxStack := 1, maxLocals := 1, code := jdk_42_method_154_code, exceptionTable := #[], attributes := #[] }
def k7m9 : Method := { name := "isLatin1", desc := "()Z", sig := { parameters := [], returnType := some .boolean }, accessFlags := 0, code := some k7c9 }
def k7c10 : Code := { maxStack := 3, maxLocals := 2, code := jdk_42_method_155_code, exceptionTable := #[], attributes := #[] }
def k7m10 : Method := { name := "checkIndex", desc := "(II)V", sig := { parameters := [.int, .int], returnType := none }, accessFlags := 8, code := some k7c10 }
def k7c11 : Code := { maxStack := 4, maxLocals := 3, code := jdk_42_method_157_code, exceptionTable := #[], attributes := #[] }
def k7m11 : Method := { name := "checkBoundsOffCount", desc := "(III)I", sig := { parameters := [.int, .int, .int], returnType := some .int }, accessFlags := 8, code := some k7c11 }
def k7c12 : Code := { maxStack := 4, maxLocals := 3, code := jdk_42_method_158_code, exceptionTable := #[], attributes := #[] }
def k7m12 : Method := { name := "checkBoundsBeginEnd", desc := "(III)V", sig := { parameters := [.int, .int, .int], returnType := none }, accessFlags := 8, code := some k7c12 }
/-- java/lang/String -/
def k7 : Class := { plain "java/lang/String" (some 0) with
  accessFlags := 49
  interfaces := #[2, 3, 4, 5, 6]
  cf := some (fileOf pool7 10 #[.nestMembers #[1103]] #[{ accessFlags := 1, nameIndex := 5, descriptorIndex := 6, attributes := #[] }, { accessFlags := 1, nameIndex := 5, descriptorIndex := 1010, attributes := #[] }, { accessFlags := 1, nameIndex := 507, descriptorIndex := 334, attributes := #[] }, { accessFlags := 1, nameIndex := 504, descriptorIndex := 765, attributes := #[] }, { accessFlags := 1, nameIndex := 543, descriptorIndex := 573, attributes := #[] }, { accessFlags := 1, nameIndex := 683, descriptorIndex := 684, attributes := #[] }, { accessFlags := 2, nameIndex := 5, descriptorIndex := 29, attributes := #[] }, { accessFlags := 0, nameIndex := 5, descriptorIndex := 211, attributes := #[] }, { accessFlags := 0, nameIndex := 17, descriptorIndex := 337, attributes := #[] }, { accessFlags := 0, nameIndex := 494, descriptorIndex := 142, attributes := #[] }, { accessFlags := 8, nameIndex := 501, descriptorIndex := 391, attributes := #[] }, { accessFlags := 8, nameIndex := 36, descriptorIndex := 37, attributes := #[] }, { accessFlags := 8, nameIndex := 523, descriptorIndex := 524, attributes := #[] }] 49 2 #[1106, 1108, 575, 1110, 1112] #[{ accessFlags := 18, nameIndex := 13, descriptorIndex := 14, attributes := #[] }, { accessFlags := 18, nameIndex := 17, descriptorIndex := 18, attributes := #[] }, { accessFlags := 2, nameIndex := 21, descriptorIndex := 22, attributes := #[] }, { accessFlags := 2, nameIndex := 25, descriptorIndex := 26, attributes := #[] }, { accessFlags := 26, nameIndex := 1116, descriptorIndex := 1117, attributes := #[] }, { accessFlags := 24, nameIndex := 40, descriptorIndex := 26, attributes := #[] }, { accessFlags := 26, nameIndex := 1101, descriptorIndex := 1102, attributes := #[] }, { accessFlags := 26, nameIndex := 1121, descriptorIndex := 1122, attributes := #[] }, { accessFlags := 25, nameIndex := 599, descriptorIndex := 600, attributes := #[] }, { accessFlags := 24, nameIndex := 1125, descriptorIndex := 18, attributes := #[] }, { accessFlags := 24, nameIndex := 1127, descriptorIndex := 18, attributes := #[] }])
  fields := #[{ name := "value", type := (.array .byte), accessFlags := 18, slot := 0, constantValue := 0 }, { name := "coder", type := .byte, accessFlags := 18, slot := 1, constantValue := 0 }, { name := "hash", type := .int, accessFlags := 2, slot := 2, constantValue := 0 }, { name := "hashIsZero", type := .boolean, accessFlags := 2, slot := 3, constantValue := 0 }, { name := "serialVersionUID", type := .long, accessFlags := 26, slot := 0, constantValue := 0 }, { name := "COMPACT_STRINGS", type := .boolean, accessFlags := 24, slot := 1, constantValue := 0 }, { name := "serialPersistentFields", type := (.array (.object "java/io/ObjectStreamField")), accessFlags := 26, slot := 2, constantValue := 0 }, { name := "REPL", type := .char, accessFlags := 26, slot := 3, constantValue := 0 }, { name := "CASE_INSENSITIVE_ORDER", type := (.object "java/util/Comparator"), accessFlags := 25, slot := 4, constantValue := 0 }, { name := "LATIN1", type := .byte, accessFlags := 24, slot := 5, constantValue := 0 }, { name := "UTF16", type := .byte, accessFlags := 24, slot := 6, constantValue := 0 }]
  methods := #[k7m0, k7m1, k7m2, k7m3, k7m4, k7m5, k7m6, k7m7, k7m8, k7m9, k7m10, k7m11, k7m12]
  instanceTypes := #[(.array .byte), .byte, .int, .boolean]
  staticTypes := #[.long, .boolean, (.array (.object "java/io/ObjectStreamField")), .char, (.object "java/util/Comparator"), .byte, .byte]
  resolved := Array.replicate 1451 none
  statics := some 0 }

def pool8 : Array CpInfo := pool [(2, .class_ 4), (1, u "java/lang/Object"), (0, u "<init>"), (0, u "()V"), (3, .class_ 12), (1, u "com/example/lease/lease/core/Inputs"), (3, .class_ 18), (1, u "java/lang/String"), (19, .integer 65536), (18, u "NOT_IN_A_PATH"), (0, u "Ljava/util/regex/Pattern;"), (19, u "(I)I"), (3, .methodref 16 83), (0, .nameAndType 84 85), (0, u "length"), (0, u "()I"), (0, .methodref 16 87), (0, .nameAndType 88 78), (0, u "codePointAt"), (0, .methodref 10 90), (0, .nameAndType 91 78), (0, u "utf8Size"), (0, .methodref 93 94), (0, .class_ 95), (0, .nameAndType 96 78), (0, u "java/lang/Character"), (0, u "charCount"), (0, .methodref 16 98), (0, .nameAndType 99 100), (0, u "substring"), (0, u "(II)Ljava/lang/String;"), (20, u "MAX_COMMAND_BYTES"), (0, u "I"), (5, u "leading"), (0, u "(Ljava/lang/String;I)Ljava/lang/String;")] 24

def k8m0 : Method := { name := "<init>", desc := "()V", sig := { parameters := [], returnType := none }, accessFlags := 2, code := none }
def k8c1 : Code := { maxStack := 3, maxLocals := 6, code := prog_13_method_5_code, exceptionTable := #[], attributes := #[] }
def k8m1 : Method := { name := "leading", desc := "(Ljava/lang/String;I)Ljava/lang/String;", sig := { parameters := [(.object "java/lang/String"), .int], returnType := some (.object "java/lang/String") }, accessFlags := 8, code := some k8c1 }
def k8c2 : Code := { maxStack := 2, maxLocals := 2, code := prog_13_method_6_code, exceptionTable := #[], attributes := #[] }
def k8m2 : Method := { name := "utf8Size", desc := "(I)I", sig := { parameters := [.int], returnType := some .int }, accessFlags := 10, code := some k8c2 }
/-- com/example/lease/lease/core/Inputs -/
def k8 : Class := { plain "com/example/lease/lease/core/Inputs" (some 0) with
  accessFlags := 48
  interfaces := #[]
  cf := some (fileOf pool8 10 #[] #[{ accessFlags := 2, nameIndex := 5, descriptorIndex := 6, attributes := #[] }, { accessFlags := 8, nameIndex := 128, descriptorIndex := 129, attributes := #[] }, { accessFlags := 10, nameIndex := 91, descriptorIndex := 78, attributes := #[] }] 48 2 #[] #[{ accessFlags := 24, nameIndex := 121, descriptorIndex := 122, attributes := #[] }, { accessFlags := 26, nameIndex := 57, descriptorIndex := 58, attributes := #[] }])
  fields := #[{ name := "MAX_COMMAND_BYTES", type := .int, accessFlags := 24, slot := 0, constantValue := 0 }, { name := "NOT_IN_A_PATH", type := (.object "java/util/regex/Pattern"), accessFlags := 26, slot := 1, constantValue := 0 }]
  methods := #[k8m0, k8m1, k8m2]
  instanceTypes := #[]
  staticTypes := #[.int, (.object "java/util/regex/Pattern")]
  resolved := Array.replicate 154 none
  statics := none }

def pool9 : Array CpInfo := pool [(2, .class_ 4), (1, u "java/lang/Object"), (0, u "<init>"), (0, u "()V"), (17, .class_ 26), (1, u "jdk/internal/util/Preconditions"), (6, u "checkIndex"), (13, u "checkFromToIndex"), (1, u "checkFromIndexSize"), (5, .class_ 56), (0, u "jdk/internal/util/Preconditions$4"), (57, .class_ 115), (0, u "jdk/internal/util/Preconditions$1"), (7, u "SIOOBE_FORMATTER"), (0, u "Ljava/util/function/BiFunction;"), (0, .class_ 126), (0, u "jdk/internal/util/Preconditions$2"), (3, u "AIOOBE_FORMATTER"), (0, .class_ 132), (0, u "jdk/internal/util/Preconditions$3"), (3, u "IOOBE_FORMATTER"), (41, u "(IILjava/util/function/BiFunction;)I"), (4, u "(IIILjava/util/function/BiFunction;)I")] 10

def k9m0 : Method := { name := "<init>", desc := "()V", sig := { parameters := [], returnType := none }, accessFlags := 1, code := none }
def k9c1 : Code := { maxStack := 3, maxLocals := 3, code := jdk_41_method_11_code, exceptionTable := #[], attributes := #[] }
def k9m1 : Method := { name := "checkIndex", desc := "(IILjava/util/function/BiFunction;)I", sig := { parameters := [.int, .int, (.object "java/util/function/BiFunction")], returnType := some .int }, accessFlags := 9, code := some k9c1 }
def k9c2 : Code := { maxStack := 4, maxLocals := 4, code := jdk_41_method_12_code, exceptionTable := #[], attributes := #[] }
def k9m2 : Method := { name := "checkFromToIndex", desc := "(IIILjava/util/function/BiFunction;)I", sig := { parameters := [.int, .int, .int, (.object "java/util/function/BiFunction")], returnType := some .int }, accessFlags := 9, code := some k9c2 }
def k9c3 : Code := { maxStack := 4, maxLocals := 4, code := jdk_41_method_13_code, exceptionTable := #[], attributes := #[] }
def k9m3 : Method := { name := "checkFromIndexSize", desc := "(IIILjava/util/function/BiFunction;)I", sig := { parameters := [.int, .int, .int, (.object "java/util/function/BiFunction")], returnType := some .int }, accessFlags := 9, code := some k9c3 }
/-- jdk/internal/util/Preconditions -/
def k9 : Class := { plain "jdk/internal/util/Preconditions" (some 0) with
  accessFlags := 33
  interfaces := #[]
  cf := some (fileOf pool9 24 #[.nestMembers #[55, 131, 125, 114]] #[{ accessFlags := 1, nameIndex := 5, descriptorIndex := 6, attributes := #[] }, { accessFlags := 9, nameIndex := 33, descriptorIndex := 178, attributes := #[] }, { accessFlags := 9, nameIndex := 47, descriptorIndex := 183, attributes := #[] }, { accessFlags := 9, nameIndex := 49, descriptorIndex := 183, attributes := #[] }] 33 2 #[] #[{ accessFlags := 25, nameIndex := 123, descriptorIndex := 124, attributes := #[] }, { accessFlags := 25, nameIndex := 130, descriptorIndex := 124, attributes := #[] }, { accessFlags := 25, nameIndex := 136, descriptorIndex := 124, attributes := #[] }])
  fields := #[{ name := "SIOOBE_FORMATTER", type := (.object "java/util/function/BiFunction"), accessFlags := 25, slot := 0, constantValue := 0 }, { name := "AIOOBE_FORMATTER", type := (.object "java/util/function/BiFunction"), accessFlags := 25, slot := 1, constantValue := 0 }, { name := "IOOBE_FORMATTER", type := (.object "java/util/function/BiFunction"), accessFlags := 25, slot := 2, constantValue := 0 }]
  methods := #[k9m0, k9m1, k9m2, k9m3]
  instanceTypes := #[]
  staticTypes := #[(.object "java/util/function/BiFunction"), (.object "java/util/function/BiFunction"), (.object "java/util/function/BiFunction")]
  resolved := Array.replicate 194 none
  statics := some 1 }

def pool10 : Array CpInfo := pool [(1, .class_ 2), (0, u "java/lang/String"), (1, .class_ 6), (1, u "java/lang/Object"), (0, u "<init>"), (0, u "()V"), (5, .class_ 16), (1, u "java/lang/StringLatin1"), (95, .methodref 1 113), (0, .nameAndType 7 114), (0, u "([BB)V"), (6, u "$assertionsDisabled"), (0, u "Z"), (8, .class_ 133), (1, u "java/util/Arrays"), (17, .string 152), (0, u ""), (43, u "newString"), (0, u "([BII)Ljava/lang/String;"), (23, .class_ 223), (1, u "java/lang/StringLatin1$LinesSpliterator"), (8, .methodref 131 233), (0, .nameAndType 234 235), (0, u "copyOfRange"), (0, u "([BII)[B"), (45, u "equals"), (0, u "([B[B)Z"), (107, .class_ 391), (0, u "java/lang/StringLatin1$CharsSpliterator")] 3

def k10m0 : Method := { name := "<init>", desc := "()V", sig := { parameters := [], returnType := none }, accessFlags := 0, code := none }
def k10c1 : Code := { maxStack := 3, maxLocals := 3, code := jdk_43_method_13_code, exceptionTable := #[], attributes := #[] }
def k10m1 : Method := { name := "equals", desc := "([B[B)Z", sig := { parameters := [(.array .byte), (.array .byte)], returnType := some .boolean }, accessFlags := 9, code := some k10c1 }
def k10c2 : Code := { maxStack := 6, maxLocals := 3, code := jdk_43_method_47_code, exceptionTable := #[], attributes := #[] }
def k10m2 : Method := { name := "newString", desc := "([BII)Ljava/lang/String;", sig := { parameters := [(.array .byte), .int, .int], returnType := some (.object "java/lang/String") }, accessFlags := 9, code := some k10c2 }
/-- java/lang/StringLatin1 -/
def k10 : Class := { plain "java/lang/StringLatin1" (some 0) with
  accessFlags := 48
  interfaces := #[]
  cf := some (fileOf pool10 14 #[.nestMembers #[390, 221]] #[{ accessFlags := 0, nameIndex := 7, descriptorIndex := 8, attributes := #[] }, { accessFlags := 9, nameIndex := 281, descriptorIndex := 282, attributes := #[] }, { accessFlags := 9, nameIndex := 196, descriptorIndex := 197, attributes := #[] }] 48 4 #[] #[{ accessFlags := 4120, nameIndex := 121, descriptorIndex := 122, attributes := #[] }])
  fields := #[{ name := "$assertionsDisabled", type := .boolean, accessFlags := 4120, slot := 0, constantValue := 0 }]
  methods := #[k10m0, k10m1, k10m2]
  instanceTypes := #[]
  staticTypes := #[.boolean]
  resolved := Array.replicate 395 none
  statics := none }

def pool11 : Array CpInfo := pool [(3, .class_ 4), (0, u "java/lang/String"), (1, .class_ 8), (1, u "java/lang/Object"), (0, u "<init>"), (0, u "()V"), (0, .methodref 12 13), (0, .class_ 14), (0, .nameAndType 15 16), (0, u "java/lang/StringUTF16"), (0, u "newBytesLength"), (0, u "(I)I"), (3, .integer 1073741823), (23, .fieldref 12 45), (0, .nameAndType 46 47), (0, u "$assertionsDisabled"), (0, u "Z"), (0, .methodref 12 49), (0, .nameAndType 50 51), (0, u "length"), (0, u "([B)I"), (7, .fieldref 12 60), (0, .nameAndType 61 62), (0, u "HI_BYTE_SHIFT"), (0, u "I"), (0, .fieldref 12 64), (0, .nameAndType 65 62), (0, u "LO_BYTE_SHIFT"), (5, .methodref 12 72), (0, .nameAndType 73 74), (0, u "getChar"), (0, u "([BI)C"), (0, .methodref 76 77), (0, .class_ 78), (0, .nameAndType 79 80), (0, u "java/lang/Character"), (0, u "isHighSurrogate"), (0, u "(C)Z"), (0, .methodref 76 82), (0, .nameAndType 83 80), (0, u "isLowSurrogate"), (0, .methodref 76 85), (0, .nameAndType 86 87), (0, u "toCodePoint"), (0, u "(CC)I"), (0, .methodref 12 89), (0, .nameAndType 90 91), (0, u "codePointAt"), (0, u "([BIIZ)I"), (7, u "(II[B)V"), (7, .methodref 12 108), (0, .nameAndType 109 110), (0, u "newBytesFor"), (0, u "(I)[B"), (0, .methodref 12 112), (0, .nameAndType 113 114), (0, u "putChar"), (0, u "([BII)V"), (0, .methodref 12 116), (0, .nameAndType 117 118), (0, u "compress"), (0, u "([CI[BII)I"), (0, .methodref 12 120), (0, .nameAndType 121 122), (0, u "toBytes"), (0, u "([CII)[B"), (0, .methodref 12 124), (0, .nameAndType 117 125), (0, u "([BI[BII)I"), (0, .methodref 127 128), (0, .class_ 129), (0, .nameAndType 130 131), (0, u "java/util/Arrays"), (0, u "copyOfRange"), (0, u "([BII)[B"), (41, .methodref 12 174), (0, .nameAndType 175 99), (0, u "checkBoundsOffCount"), (74, u "([BII)I"), (0, .fieldref 3 252), (0, .nameAndType 253 47), (0, u "COMPACT_STRINGS"), (3, .methodref 12 258), (0, .nameAndType 117 131), (0, .methodref 12 260), (0, .nameAndType 261 262), (0, u "coderFromArrayLen"), (0, u "([BI)B"), (0, .methodref 3 264), (0, .nameAndType 9 265), (0, u "([BB)V"), (15, u "(III)I"), (13, .string 296), (0, u ""), (30, u "newString"), (0, u "([BII)Ljava/lang/String;"), (40, .class_ 371), (1, u "java/lang/StringUTF16$LinesSpliterator"), (47, .methodref 3 420), (0, .nameAndType 175 281), (9, u "MAX_LENGTH"), (196, .class_ 628), (0, u "java/lang/StringUTF16$CodePointsSpliterator"), (0, .class_ 630), (0, u "java/lang/StringUTF16$CharsSpliterator")] 4

def k11m0 : Method := { name := "<init>", desc := "()V", sig := { parameters := [], returnType := none }, accessFlags := 0, code := none }
def k11c1 : Code := { maxStack := 1, maxLocals := 1, code := jdk_52_method_2_code, exceptionTable := #[], attributes := #[] }
def k11m1 : Method := { name := "newBytesFor", desc := "(I)[B", sig := { parameters := [.int], returnType := some (.array .byte) }, accessFlags := 9, code := some k11c1 }
def k11c2 : Code := { maxStack := 4, maxLocals := 1, code := jdk_52_method_3_code, exceptionTable := #[], attributes := #[] }
def k11m2 : Method := { name := "newBytesLength", desc := "(I)I", sig := { parameters := [.int], returnType := some .int }, accessFlags := 9, code := some k11c2 }
def k11c3 : Code := { maxStack := 4, maxLocals := 3, code := jdk_52_method_4_code, exceptionTable := #[], attributes := #[] }
def k11m3 : Method := { name := "putChar", desc := "([BII)V", sig := { parameters := [(.array .byte), .int, .int], returnType := none }, accessFlags := 8, code := some k11c3 }
def k11c4 : Code := { maxStack := 3, maxLocals := 2, code := jdk_52_method_5_code, exceptionTable := #[], attributes := #[] }
def k11m4 : Method := { name := "getChar", desc := "([BI)C", sig := { parameters := [(.array .byte), .int], returnType := some .char }, accessFlags := 8, code := some k11c4 }
def k11c5 : Code := { maxStack := 2, maxLocals := 1, code := jdk_52_method_6_code, exceptionTable := #[], attributes := #[] }
def k11m5 : Method := { name := "length", desc := "([B)I", sig := { parameters := [(.array .byte)], returnType := some .int }, accessFlags := 9, code := some k11c5 }
def k11c6 : Code := { maxStack := 2, maxLocals := 6, code := jdk_52_method_7_code, exceptionTable := #[], attributes := #[] }
def k11m6 : Method := { name := "codePointAt", desc := "([BIIZ)I", sig := { parameters := [(.array .byte), .int, .int, .boolean], returnType := some .int }, accessFlags := 10, code := some k11c6 }
def k11c7 : Code := { maxStack := 4, maxLocals := 3, code := jdk_52_method_8_code, exceptionTable := #[], attributes := #[] }
def k11m7 : Method := { name := "codePointAt", desc := "([BII)I", sig := { parameters := [(.array .byte), .int, .int], returnType := some .int }, accessFlags := 9, code := some k11c7 }
def k11c8 : Code := { maxStack := 4, maxLocals := 5, code := jdk_52_method_14_code, exceptionTable := #[], attributes := #[] }
def k11m8 : Method := { name := "toBytes", desc := "([CII)[B", sig := { parameters := [(.array .char), .int, .int], returnType := some (.array .byte) }, accessFlags := 9, code := some k11c8 }
def k11c9 : Code := { maxStack := 2, maxLocals := 2, code := jdk_52_method_15_code, exceptionTable := #[], attributes := #[] }
def k11m9 : Method := { name := "coderFromArrayLen", desc := "([BI)B", sig := { parameters := [(.array .byte), .int], returnType := some .byte }, accessFlags := 8, code := some k11c9 }
def k11c10 : Code := { maxStack := 5, maxLocals := 6, code := jdk_52_method_16_code, exceptionTable := #[], attributes := #[] }
def k11m10 : Method := { name := "compress", desc := "([CII)[B", sig := { parameters := [(.array .char), .int, .int], returnType := some (.array .byte) }, accessFlags := 9, code := some k11c10 }
def k11c11 : Code := { maxStack := 5, maxLocals := 6, code := jdk_52_method_17_code, exceptionTable := #[], attributes := #[] }
def k11m11 : Method := { name := "compress", desc := "([BII)[B", sig := { parameters := [(.array .byte), .int, .int], returnType := some (.array .byte) }, accessFlags := 9, code := some k11c11 }
def k11c12 : Code := { maxStack := 3, maxLocals := 7, code := jdk_52_method_21_code, exceptionTable := #[], attributes := #[] }
def k11m12 : Method := { name := "compress", desc := "([CI[BII)I", sig := { parameters := [(.array .char), .int, (.array .byte), .int, .int], returnType := some .int }, accessFlags := 9, code := some k11c12 }
def k11c13 : Code := { maxStack := 3, maxLocals := 7, code := jdk_52_method_22_code, exceptionTable := #[], attributes := #[] }
def k11m13 : Method := { name := "compress", desc := "([BI[BII)I", sig := { parameters := [(.array .byte), .int, (.array .byte), .int, .int], returnType := some .int }, accessFlags := 9, code := some k11c13 }
def k11c14 : Code := { maxStack := 6, maxLocals := 5, code := jdk_52_method_69_code, exceptionTable := #[], attributes := #[] }
def k11m14 : Method := { name := "newString", desc := "([BII)Ljava/lang/String;", sig := { parameters := [(.array .byte), .int, .int], returnType := some (.object "java/lang/String") }, accessFlags := 9, code := some k11c14 }
def k11c15 : Code := { maxStack := 3, maxLocals := 3, code := jdk_52_method_94_code, exceptionTable := #[], attributes := #[] }
def k11m15 : Method := { name := "checkBoundsOffCount", desc := "(II[B)V", sig := { parameters := [.int, .int, (.array .byte)], returnType := none }, accessFlags := 9, code := some k11c15 }
/-- java/lang/StringUTF16 -/
def k11 : Class := { plain "java/lang/StringUTF16" (some 0) with
  accessFlags := 48
  interfaces := #[]
  cf := some (fileOf pool11 12 #[.nestMembers #[627, 629, 369]] #[{ accessFlags := 0, nameIndex := 9, descriptorIndex := 10, attributes := #[] }, { accessFlags := 9, nameIndex := 109, descriptorIndex := 110, attributes := #[] }, { accessFlags := 9, nameIndex := 15, descriptorIndex := 16, attributes := #[] }, { accessFlags := 8, nameIndex := 113, descriptorIndex := 114, attributes := #[] }, { accessFlags := 8, nameIndex := 73, descriptorIndex := 74, attributes := #[] }, { accessFlags := 9, nameIndex := 50, descriptorIndex := 51, attributes := #[] }, { accessFlags := 10, nameIndex := 90, descriptorIndex := 91, attributes := #[] }, { accessFlags := 9, nameIndex := 90, descriptorIndex := 250, attributes := #[] }, { accessFlags := 9, nameIndex := 121, descriptorIndex := 122, attributes := #[] }, { accessFlags := 8, nameIndex := 261, descriptorIndex := 262, attributes := #[] }, { accessFlags := 9, nameIndex := 117, descriptorIndex := 122, attributes := #[] }, { accessFlags := 9, nameIndex := 117, descriptorIndex := 131, attributes := #[] }, { accessFlags := 9, nameIndex := 117, descriptorIndex := 118, attributes := #[] }, { accessFlags := 9, nameIndex := 117, descriptorIndex := 125, attributes := #[] }, { accessFlags := 9, nameIndex := 327, descriptorIndex := 328, attributes := #[] }, { accessFlags := 9, nameIndex := 175, descriptorIndex := 99, attributes := #[] }] 48 6 #[] #[{ accessFlags := 26, nameIndex := 61, descriptorIndex := 62, attributes := #[] }, { accessFlags := 26, nameIndex := 65, descriptorIndex := 62, attributes := #[] }, { accessFlags := 24, nameIndex := 430, descriptorIndex := 62, attributes := #[] }, { accessFlags := 4120, nameIndex := 46, descriptorIndex := 47, attributes := #[] }])
  fields := #[{ name := "HI_BYTE_SHIFT", type := .int, accessFlags := 26, slot := 0, constantValue := 0 }, { name := "LO_BYTE_SHIFT", type := .int, accessFlags := 26, slot := 1, constantValue := 0 }, { name := "MAX_LENGTH", type := .int, accessFlags := 24, slot := 2, constantValue := 0 }, { name := "$assertionsDisabled", type := .boolean, accessFlags := 4120, slot := 3, constantValue := 0 }]
  methods := #[k11m0, k11m1, k11m2, k11m3, k11m4, k11m5, k11m6, k11m7, k11m8, k11m9, k11m10, k11m11, k11m12, k11m13, k11m14, k11m15]
  instanceTypes := #[]
  staticTypes := #[.int, .int, .int, .boolean]
  resolved := Array.replicate 635 none
  statics := some 2 }

def pool12 : Array CpInfo := pool [(1, .class_ 2), (0, u "java/lang/Character"), (18, u "value"), (0, u "C"), (19, .class_ 44), (1, u "java/lang/Object"), (3, .class_ 50), (1, u "java/lang/Character$CharacterCache"), (22, .integer 65536), (1, .integer 55296), (0, .integer 56320), (0, .integer 57344), (2, u "isHighSurrogate"), (0, u "(C)Z"), (2, u "isLowSurrogate"), (0, .integer 4238353408), (12, u "toCodePoint"), (0, u "(CC)I"), (74, u "(I)I"), (109, u "$assertionsDisabled"), (0, u "Z"), (21, .class_ 309), (1, u "java/lang/Character$UnicodeBlock"), (73, u "TYPE"), (0, u "Ljava/lang/Class;"), (0, .class_ 386), (0, u "java/io/Serializable"), (0, .class_ 388), (0, u "java/lang/Comparable"), (0, .class_ 390), (0, u "java/lang/constant/Constable"), (0, u "MIN_RADIX"), (0, u "I"), (2, u "MAX_RADIX"), (1, u "MIN_VALUE"), (1, u "MAX_VALUE"), (3, u "UNASSIGNED"), (0, u "B"), (0, u "UPPERCASE_LETTER"), (1, u "LOWERCASE_LETTER"), (0, u "TITLECASE_LETTER"), (1, u "MODIFIER_LETTER"), (1, u "OTHER_LETTER"), (1, u "NON_SPACING_MARK"), (1, u "ENCLOSING_MARK"), (1, u "COMBINING_SPACING_MARK"), (1, u "DECIMAL_DIGIT_NUMBER"), (1, u "LETTER_NUMBER"), (1, u "OTHER_NUMBER"), (1, u "SPACE_SEPARATOR"), (1, u "LINE_SEPARATOR"), (1, u "PARAGRAPH_SEPARATOR"), (1, u "CONTROL"), (1, u "FORMAT"), (1, u "PRIVATE_USE"), (1, u "SURROGATE"), (1, u "DASH_PUNCTUATION"), (1, u "START_PUNCTUATION"), (1, u "END_PUNCTUATION"), (1, u "CONNECTOR_PUNCTUATION"), (1, u "OTHER_PUNCTUATION"), (1, u "MATH_SYMBOL"), (1, u "CURRENCY_SYMBOL"), (1, u "MODIFIER_SYMBOL"), (1, u "OTHER_SYMBOL"), (1, u "INITIAL_QUOTE_PUNCTUATION"), (1, u "FINAL_QUOTE_PUNCTUATION"), (1, u "ERROR"), (1, u "DIRECTIONALITY_UNDEFINED"), (0, u "DIRECTIONALITY_LEFT_TO_RIGHT"), (0, u "DIRECTIONALITY_RIGHT_TO_LEFT"), (0, u "DIRECTIONALITY_RIGHT_TO_LEFT_ARABIC"), (0, u "DIRECTIONALITY_EUROPEAN_NUMBER"), (0, u "DIRECTIONALITY_EUROPEAN_NUMBER_SEPARATOR"), (0, u "DIRECTIONALITY_EUROPEAN_NUMBER_TERMINATOR"), (0, u "DIRECTIONALITY_ARABIC_NUMBER"), (0, u "DIRECTIONALITY_COMMON_NUMBER_SEPARATOR"), (0, u "DIRECTIONALITY_NONSPACING_MARK"), (0, u "DIRECTIONALITY_BOUNDARY_NEUTRAL"), (0, u "DIRECTIONALITY_PARAGRAPH_SEPARATOR"), (0, u "DIRECTIONALITY_SEGMENT_SEPARATOR"), (0, u "DIRECTIONALITY_WHITESPACE"), (0, u "DIRECTIONALITY_OTHER_NEUTRALS"), (0, u "DIRECTIONALITY_LEFT_TO_RIGHT_EMBEDDING"), (0, u "DIRECTIONALITY_LEFT_TO_RIGHT_OVERRIDE"), (0, u "DIRECTIONALITY_RIGHT_TO_LEFT_EMBEDDING"), (0, u "DIRECTIONALITY_RIGHT_TO_LEFT_OVERRIDE"), (1, u "DIRECTIONALITY_POP_DIRECTIONAL_FORMAT"), (0, u "DIRECTIONALITY_LEFT_TO_RIGHT_ISOLATE"), (0, u "DIRECTIONALITY_RIGHT_TO_LEFT_ISOLATE"), (0, u "DIRECTIONALITY_FIRST_STRONG_ISOLATE"), (0, u "DIRECTIONALITY_POP_DIRECTIONAL_ISOLATE"), (0, u "MIN_HIGH_SURROGATE"), (0, u "MAX_HIGH_SURROGATE"), (1, u "MIN_LOW_SURROGATE"), (0, u "MAX_LOW_SURROGATE"), (1, u "MIN_SURROGATE"), (0, u "MAX_SURROGATE"), (0, u "MIN_SUPPLEMENTARY_CODE_POINT"), (0, u "MIN_CODE_POINT"), (0, u "MAX_CODE_POINT"), (1, u "serialVersionUID"), (0, u "J"), (2, u "SIZE"), (0, u "BYTES"), (29, u "charCount"), (58, .class_ 596), (0, u "java/lang/Character$UnicodeScript"), (0, .class_ 598), (0, u "java/lang/Character$Subset")] 5

def k12c0 : Code := { maxStack := 2, maxLocals := 1, code := jdk_89_method_14_code, exceptionTable := #[], attributes := #[] }
def k12m0 : Method := { name := "isHighSurrogate", desc := "(C)Z", sig := { parameters := [.char], returnType := some .boolean }, accessFlags := 9, code := some k12c0 }
def k12c1 : Code := { maxStack := 2, maxLocals := 1, code := jdk_89_method_15_code, exceptionTable := #[], attributes := #[] }
def k12m1 : Method := { name := "isLowSurrogate", desc := "(C)Z", sig := { parameters := [.char], returnType := some .boolean }, accessFlags := 9, code := some k12c1 }
def k12c2 : Code := { maxStack := 2, maxLocals := 1, code := jdk_89_method_18_code, exceptionTable := #[], attributes := #[] }
def k12m2 : Method := { name := "charCount", desc := "(I)I", sig := { parameters := [.int], returnType := some .int }, accessFlags := 9, code := some k12c2 }
def k12c3 : Code := { maxStack := 2, maxLocals := 2, code := jdk_89_method_19_code, exceptionTable := #[], attributes := #[] }
def k12m3 : Method := { name := "toCodePoint", desc := "(CC)I", sig := { parameters := [.char, .char], returnType := some .int }, accessFlags := 9, code := some k12c3 }
/-- java/lang/Character -/
def k12 : Class := { plain "java/lang/Character" (some 0) with
  accessFlags := 49
  interfaces := #[2, 3, 5]
  cf := some (fileOf pool12 1 #[.nestMembers #[48, 595, 307, 597]] #[{ accessFlags := 9, nameIndex := 80, descriptorIndex := 81, attributes := #[] }, { accessFlags := 9, nameIndex := 84, descriptorIndex := 81, attributes := #[] }, { accessFlags := 9, nameIndex := 536, descriptorIndex := 174, attributes := #[] }, { accessFlags := 9, nameIndex := 98, descriptorIndex := 99, attributes := #[] }] 49 42 #[385, 387, 389] #[{ accessFlags := 25, nameIndex := 391, descriptorIndex := 392, attributes := #[] }, { accessFlags := 25, nameIndex := 395, descriptorIndex := 392, attributes := #[] }, { accessFlags := 25, nameIndex := 397, descriptorIndex := 22, attributes := #[] }, { accessFlags := 25, nameIndex := 399, descriptorIndex := 22, attributes := #[] }, { accessFlags := 25, nameIndex := 383, descriptorIndex := 384, attributes := #[] }, { accessFlags := 25, nameIndex := 403, descriptorIndex := 404, attributes := #[] }, { accessFlags := 25, nameIndex := 405, descriptorIndex := 404, attributes := #[] }, { accessFlags := 25, nameIndex := 407, descriptorIndex := 404, attributes := #[] }, { accessFlags := 25, nameIndex := 408, descriptorIndex := 404, attributes := #[] }, { accessFlags := 25, nameIndex := 410, descriptorIndex := 404, attributes := #[] }, { accessFlags := 25, nameIndex := 412, descriptorIndex := 404, attributes := #[] }, { accessFlags := 25, nameIndex := 414, descriptorIndex := 404, attributes := #[] }, { accessFlags := 25, nameIndex := 416, descriptorIndex := 404, attributes := #[] }, { accessFlags := 25, nameIndex := 418, descriptorIndex := 404, attributes := #[] }, { accessFlags := 25, nameIndex := 420, descriptorIndex := 404, attributes := #[] }, { accessFlags := 25, nameIndex := 422, descriptorIndex := 404, attributes := #[] }, { accessFlags := 25, nameIndex := 424, descriptorIndex := 404, attributes := #[] }, { accessFlags := 25, nameIndex := 426, descriptorIndex := 404, attributes := #[] }, { accessFlags := 25, nameIndex := 428, descriptorIndex := 404, attributes := #[] }, { accessFlags := 25, nameIndex := 430, descriptorIndex := 404, attributes := #[] }, { accessFlags := 25, nameIndex := 432, descriptorIndex := 404, attributes := #[] }, { accessFlags := 25, nameIndex := 434, descriptorIndex := 404, attributes := #[] }, { accessFlags := 25, nameIndex := 436, descriptorIndex := 404, attributes := #[] }, { accessFlags := 25, nameIndex := 438, descriptorIndex := 404, attributes := #[] }, { accessFlags := 25, nameIndex := 440, descriptorIndex := 404, attributes := #[] }, { accessFlags := 25, nameIndex := 442, descriptorIndex := 404, attributes := #[] }, { accessFlags := 25, nameIndex := 444, descriptorIndex := 404, attributes := #[] }, { accessFlags := 25, nameIndex := 446, descriptorIndex := 404, attributes := #[] }, { accessFlags := 25, nameIndex := 448, descriptorIndex := 404, attributes := #[] }, { accessFlags := 25, nameIndex := 450, descriptorIndex := 404, attributes := #[] }, { accessFlags := 25, nameIndex := 452, descriptorIndex := 404, attributes := #[] }, { accessFlags := 25, nameIndex := 454, descriptorIndex := 404, attributes := #[] }, { accessFlags := 25, nameIndex := 456, descriptorIndex := 404, attributes := #[] }, { accessFlags := 25, nameIndex := 458, descriptorIndex := 404, attributes := #[] }, { accessFlags := 25, nameIndex := 460, descriptorIndex := 404, attributes := #[] }, { accessFlags := 24, nameIndex := 462, descriptorIndex := 392, attributes := #[] }, { accessFlags := 25, nameIndex := 464, descriptorIndex := 404, attributes := #[] }, { accessFlags := 25, nameIndex := 465, descriptorIndex := 404, attributes := #[] }, { accessFlags := 25, nameIndex := 466, descriptorIndex := 404, attributes := #[] }, { accessFlags := 25, nameIndex := 467, descriptorIndex := 404, attributes := #[] }, { accessFlags := 25, nameIndex := 468, descriptorIndex := 404, attributes := #[] }, { accessFlags := 25, nameIndex := 469, descriptorIndex := 404, attributes := #[] }, { accessFlags := 25, nameIndex := 470, descriptorIndex := 404, attributes := #[] }, { accessFlags := 25, nameIndex := 471, descriptorIndex := 404, attributes := #[] }, { accessFlags := 25, nameIndex := 472, descriptorIndex := 404, attributes := #[] }, { accessFlags := 25, nameIndex := 473, descriptorIndex := 404, attributes := #[] }, { accessFlags := 25, nameIndex := 474, descriptorIndex := 404, attributes := #[] }, { accessFlags := 25, nameIndex := 475, descriptorIndex := 404, attributes := #[] }, { accessFlags := 25, nameIndex := 476, descriptorIndex := 404, attributes := #[] }, { accessFlags := 25, nameIndex := 477, descriptorIndex := 404, attributes := #[] }, { accessFlags := 25, nameIndex := 478, descriptorIndex := 404, attributes := #[] }, { accessFlags := 25, nameIndex := 479, descriptorIndex := 404, attributes := #[] }, { accessFlags := 25, nameIndex := 480, descriptorIndex := 404, attributes := #[] }, { accessFlags := 25, nameIndex := 481, descriptorIndex := 404, attributes := #[] }, { accessFlags := 25, nameIndex := 482, descriptorIndex := 404, attributes := #[] }, { accessFlags := 25, nameIndex := 484, descriptorIndex := 404, attributes := #[] }, { accessFlags := 25, nameIndex := 485, descriptorIndex := 404, attributes := #[] }, { accessFlags := 25, nameIndex := 486, descriptorIndex := 404, attributes := #[] }, { accessFlags := 25, nameIndex := 487, descriptorIndex := 404, attributes := #[] }, { accessFlags := 25, nameIndex := 488, descriptorIndex := 404, attributes := #[] }, { accessFlags := 25, nameIndex := 489, descriptorIndex := 22, attributes := #[] }, { accessFlags := 25, nameIndex := 490, descriptorIndex := 22, attributes := #[] }, { accessFlags := 25, nameIndex := 492, descriptorIndex := 22, attributes := #[] }, { accessFlags := 25, nameIndex := 493, descriptorIndex := 22, attributes := #[] }, { accessFlags := 25, nameIndex := 495, descriptorIndex := 22, attributes := #[] }, { accessFlags := 25, nameIndex := 496, descriptorIndex := 22, attributes := #[] }, { accessFlags := 25, nameIndex := 497, descriptorIndex := 392, attributes := #[] }, { accessFlags := 25, nameIndex := 498, descriptorIndex := 392, attributes := #[] }, { accessFlags := 25, nameIndex := 499, descriptorIndex := 392, attributes := #[] }, { accessFlags := 18, nameIndex := 21, descriptorIndex := 22, attributes := #[] }, { accessFlags := 26, nameIndex := 501, descriptorIndex := 502, attributes := #[] }, { accessFlags := 25, nameIndex := 505, descriptorIndex := 392, attributes := #[] }, { accessFlags := 25, nameIndex := 506, descriptorIndex := 392, attributes := #[] }, { accessFlags := 4120, nameIndex := 284, descriptorIndex := 285, attributes := #[] }])
  fields := #[{ name := "MIN_RADIX", type := .int, accessFlags := 25, slot := 0, constantValue := 0 }, { name := "MAX_RADIX", type := .int, accessFlags := 25, slot := 1, constantValue := 0 }, { name := "MIN_VALUE", type := .char, accessFlags := 25, slot := 2, constantValue := 0 }, { name := "MAX_VALUE", type := .char, accessFlags := 25, slot := 3, constantValue := 0 }, { name := "TYPE", type := (.object "java/lang/Class"), accessFlags := 25, slot := 4, constantValue := 0 }, { name := "UNASSIGNED", type := .byte, accessFlags := 25, slot := 5, constantValue := 0 }, { name := "UPPERCASE_LETTER", type := .byte, accessFlags := 25, slot := 6, constantValue := 0 }, { name := "LOWERCASE_LETTER", type := .byte, accessFlags := 25, slot := 7, constantValue := 0 }, { name := "TITLECASE_LETTER", type := .byte, accessFlags := 25, slot := 8, constantValue := 0 }, { name := "MODIFIER_LETTER", type := .byte, accessFlags := 25, slot := 9, constantValue := 0 }, { name := "OTHER_LETTER", type := .byte, accessFlags := 25, slot := 10, constantValue := 0 }, { name := "NON_SPACING_MARK", type := .byte, accessFlags := 25, slot := 11, constantValue := 0 }, { name := "ENCLOSING_MARK", type := .byte, accessFlags := 25, slot := 12, constantValue := 0 }, { name := "COMBINING_SPACING_MARK", type := .byte, accessFlags := 25, slot := 13, constantValue := 0 }, { name := "DECIMAL_DIGIT_NUMBER", type := .byte, accessFlags := 25, slot := 14, constantValue := 0 }, { name := "LETTER_NUMBER", type := .byte, accessFlags := 25, slot := 15, constantValue := 0 }, { name := "OTHER_NUMBER", type := .byte, accessFlags := 25, slot := 16, constantValue := 0 }, { name := "SPACE_SEPARATOR", type := .byte, accessFlags := 25, slot := 17, constantValue := 0 }, { name := "LINE_SEPARATOR", type := .byte, accessFlags := 25, slot := 18, constantValue := 0 }, { name := "PARAGRAPH_SEPARATOR", type := .byte, accessFlags := 25, slot := 19, constantValue := 0 }, { name := "CONTROL", type := .byte, accessFlags := 25, slot := 20, constantValue := 0 }, { name := "FORMAT", type := .byte, accessFlags := 25, slot := 21, constantValue := 0 }, { name := "PRIVATE_USE", type := .byte, accessFlags := 25, slot := 22, constantValue := 0 }, { name := "SURROGATE", type := .byte, accessFlags := 25, slot := 23, constantValue := 0 }, { name := "DASH_PUNCTUATION", type := .byte, accessFlags := 25, slot := 24, constantValue := 0 }, { name := "START_PUNCTUATION", type := .byte, accessFlags := 25, slot := 25, constantValue := 0 }, { name := "END_PUNCTUATION", type := .byte, accessFlags := 25, slot := 26, constantValue := 0 }, { name := "CONNECTOR_PUNCTUATION", type := .byte, accessFlags := 25, slot := 27, constantValue := 0 }, { name := "OTHER_PUNCTUATION", type := .byte, accessFlags := 25, slot := 28, constantValue := 0 }, { name := "MATH_SYMBOL", type := .byte, accessFlags := 25, slot := 29, constantValue := 0 }, { name := "CURRENCY_SYMBOL", type := .byte, accessFlags := 25, slot := 30, constantValue := 0 }, { name := "MODIFIER_SYMBOL", type := .byte, accessFlags := 25, slot := 31, constantValue := 0 }, { name := "OTHER_SYMBOL", type := .byte, accessFlags := 25, slot := 32, constantValue := 0 }, { name := "INITIAL_QUOTE_PUNCTUATION", type := .byte, accessFlags := 25, slot := 33, constantValue := 0 }, { name := "FINAL_QUOTE_PUNCTUATION", type := .byte, accessFlags := 25, slot := 34, constantValue := 0 }, { name := "ERROR", type := .int, accessFlags := 24, slot := 35, constantValue := 0 }, { name := "DIRECTIONALITY_UNDEFINED", type := .byte, accessFlags := 25, slot := 36, constantValue := 0 }, { name := "DIRECTIONALITY_LEFT_TO_RIGHT", type := .byte, accessFlags := 25, slot := 37, constantValue := 0 }, { name := "DIRECTIONALITY_RIGHT_TO_LEFT", type := .byte, accessFlags := 25, slot := 38, constantValue := 0 }, { name := "DIRECTIONALITY_RIGHT_TO_LEFT_ARABIC", type := .byte, accessFlags := 25, slot := 39, constantValue := 0 }, { name := "DIRECTIONALITY_EUROPEAN_NUMBER", type := .byte, accessFlags := 25, slot := 40, constantValue := 0 }, { name := "DIRECTIONALITY_EUROPEAN_NUMBER_SEPARATOR", type := .byte, accessFlags := 25, slot := 41, constantValue := 0 }, { name := "DIRECTIONALITY_EUROPEAN_NUMBER_TERMINATOR", type := .byte, accessFlags := 25, slot := 42, constantValue := 0 }, { name := "DIRECTIONALITY_ARABIC_NUMBER", type := .byte, accessFlags := 25, slot := 43, constantValue := 0 }, { name := "DIRECTIONALITY_COMMON_NUMBER_SEPARATOR", type := .byte, accessFlags := 25, slot := 44, constantValue := 0 }, { name := "DIRECTIONALITY_NONSPACING_MARK", type := .byte, accessFlags := 25, slot := 45, constantValue := 0 }, { name := "DIRECTIONALITY_BOUNDARY_NEUTRAL", type := .byte, accessFlags := 25, slot := 46, constantValue := 0 }, { name := "DIRECTIONALITY_PARAGRAPH_SEPARATOR", type := .byte, accessFlags := 25, slot := 47, constantValue := 0 }, { name := "DIRECTIONALITY_SEGMENT_SEPARATOR", type := .byte, accessFlags := 25, slot := 48, constantValue := 0 }, { name := "DIRECTIONALITY_WHITESPACE", type := .byte, accessFlags := 25, slot := 49, constantValue := 0 }, { name := "DIRECTIONALITY_OTHER_NEUTRALS", type := .byte, accessFlags := 25, slot := 50, constantValue := 0 }, { name := "DIRECTIONALITY_LEFT_TO_RIGHT_EMBEDDING", type := .byte, accessFlags := 25, slot := 51, constantValue := 0 }, { name := "DIRECTIONALITY_LEFT_TO_RIGHT_OVERRIDE", type := .byte, accessFlags := 25, slot := 52, constantValue := 0 }, { name := "DIRECTIONALITY_RIGHT_TO_LEFT_EMBEDDING", type := .byte, accessFlags := 25, slot := 53, constantValue := 0 }, { name := "DIRECTIONALITY_RIGHT_TO_LEFT_OVERRIDE", type := .byte, accessFlags := 25, slot := 54, constantValue := 0 }, { name := "DIRECTIONALITY_POP_DIRECTIONAL_FORMAT", type := .byte, accessFlags := 25, slot := 55, constantValue := 0 }, { name := "DIRECTIONALITY_LEFT_TO_RIGHT_ISOLATE", type := .byte, accessFlags := 25, slot := 56, constantValue := 0 }, { name := "DIRECTIONALITY_RIGHT_TO_LEFT_ISOLATE", type := .byte, accessFlags := 25, slot := 57, constantValue := 0 }, { name := "DIRECTIONALITY_FIRST_STRONG_ISOLATE", type := .byte, accessFlags := 25, slot := 58, constantValue := 0 }, { name := "DIRECTIONALITY_POP_DIRECTIONAL_ISOLATE", type := .byte, accessFlags := 25, slot := 59, constantValue := 0 }, { name := "MIN_HIGH_SURROGATE", type := .char, accessFlags := 25, slot := 60, constantValue := 0 }, { name := "MAX_HIGH_SURROGATE", type := .char, accessFlags := 25, slot := 61, constantValue := 0 }, { name := "MIN_LOW_SURROGATE", type := .char, accessFlags := 25, slot := 62, constantValue := 0 }, { name := "MAX_LOW_SURROGATE", type := .char, accessFlags := 25, slot := 63, constantValue := 0 }, { name := "MIN_SURROGATE", type := .char, accessFlags := 25, slot := 64, constantValue := 0 }, { name := "MAX_SURROGATE", type := .char, accessFlags := 25, slot := 65, constantValue := 0 }, { name := "MIN_SUPPLEMENTARY_CODE_POINT", type := .int, accessFlags := 25, slot := 66, constantValue := 0 }, { name := "MIN_CODE_POINT", type := .int, accessFlags := 25, slot := 67, constantValue := 0 }, { name := "MAX_CODE_POINT", type := .int, accessFlags := 25, slot := 68, constantValue := 0 }, { name := "value", type := .char, accessFlags := 18, slot := 0, constantValue := 0 }, { name := "serialVersionUID", type := .long, accessFlags := 26, slot := 69, constantValue := 0 }, { name := "SIZE", type := .int, accessFlags := 25, slot := 70, constantValue := 0 }, { name := "BYTES", type := .int, accessFlags := 25, slot := 71, constantValue := 0 }, { name := "$assertionsDisabled", type := .boolean, accessFlags := 4120, slot := 72, constantValue := 0 }]
  methods := #[k12m0, k12m1, k12m2, k12m3]
  instanceTypes := #[.char]
  staticTypes := #[.int, .int, .char, .char, (.object "java/lang/Class"), .byte, .byte, .byte, .byte, .byte, .byte, .byte, .byte, .byte, .byte, .byte, .byte, .byte, .byte, .byte, .byte, .byte, .byte, .byte, .byte, .byte, .byte, .byte, .byte, .byte, .byte, .byte, .byte, .byte, .byte, .int, .byte, .byte, .byte, .byte, .byte, .byte, .byte, .byte, .byte, .byte, .byte, .byte, .byte, .byte, .byte, .byte, .byte, .byte, .byte, .byte, .byte, .byte, .byte, .byte, .char, .char, .char, .char, .char, .char, .int, .int, .int, .long, .int, .int, .boolean]
  resolved := Array.replicate 604 none
  statics := none }

def pool13 : Array CpInfo := pool [(2, .class_ 4), (1, u "java/lang/Object"), (0, u "<init>"), (0, u "()V"), (7, .class_ 16), (1, u "java/util/Arrays"), (57, .class_ 76), (1, u "java/util/Arrays$NaturalOrder"), (36, .class_ 115), (1, u "java/util/Arrays$LegacyMergeSort"), (1, u "Z"), (21, u "copyOfRange"), (10, .methodref 151 152), (0, .class_ 153), (0, .nameAndType 154 155), (0, u "java/lang/System"), (0, u "arraycopy"), (0, u "(Ljava/lang/Object;ILjava/lang/Object;II)V"), (148, .methodref 305 306), (0, .class_ 307), (0, .nameAndType 308 309), (0, u "java/lang/Math"), (0, u "min"), (0, u "(II)I"), (29, .methodref 14 340), (0, .nameAndType 341 342), (0, u "copyOfRangeByte"), (0, u "([BII)[B"), (0, .methodref 14 344), (0, .nameAndType 345 346), (0, u "checkLength"), (0, u "(II)V"), (28, .class_ 376), (0, u "java/util/Arrays$ArrayList"), (68, u "$assertionsDisabled"), (269, u "MIN_ARRAY_SORT_GRAN"), (0, u "I"), (2, u "INSERTIONSORT_THRESHOLD"), (255, .class_ 976), (0, u "java/util/Arrays$ArrayItr")] 52

def k13m0 : Method := { name := "<init>", desc := "()V", sig := { parameters := [], returnType := none }, accessFlags := 2, code := none }
def k13c1 : Code := { maxStack := 4, maxLocals := 2, code := jdk_65_method_131_code, exceptionTable := #[], attributes := #[] }
def k13m1 : Method := { name := "checkLength", desc := "(II)V", sig := { parameters := [.int, .int], returnType := none }, accessFlags := 10, code := some k13c1 }
def k13c2 : Code := { maxStack := 3, maxLocals := 3, code := jdk_65_method_132_code, exceptionTable := #[], attributes := #[] }
def k13m2 : Method := { name := "copyOfRange", desc := "([BII)[B", sig := { parameters := [(.array .byte), .int, .int], returnType := some (.array .byte) }, accessFlags := 9, code := some k13c2 }
def k13c3 : Code := { maxStack := 6, maxLocals := 5, code := jdk_65_method_133_code, exceptionTable := #[], attributes := #[] }
def k13m3 : Method := { name := "copyOfRangeByte", desc := "([BII)[B", sig := { parameters := [(.array .byte), .int, .int], returnType := some (.array .byte) }, accessFlags := 10, code := some k13c3 }
/-- java/util/Arrays -/
def k13 : Class := { plain "java/util/Arrays" (some 0) with
  accessFlags := 49
  interfaces := #[]
  cf := some (fileOf pool13 14 #[.nestMembers #[975, 375, 113, 74]] #[{ accessFlags := 2, nameIndex := 5, descriptorIndex := 6, attributes := #[] }, { accessFlags := 10, nameIndex := 345, descriptorIndex := 346, attributes := #[] }, { accessFlags := 9, nameIndex := 139, descriptorIndex := 342, attributes := #[] }, { accessFlags := 10, nameIndex := 341, descriptorIndex := 342, attributes := #[] }] 49 2 #[] #[{ accessFlags := 26, nameIndex := 715, descriptorIndex := 716, attributes := #[] }, { accessFlags := 26, nameIndex := 719, descriptorIndex := 716, attributes := #[] }, { accessFlags := 4120, nameIndex := 445, descriptorIndex := 117, attributes := #[] }])
  fields := #[{ name := "MIN_ARRAY_SORT_GRAN", type := .int, accessFlags := 26, slot := 0, constantValue := 0 }, { name := "INSERTIONSORT_THRESHOLD", type := .int, accessFlags := 26, slot := 1, constantValue := 0 }, { name := "$assertionsDisabled", type := .boolean, accessFlags := 4120, slot := 2, constantValue := 0 }]
  methods := #[k13m0, k13m1, k13m2, k13m3]
  instanceTypes := #[]
  staticTypes := #[.int, .int, .boolean]
  resolved := Array.replicate 1029 none
  statics := none }

def pool14 : Array CpInfo := pool [(1, .class_ 2), (0, u "java/lang/Math"), (1, .class_ 6), (1, u "java/lang/Object"), (0, u "<init>"), (0, u "()V"), (89, .class_ 100), (1, u "java/lang/Math$RandomNumberGeneratorHolder"), (71, u "negativeZeroFloatBits"), (0, u "J"), (2, u "negativeZeroDoubleBits"), (24, u "min"), (43, u "$assertionsDisabled"), (0, u "Z"), (88, u "(II)I"), (2, u "twoToTheDoubleScaleDown"), (0, u "D"), (4, u "twoToTheDoubleScaleUp"), (9, u "E"), (3, u "PI"), (2, u "TAU"), (2, u "DEGREES_TO_RADIANS"), (0, u "RADIANS_TO_DEGREES")] 94

def k14m0 : Method := { name := "<init>", desc := "()V", sig := { parameters := [], returnType := none }, accessFlags := 2, code := none }
def k14c1 : Code := { maxStack := 2, maxLocals := 2, code := jdk_29_method_69_code, exceptionTable := #[], attributes := #[] }
def k14m1 : Method := { name := "min", desc := "(II)I", sig := { parameters := [.int, .int], returnType := some .int }, accessFlags := 9, code := some k14c1 }
/-- java/lang/Math -/
def k14 : Class := { plain "java/lang/Math" (some 0) with
  accessFlags := 49
  interfaces := #[]
  cf := some (fileOf pool14 1 #[.nestMembers #[98]] #[{ accessFlags := 2, nameIndex := 7, descriptorIndex := 8, attributes := #[] }, { accessFlags := 9, nameIndex := 201, descriptorIndex := 335, attributes := #[] }] 49 4 #[] #[{ accessFlags := 25, nameIndex := 354, descriptorIndex := 339, attributes := #[] }, { accessFlags := 25, nameIndex := 358, descriptorIndex := 339, attributes := #[] }, { accessFlags := 25, nameIndex := 361, descriptorIndex := 339, attributes := #[] }, { accessFlags := 26, nameIndex := 364, descriptorIndex := 339, attributes := #[] }, { accessFlags := 26, nameIndex := 365, descriptorIndex := 339, attributes := #[] }, { accessFlags := 26, nameIndex := 172, descriptorIndex := 173, attributes := #[] }, { accessFlags := 26, nameIndex := 176, descriptorIndex := 173, attributes := #[] }, { accessFlags := 8, nameIndex := 344, descriptorIndex := 339, attributes := #[] }, { accessFlags := 8, nameIndex := 338, descriptorIndex := 339, attributes := #[] }, { accessFlags := 4120, nameIndex := 245, descriptorIndex := 246, attributes := #[] }])
  fields := #[{ name := "E", type := .double, accessFlags := 25, slot := 0, constantValue := 0 }, { name := "PI", type := .double, accessFlags := 25, slot := 1, constantValue := 0 }, { name := "TAU", type := .double, accessFlags := 25, slot := 2, constantValue := 0 }, { name := "DEGREES_TO_RADIANS", type := .double, accessFlags := 26, slot := 3, constantValue := 0 }, { name := "RADIANS_TO_DEGREES", type := .double, accessFlags := 26, slot := 4, constantValue := 0 }, { name := "negativeZeroFloatBits", type := .long, accessFlags := 26, slot := 5, constantValue := 0 }, { name := "negativeZeroDoubleBits", type := .long, accessFlags := 26, slot := 6, constantValue := 0 }, { name := "twoToTheDoubleScaleUp", type := .double, accessFlags := 8, slot := 7, constantValue := 0 }, { name := "twoToTheDoubleScaleDown", type := .double, accessFlags := 8, slot := 8, constantValue := 0 }, { name := "$assertionsDisabled", type := .boolean, accessFlags := 4120, slot := 9, constantValue := 0 }]
  methods := #[k14m0, k14m1]
  instanceTypes := #[]
  staticTypes := #[.double, .double, .double, .double, .double, .long, .long, .double, .double, .boolean]
  resolved := Array.replicate 460 none
  statics := none }

def pool15 : Array CpInfo := pool [(2, .class_ 4), (1, u "java/lang/Object"), (0, u "<init>"), (0, u "()V"), (1, .class_ 10), (1, u "java/lang/System"), (0, u "allowSecurityManager"), (0, u "I"), (16, u "cons"), (0, u "Ljava/io/Console;"), (77, .class_ 110), (1, u "java/lang/System$CallersHolder"), (43, u "initialErrStream"), (0, u "Ljava/io/PrintStream;"), (19, u "security"), (0, u "Ljava/lang/SecurityManager;"), (31, .class_ 209), (0, u "java/lang/System$1"), (7, u "props"), (0, u "Ljava/util/Properties;"), (2, u "lineSeparator"), (0, u "Ljava/lang/String;"), (96, .class_ 321), (1, u "java/lang/System$LoggerFinder"), (5, .class_ 328), (0, u "java/lang/System$Logger"), (67, u "err"), (2, u "out"), (91, u "notSupportedJnuEncoding"), (15, u "in"), (17, u "initialIn"), (0, u "Ljava/io/InputStream;"), (35, u "bootLayer"), (0, u "Ljava/lang/ModuleLayer;"), (99, .class_ 664), (0, u "java/lang/System$2"), (9, u "NEVER"), (2, u "MAYBE"), (49, u "arraycopy"), (0, u "(Ljava/lang/Object;ILjava/lang/Object;II)V"), (72, .class_ 802), (0, u "java/lang/System$Logger$Level")] 31

def k15m0 : Method := { name := "<init>", desc := "()V", sig := { parameters := [], returnType := none }, accessFlags := 2, code := none }
def k15m1 : Method := { name := "arraycopy", desc := "(Ljava/lang/Object;ILjava/lang/Object;II)V", sig := { parameters := [(.object "java/lang/Object"), .int, (.object "java/lang/Object"), .int, .int], returnType := none }, accessFlags := 265, code := none }
/-- java/lang/System -/
def k15 : Class := { plain "java/lang/System" (some 0) with
  accessFlags := 49
  interfaces := #[]
  cf := some (fileOf pool15 8 #[.nestMembers #[319, 327, 801, 108, 663, 208]] #[{ accessFlags := 2, nameIndex := 5, descriptorIndex := 6, attributes := #[] }, { accessFlags := 265, nameIndex := 727, descriptorIndex := 728, attributes := #[] }] 49 2 #[] #[{ accessFlags := 25, nameIndex := 507, descriptorIndex := 526, attributes := #[] }, { accessFlags := 25, nameIndex := 399, descriptorIndex := 155, attributes := #[] }, { accessFlags := 25, nameIndex := 396, descriptorIndex := 155, attributes := #[] }, { accessFlags := 10, nameIndex := 525, descriptorIndex := 526, attributes := #[] }, { accessFlags := 26, nameIndex := 674, descriptorIndex := 12, attributes := #[] }, { accessFlags := 26, nameIndex := 677, descriptorIndex := 12, attributes := #[] }, { accessFlags := 10, nameIndex := 11, descriptorIndex := 12, attributes := #[] }, { accessFlags := 74, nameIndex := 175, descriptorIndex := 176, attributes := #[] }, { accessFlags := 10, nameIndex := 491, descriptorIndex := 222, attributes := #[] }, { accessFlags := 74, nameIndex := 29, descriptorIndex := 30, attributes := #[] }, { accessFlags := 74, nameIndex := 154, descriptorIndex := 155, attributes := #[] }, { accessFlags := 10, nameIndex := 217, descriptorIndex := 218, attributes := #[] }, { accessFlags := 10, nameIndex := 221, descriptorIndex := 222, attributes := #[] }, { accessFlags := 8, nameIndex := 562, descriptorIndex := 563, attributes := #[] }])
  fields := #[{ name := "in", type := (.object "java/io/InputStream"), accessFlags := 25, slot := 0, constantValue := 0 }, { name := "out", type := (.object "java/io/PrintStream"), accessFlags := 25, slot := 1, constantValue := 0 }, { name := "err", type := (.object "java/io/PrintStream"), accessFlags := 25, slot := 2, constantValue := 0 }, { name := "initialIn", type := (.object "java/io/InputStream"), accessFlags := 10, slot := 3, constantValue := 0 }, { name := "NEVER", type := .int, accessFlags := 26, slot := 4, constantValue := 0 }, { name := "MAYBE", type := .int, accessFlags := 26, slot := 5, constantValue := 0 }, { name := "allowSecurityManager", type := .int, accessFlags := 10, slot := 6, constantValue := 0 }, { name := "security", type := (.object "java/lang/SecurityManager"), accessFlags := 74, slot := 7, constantValue := 0 }, { name := "notSupportedJnuEncoding", type := (.object "java/lang/String"), accessFlags := 10, slot := 8, constantValue := 0 }, { name := "cons", type := (.object "java/io/Console"), accessFlags := 74, slot := 9, constantValue := 0 }, { name := "initialErrStream", type := (.object "java/io/PrintStream"), accessFlags := 74, slot := 10, constantValue := 0 }, { name := "props", type := (.object "java/util/Properties"), accessFlags := 10, slot := 11, constantValue := 0 }, { name := "lineSeparator", type := (.object "java/lang/String"), accessFlags := 10, slot := 12, constantValue := 0 }, { name := "bootLayer", type := (.object "java/lang/ModuleLayer"), accessFlags := 8, slot := 13, constantValue := 0 }]
  methods := #[k15m0, k15m1]
  instanceTypes := #[]
  staticTypes := #[(.object "java/io/InputStream"), (.object "java/io/PrintStream"), (.object "java/io/PrintStream"), (.object "java/io/InputStream"), .int, .int, .int, (.object "java/lang/SecurityManager"), (.object "java/lang/String"), (.object "java/io/Console"), (.object "java/io/PrintStream"), (.object "java/util/Properties"), (.object "java/lang/String"), (.object "java/lang/ModuleLayer")]
  resolved := Array.replicate 834 none
  statics := none }

def pool16 : Array CpInfo := pool [(9, u "<init>"), (6, .class_ 18), (1, u "java/lang/Object"), (0, u "()V"), (1, .class_ 23), (1, u "jdk/internal/util/ArraysSupport"), (0, u "LOG2_ARRAY_LONG_INDEX_SCALE"), (0, u "I"), (2, u "U"), (0, u "Ljdk/internal/misc/Unsafe;"), (8, u "BIG_ENDIAN"), (0, u "Z"), (8, u "LOG2_BYTE_BIT_SIZE"), (4, u "LOG2_ARRAY_INT_INDEX_SCALE"), (54, u "JLA"), (0, u "Ljdk/internal/access/JavaLangAccess;"), (11, u "LOG2_ARRAY_BOOLEAN_INDEX_SCALE"), (9, u "LOG2_ARRAY_BYTE_INDEX_SCALE"), (5, u "LOG2_ARRAY_CHAR_INDEX_SCALE"), (5, u "LOG2_ARRAY_SHORT_INDEX_SCALE"), (18, u "LOG2_ARRAY_FLOAT_INDEX_SCALE"), (24, u "LOG2_ARRAY_DOUBLE_INDEX_SCALE"), (89, u "T_BOOLEAN"), (2, u "T_CHAR"), (1, u "T_FLOAT"), (1, u "T_DOUBLE"), (1, u "T_BYTE"), (1, u "T_SHORT"), (1, u "T_INT"), (1, u "T_LONG"), (1, u "SOFT_MAX_ARRAY_LENGTH")] 83

def k16m0 : Method := { name := "<init>", desc := "()V", sig := { parameters := [], returnType := none }, accessFlags := 2, code := none }
/-- jdk/internal/util/ArraysSupport -/
def k16 : Class := { plain "jdk/internal/util/ArraysSupport" (some 0) with
  accessFlags := 33
  interfaces := #[]
  cf := some (fileOf pool16 21 #[] #[{ accessFlags := 2, nameIndex := 9, descriptorIndex := 19, attributes := #[] }] 33 16 #[] #[{ accessFlags := 24, nameIndex := 28, descriptorIndex := 29, attributes := #[] }, { accessFlags := 26, nameIndex := 38, descriptorIndex := 39, attributes := #[] }, { accessFlags := 25, nameIndex := 121, descriptorIndex := 25, attributes := #[] }, { accessFlags := 25, nameIndex := 131, descriptorIndex := 25, attributes := #[] }, { accessFlags := 25, nameIndex := 137, descriptorIndex := 25, attributes := #[] }, { accessFlags := 25, nameIndex := 143, descriptorIndex := 25, attributes := #[] }, { accessFlags := 25, nameIndex := 53, descriptorIndex := 25, attributes := #[] }, { accessFlags := 25, nameIndex := 24, descriptorIndex := 25, attributes := #[] }, { accessFlags := 25, nameIndex := 162, descriptorIndex := 25, attributes := #[] }, { accessFlags := 25, nameIndex := 187, descriptorIndex := 25, attributes := #[] }, { accessFlags := 26, nameIndex := 48, descriptorIndex := 25, attributes := #[] }, { accessFlags := 25, nameIndex := 277, descriptorIndex := 25, attributes := #[] }, { accessFlags := 25, nameIndex := 280, descriptorIndex := 25, attributes := #[] }, { accessFlags := 25, nameIndex := 282, descriptorIndex := 25, attributes := #[] }, { accessFlags := 25, nameIndex := 284, descriptorIndex := 25, attributes := #[] }, { accessFlags := 25, nameIndex := 286, descriptorIndex := 25, attributes := #[] }, { accessFlags := 25, nameIndex := 288, descriptorIndex := 25, attributes := #[] }, { accessFlags := 25, nameIndex := 290, descriptorIndex := 25, attributes := #[] }, { accessFlags := 25, nameIndex := 292, descriptorIndex := 25, attributes := #[] }, { accessFlags := 26, nameIndex := 108, descriptorIndex := 109, attributes := #[] }, { accessFlags := 25, nameIndex := 294, descriptorIndex := 25, attributes := #[] }])
  fields := #[{ name := "U", type := (.object "jdk/internal/misc/Unsafe"), accessFlags := 24, slot := 0, constantValue := 0 }, { name := "BIG_ENDIAN", type := .boolean, accessFlags := 26, slot := 1, constantValue := 0 }, { name := "LOG2_ARRAY_BOOLEAN_INDEX_SCALE", type := .int, accessFlags := 25, slot := 2, constantValue := 0 }, { name := "LOG2_ARRAY_BYTE_INDEX_SCALE", type := .int, accessFlags := 25, slot := 3, constantValue := 0 }, { name := "LOG2_ARRAY_CHAR_INDEX_SCALE", type := .int, accessFlags := 25, slot := 4, constantValue := 0 }, { name := "LOG2_ARRAY_SHORT_INDEX_SCALE", type := .int, accessFlags := 25, slot := 5, constantValue := 0 }, { name := "LOG2_ARRAY_INT_INDEX_SCALE", type := .int, accessFlags := 25, slot := 6, constantValue := 0 }, { name := "LOG2_ARRAY_LONG_INDEX_SCALE", type := .int, accessFlags := 25, slot := 7, constantValue := 0 }, { name := "LOG2_ARRAY_FLOAT_INDEX_SCALE", type := .int, accessFlags := 25, slot := 8, constantValue := 0 }, { name := "LOG2_ARRAY_DOUBLE_INDEX_SCALE", type := .int, accessFlags := 25, slot := 9, constantValue := 0 }, { name := "LOG2_BYTE_BIT_SIZE", type := .int, accessFlags := 26, slot := 10, constantValue := 0 }, { name := "T_BOOLEAN", type := .int, accessFlags := 25, slot := 11, constantValue := 0 }, { name := "T_CHAR", type := .int, accessFlags := 25, slot := 12, constantValue := 0 }, { name := "T_FLOAT", type := .int, accessFlags := 25, slot := 13, constantValue := 0 }, { name := "T_DOUBLE", type := .int, accessFlags := 25, slot := 14, constantValue := 0 }, { name := "T_BYTE", type := .int, accessFlags := 25, slot := 15, constantValue := 0 }, { name := "T_SHORT", type := .int, accessFlags := 25, slot := 16, constantValue := 0 }, { name := "T_INT", type := .int, accessFlags := 25, slot := 17, constantValue := 0 }, { name := "T_LONG", type := .int, accessFlags := 25, slot := 18, constantValue := 0 }, { name := "JLA", type := (.object "jdk/internal/access/JavaLangAccess"), accessFlags := 26, slot := 19, constantValue := 0 }, { name := "SOFT_MAX_ARRAY_LENGTH", type := .int, accessFlags := 25, slot := 20, constantValue := 0 }]
  methods := #[k16m0]
  instanceTypes := #[]
  staticTypes := #[(.object "jdk/internal/misc/Unsafe"), .boolean, .int, .int, .int, .int, .int, .int, .int, .int, .int, .int, .int, .int, .int, .int, .int, .int, .int, (.object "jdk/internal/access/JavaLangAccess"), .int]
  resolved := Array.replicate 378 none
  statics := none }

def pool17 : Array CpInfo := pool [(1, u "java/lang/Cloneable"), (0, .class_ 1), (0, u "java/lang/Object"), (0, .class_ 3)] 3

/-- java/lang/Cloneable -/
def k17 : Class := { plain "java/lang/Cloneable" (some 0) with
  accessFlags := 1537
  interfaces := #[]
  cf := some (fileOf pool17 2 #[] #[] 1537 4 #[] #[])
  fields := #[]
  methods := #[]
  instanceTypes := #[]
  staticTypes := #[]
  resolved := Array.replicate 8 none
  statics := none }

/-- the primitive byte -/
def k18 : Class := { plain "byte" none with kind := .primitive 'B', accessFlags := 0x411 }
/-- [B -/
def k19 : Class := { plain "[B" (some 0) with kind := .array 18 .byte, interfaces := #[17, 2], accessFlags := 1041 }

/-- the primitive char -/
def k20 : Class := { plain "char" none with kind := .primitive 'C', accessFlags := 0x411 }
/-- [C -/
def k21 : Class := { plain "[C" (some 0) with kind := .array 20 .char, interfaces := #[17, 2], accessFlags := 1041 }

/-- the primitive int -/
def k22 : Class := { plain "int" none with kind := .primitive 'I', accessFlags := 0x411 }
/-- [I -/
def k23 : Class := { plain "[I" (some 0) with kind := .array 22 .int, interfaces := #[17, 2], accessFlags := 1041 }

def heap : Heap := #[{ cls := 7, slots := #[.long 0, .int 1, .null, .int 0, .null, .int 0, .int 0], vm := .statics 7 },
  { cls := 9, slots := #[.null, .null, .null], vm := .statics 9 },
  { cls := 11, slots := #[.int 0, .int 8, .int 0, .int 1], vm := .statics 11 }]
def classes : Array Class := #[k0, k1, k2, k3, k4, k5, k6, k7, k8, k9, k10, k11, k12, k13, k14, k15, k16, k17, k18, k19, k20, k21, k22, k23]
def interned : List (Array UInt16 × Addr) := []
def slotsUsed : Nat := 14
def theMethod : MethodId := ⟨1, 1⟩
def args0 : Array Value := #[.int 5, .int 5, .int 5, .int 5, .int 5]
def aboutOver (below : List Frame) : State where
  vm := { classes := classes, interned := interned.toArray }
  heap := heap
  slotsUsed := slotsUsed
  threads := #[{ frames := .invoking theMethod args0 :: below }]
def below0 : List Frame := [.native { method := ⟨0, 0⟩, args := #[] }]
def about1 : State := aboutOver below0
def p0 : Program := .bare "" "" ""
def e0 : Env := launch0.env 0 0 0
theorem w_frames : about1.frames = Frame.invoking theMethod args0 :: below0 := rfl
set_option maxRecDepth 65536 in
theorem w_args : argsFit about1.vm theMethod args0 = true := by decide +kernel
set_option maxRecDepth 65536 in
theorem w_heap : heapFits about1 = true := by decide +kernel
set_option maxRecDepth 65536 in
theorem w_runnable : about1.curStatus? = some .runnable := by decide +kernel
set_option maxRecDepth 65536 in
theorem w_alone : about1.alone = true := by decide +kernel
set_option maxRecDepth 65536 in
theorem w_named : about1.methodNamed? x = some theMethod := by decide +kernel
set_option maxRecDepth 65536 in
theorem w_hears : about1.hears theMethod below0 = true := by decide +kernel
set_option maxRecDepth 65536 in
theorem w_ripe : about1.ripe theMethod args0 below0 = true := by decide +kernel
theorem w_running : about1.status = .running := rfl
set_option maxRecDepth 65536 in
theorem w_room : about1.hasRoom e0.platform room_1 = true :=
  launch0.hasRoom_least _ room_1 (by decide +kernel) (by decide +kernel) (by decide +kernel) (by decide +kernel) (by decide +kernel) (by decide +kernel)
theorem allAtoms_all (ts : List Jvm.Cond) (a : Array Jvm.Value) (st : Jvm.State) : (allAtoms ts).before a st = ts.all (fun c => c.before a st) := by
  induction ts with
  | nil => rfl
  | cons c t ih =>
    show (Jvm.Cond.and c (allAtoms t)).before a st = _
    rw [Jvm.Cond.before_and, ih, List.all_cons]
def words1 : List Jvm.Cond := Jvm.Cond.code x code maxLocals ret :: tables_1
/-- a 'code' word, met by the world's own term for the bytes: nothing is compared byte by byte -/
theorem code_word {y : MethodName} {bytes : ByteArray} {mx : Nat} {rt : Option FieldType} {a : Array Value} {s : State} {m : MethodId} {meth : Method} {c : Code} (h1 : s.methodNamed? y = some m) (h2 : s.vm.method? m = some meth) (h3 : meth.code = some c) (h4 : c.code = bytes)
    (h5 : (c.maxLocals == mx && c.exceptionTable.isEmpty && decide (c.maxStack ≤ mostOperands) && decide (meth.sig.returnType = rt) && !meth.locks && decide (parseMethodDescriptor y.desc = some meth.sig)) = true) : (Jvm.Cond.code y bytes mx rt).before a s = true := by
  simp only [Bool.and_eq_true, beq_iff_eq, Bool.not_eq_true', decide_eq_true_eq] at h5
  obtain ⟨⟨⟨⟨⟨g1, g2⟩, g3⟩, g4⟩, g5⟩, g6⟩ := h5
  simp [Cond.before, Cond.holds, Cond.value, h1, h2, h3, h4, g1, g2, g3, g4, g5, g6]
def isCode : Jvm.Cond → Bool
  | .code _ _ _ _ => true
  | _ => false
theorem all_split {L : List Jvm.Cond} {P : Jvm.Cond → Bool} (h1 : L.all (fun c => isCode c || P c) = true) (h2 : ∀ c ∈ L.filter isCode, P c = true) : L.all P = true := by
  refine List.all_eq_true.mpr fun c hc => ?_
  have h := List.all_eq_true.mp h1 c hc
  rcases Bool.eq_false_or_eq_true (isCode c) with hi | hi
  · exact h2 c (List.mem_filter.mpr ⟨hc, hi⟩)
  · simpa [hi] using h
set_option maxRecDepth 65536 in
theorem w_c0 : (Jvm.Cond.code x code maxLocals ret).before args0 about1 = true := code_word (m := ⟨1, 1⟩) (meth := k1m1) (c := k1c1) (by decide +kernel) rfl rfl rfl (by decide +kernel)
set_option maxRecDepth 65536 in
theorem w_c1 : (Jvm.Cond.code ({ cls := "com/example/lease/lease/core/InputsLeadingPinLaw", name := "exact", desc := "([CI)[C" } : Jvm.MethodName) method_7_code (3 : Nat) (Option.some (Jvm.ClassFile.FieldType.array Jvm.ClassFile.FieldType.char))).before args0 about1 = true := code_word (m := ⟨1, 6⟩) (meth := k1m6) (c := k1c6) (by decide +kernel) rfl rfl rfl (by decide +kernel)
set_option maxRecDepth 65536 in
theorem w_c2 : (Jvm.Cond.code ({ cls := "java/lang/String", name := "<init>", desc := "([C)V" } : Jvm.MethodName) jdk_42_method_3_code (2 : Nat) (Option.none : Option Jvm.ClassFile.FieldType)).before args0 about1 = true := code_word (m := ⟨7, 1⟩) (meth := k7m1) (c := k7c1) (by decide +kernel) rfl rfl rfl (by decide +kernel)
set_option maxRecDepth 65536 in
theorem w_c3 : (Jvm.Cond.code ({ cls := "java/lang/String", name := "<init>", desc := "([CIILjava/lang/Void;)V" } : Jvm.MethodName) jdk_42_method_149_code (6 : Nat) (Option.none : Option Jvm.ClassFile.FieldType)).before args0 about1 = true := code_word (m := ⟨7, 6⟩) (meth := k7m6) (c := k7c6) (by decide +kernel) rfl rfl rfl (by decide +kernel)
set_option maxRecDepth 65536 in
theorem w_c4 : (Jvm.Cond.code ({ cls := "java/lang/Object", name := "<init>", desc := "()V" } : Jvm.MethodName) object_method_1_code (1 : Nat) (Option.none : Option Jvm.ClassFile.FieldType)).before args0 about1 = true := code_word (m := ⟨0, 0⟩) (meth := k0m0) (c := k0c0) (by decide +kernel) rfl rfl rfl (by decide +kernel)
set_option maxRecDepth 65536 in
theorem w_c5 : (Jvm.Cond.code ({ cls := "com/example/lease/lease/core/InputsLeadingPinLaw", name := "size", desc := "(I)I" } : Jvm.MethodName) method_3_code (1 : Nat) (Option.some Jvm.ClassFile.FieldType.int)).before args0 about1 = true := code_word (m := ⟨1, 2⟩) (meth := k1m2) (c := k1c2) (by decide +kernel) rfl rfl rfl (by decide +kernel)
set_option maxRecDepth 65536 in
theorem w_c6 : (Jvm.Cond.code ({ cls := "com/example/lease/lease/core/Inputs", name := "leading", desc := "(Ljava/lang/String;I)Ljava/lang/String;" } : Jvm.MethodName) prog_13_method_5_code (6 : Nat) (Option.some (Jvm.ClassFile.FieldType.object "java/lang/String"))).before args0 about1 = true := code_word (m := ⟨8, 1⟩) (meth := k8m1) (c := k8c1) (by decide +kernel) rfl rfl rfl (by decide +kernel)
set_option maxRecDepth 65536 in
theorem w_c7 : (Jvm.Cond.code ({ cls := "java/lang/String", name := "length", desc := "()I" } : Jvm.MethodName) jdk_42_method_54_code (1 : Nat) (Option.some Jvm.ClassFile.FieldType.int)).before args0 about1 = true := code_word (m := ⟨7, 2⟩) (meth := k7m2) (c := k7c2) (by decide +kernel) rfl rfl rfl (by decide +kernel)
set_option maxRecDepth 65536 in
theorem w_c8 : (Jvm.Cond.code ({ cls := "java/lang/String", name := "coder", desc := "()B" } : Jvm.MethodName) jdk_42_method_152_code (1 : Nat) (Option.some Jvm.ClassFile.FieldType.byte)).before args0 about1 = true := code_word (m := ⟨7, 8⟩) (meth := k7m8) (c := k7c8) (by decide +kernel) rfl rfl rfl (by decide +kernel)
set_option maxRecDepth 65536 in
theorem w_c9 : (Jvm.Cond.code ({ cls := "java/lang/String", name := "substring", desc := "(II)Ljava/lang/String;" } : Jvm.MethodName) jdk_42_method_92_code (5 : Nat) (Option.some (Jvm.ClassFile.FieldType.object "java/lang/String"))).before args0 about1 = true := code_word (m := ⟨7, 5⟩) (meth := k7m5) (c := k7c5) (by decide +kernel) rfl rfl rfl (by decide +kernel)
set_option maxRecDepth 65536 in
theorem w_c10 : (Jvm.Cond.code ({ cls := "java/lang/String", name := "checkBoundsBeginEnd", desc := "(III)V" } : Jvm.MethodName) jdk_42_method_158_code (3 : Nat) (Option.none : Option Jvm.ClassFile.FieldType)).before args0 about1 = true := code_word (m := ⟨7, 12⟩) (meth := k7m12) (c := k7c12) (by decide +kernel) rfl rfl rfl (by decide +kernel)
set_option maxRecDepth 65536 in
theorem w_c11 : (Jvm.Cond.code ({ cls := "jdk/internal/util/Preconditions", name := "checkFromToIndex", desc := "(IIILjava/util/function/BiFunction;)I" } : Jvm.MethodName) jdk_41_method_12_code (4 : Nat) (Option.some Jvm.ClassFile.FieldType.int)).before args0 about1 = true := code_word (m := ⟨9, 2⟩) (meth := k9m2) (c := k9c2) (by decide +kernel) rfl rfl rfl (by decide +kernel)
set_option maxRecDepth 65536 in
theorem w_c12 : (Jvm.Cond.code ({ cls := "java/lang/String", name := "equals", desc := "(Ljava/lang/Object;)Z" } : Jvm.MethodName) jdk_42_method_66_code (3 : Nat) (Option.some Jvm.ClassFile.FieldType.boolean)).before args0 about1 = true := code_word (m := ⟨7, 4⟩) (meth := k7m4) (c := k7c4) (by decide +kernel) rfl rfl rfl (by decide +kernel)
set_option maxRecDepth 65536 in
theorem w_c13 : (Jvm.Cond.code ({ cls := "java/lang/StringLatin1", name := "equals", desc := "([B[B)Z" } : Jvm.MethodName) jdk_43_method_13_code (3 : Nat) (Option.some Jvm.ClassFile.FieldType.boolean)).before args0 about1 = true := code_word (m := ⟨10, 1⟩) (meth := k10m1) (c := k10c1) (by decide +kernel) rfl rfl rfl (by decide +kernel)
set_option maxRecDepth 65536 in
theorem w_c14 : (Jvm.Cond.code ({ cls := "com/example/lease/lease/core/InputsLeadingPinLaw", name := "cp", desc := "(I)I" } : Jvm.MethodName) method_5_code (4 : Nat) (Option.some Jvm.ClassFile.FieldType.int)).before args0 about1 = true := code_word (m := ⟨1, 4⟩) (meth := k1m4) (c := k1c4) (by decide +kernel) rfl rfl rfl (by decide +kernel)
set_option maxRecDepth 65536 in
theorem w_c15 : (Jvm.Cond.code ({ cls := "com/example/lease/lease/core/InputsLeadingPinLaw", name := "put", desc := "([CII)I" } : Jvm.MethodName) method_6_code (4 : Nat) (Option.some Jvm.ClassFile.FieldType.int)).before args0 about1 = true := code_word (m := ⟨1, 5⟩) (meth := k1m5) (c := k1c5) (by decide +kernel) rfl rfl rfl (by decide +kernel)
set_option maxRecDepth 65536 in
theorem w_c16 : (Jvm.Cond.code ({ cls := "java/lang/StringUTF16", name := "compress", desc := "([CII)[B" } : Jvm.MethodName) jdk_52_method_16_code (6 : Nat) (Option.some (Jvm.ClassFile.FieldType.array Jvm.ClassFile.FieldType.byte))).before args0 about1 = true := code_word (m := ⟨11, 10⟩) (meth := k11m10) (c := k11c10) (by decide +kernel) rfl rfl rfl (by decide +kernel)
set_option maxRecDepth 65536 in
theorem w_c17 : (Jvm.Cond.code ({ cls := "java/lang/StringUTF16", name := "compress", desc := "([CI[BII)I" } : Jvm.MethodName) jdk_52_method_21_code (7 : Nat) (Option.some Jvm.ClassFile.FieldType.int)).before args0 about1 = true := code_word (m := ⟨11, 12⟩) (meth := k11m12) (c := k11c12) (by decide +kernel) rfl rfl rfl (by decide +kernel)
set_option maxRecDepth 65536 in
theorem w_c18 : (Jvm.Cond.code ({ cls := "java/lang/StringUTF16", name := "toBytes", desc := "([CII)[B" } : Jvm.MethodName) jdk_52_method_14_code (5 : Nat) (Option.some (Jvm.ClassFile.FieldType.array Jvm.ClassFile.FieldType.byte))).before args0 about1 = true := code_word (m := ⟨11, 8⟩) (meth := k11m8) (c := k11c8) (by decide +kernel) rfl rfl rfl (by decide +kernel)
set_option maxRecDepth 65536 in
theorem w_c19 : (Jvm.Cond.code ({ cls := "java/lang/StringUTF16", name := "newBytesFor", desc := "(I)[B" } : Jvm.MethodName) jdk_52_method_2_code (1 : Nat) (Option.some (Jvm.ClassFile.FieldType.array Jvm.ClassFile.FieldType.byte))).before args0 about1 = true := code_word (m := ⟨11, 1⟩) (meth := k11m1) (c := k11c1) (by decide +kernel) rfl rfl rfl (by decide +kernel)
set_option maxRecDepth 65536 in
theorem w_c20 : (Jvm.Cond.code ({ cls := "java/lang/StringUTF16", name := "newBytesLength", desc := "(I)I" } : Jvm.MethodName) jdk_52_method_3_code (1 : Nat) (Option.some Jvm.ClassFile.FieldType.int)).before args0 about1 = true := code_word (m := ⟨11, 2⟩) (meth := k11m2) (c := k11c2) (by decide +kernel) rfl rfl rfl (by decide +kernel)
set_option maxRecDepth 65536 in
theorem w_c21 : (Jvm.Cond.code ({ cls := "java/lang/StringUTF16", name := "putChar", desc := "([BII)V" } : Jvm.MethodName) jdk_52_method_4_code (3 : Nat) (Option.none : Option Jvm.ClassFile.FieldType)).before args0 about1 = true := code_word (m := ⟨11, 3⟩) (meth := k11m3) (c := k11c3) (by decide +kernel) rfl rfl rfl (by decide +kernel)
set_option maxRecDepth 65536 in
theorem w_c22 : (Jvm.Cond.code ({ cls := "java/lang/StringUTF16", name := "getChar", desc := "([BI)C" } : Jvm.MethodName) jdk_52_method_5_code (2 : Nat) (Option.some Jvm.ClassFile.FieldType.char)).before args0 about1 = true := code_word (m := ⟨11, 4⟩) (meth := k11m4) (c := k11c4) (by decide +kernel) rfl rfl rfl (by decide +kernel)
set_option maxRecDepth 65536 in
theorem w_c23 : (Jvm.Cond.code ({ cls := "java/lang/StringUTF16", name := "coderFromArrayLen", desc := "([BI)B" } : Jvm.MethodName) jdk_52_method_15_code (2 : Nat) (Option.some Jvm.ClassFile.FieldType.byte)).before args0 about1 = true := code_word (m := ⟨11, 9⟩) (meth := k11m9) (c := k11c9) (by decide +kernel) rfl rfl rfl (by decide +kernel)
set_option maxRecDepth 65536 in
theorem w_c24 : (Jvm.Cond.code ({ cls := "com/example/lease/lease/core/InputsLeadingPinLaw", name := "units", desc := "(I)I" } : Jvm.MethodName) method_4_code (1 : Nat) (Option.some Jvm.ClassFile.FieldType.int)).before args0 about1 = true := code_word (m := ⟨1, 3⟩) (meth := k1m3) (c := k1c3) (by decide +kernel) rfl rfl rfl (by decide +kernel)
set_option maxRecDepth 65536 in
theorem w_c25 : (Jvm.Cond.code ({ cls := "java/lang/String", name := "codePointAt", desc := "(I)I" } : Jvm.MethodName) jdk_42_method_57_code (3 : Nat) (Option.some Jvm.ClassFile.FieldType.int)).before args0 about1 = true := code_word (m := ⟨7, 3⟩) (meth := k7m3) (c := k7c3) (by decide +kernel) rfl rfl rfl (by decide +kernel)
set_option maxRecDepth 65536 in
theorem w_c26 : (Jvm.Cond.code ({ cls := "java/lang/String", name := "isLatin1", desc := "()Z" } : Jvm.MethodName) jdk_42_method_154_code (1 : Nat) (Option.some Jvm.ClassFile.FieldType.boolean)).before args0 about1 = true := code_word (m := ⟨7, 9⟩) (meth := k7m9) (c := k7c9) (by decide +kernel) rfl rfl rfl (by decide +kernel)
set_option maxRecDepth 65536 in
theorem w_c27 : (Jvm.Cond.code ({ cls := "java/lang/String", name := "checkIndex", desc := "(II)V" } : Jvm.MethodName) jdk_42_method_155_code (2 : Nat) (Option.none : Option Jvm.ClassFile.FieldType)).before args0 about1 = true := code_word (m := ⟨7, 10⟩) (meth := k7m10) (c := k7c10) (by decide +kernel) rfl rfl rfl (by decide +kernel)
set_option maxRecDepth 65536 in
theorem w_c28 : (Jvm.Cond.code ({ cls := "jdk/internal/util/Preconditions", name := "checkIndex", desc := "(IILjava/util/function/BiFunction;)I" } : Jvm.MethodName) jdk_41_method_11_code (3 : Nat) (Option.some Jvm.ClassFile.FieldType.int)).before args0 about1 = true := code_word (m := ⟨9, 1⟩) (meth := k9m1) (c := k9c1) (by decide +kernel) rfl rfl rfl (by decide +kernel)
set_option maxRecDepth 65536 in
theorem w_c29 : (Jvm.Cond.code ({ cls := "java/lang/StringUTF16", name := "codePointAt", desc := "([BII)I" } : Jvm.MethodName) jdk_52_method_8_code (3 : Nat) (Option.some Jvm.ClassFile.FieldType.int)).before args0 about1 = true := code_word (m := ⟨11, 7⟩) (meth := k11m7) (c := k11c7) (by decide +kernel) rfl rfl rfl (by decide +kernel)
set_option maxRecDepth 65536 in
theorem w_c30 : (Jvm.Cond.code ({ cls := "java/lang/StringUTF16", name := "codePointAt", desc := "([BIIZ)I" } : Jvm.MethodName) jdk_52_method_7_code (6 : Nat) (Option.some Jvm.ClassFile.FieldType.int)).before args0 about1 = true := code_word (m := ⟨11, 6⟩) (meth := k11m6) (c := k11c6) (by decide +kernel) rfl rfl rfl (by decide +kernel)
set_option maxRecDepth 65536 in
theorem w_c31 : (Jvm.Cond.code ({ cls := "java/lang/Character", name := "isHighSurrogate", desc := "(C)Z" } : Jvm.MethodName) jdk_89_method_14_code (1 : Nat) (Option.some Jvm.ClassFile.FieldType.boolean)).before args0 about1 = true := code_word (m := ⟨12, 0⟩) (meth := k12m0) (c := k12c0) (by decide +kernel) rfl rfl rfl (by decide +kernel)
set_option maxRecDepth 65536 in
theorem w_c32 : (Jvm.Cond.code ({ cls := "com/example/lease/lease/core/Inputs", name := "utf8Size", desc := "(I)I" } : Jvm.MethodName) prog_13_method_6_code (2 : Nat) (Option.some Jvm.ClassFile.FieldType.int)).before args0 about1 = true := code_word (m := ⟨8, 2⟩) (meth := k8m2) (c := k8c2) (by decide +kernel) rfl rfl rfl (by decide +kernel)
set_option maxRecDepth 65536 in
theorem w_c33 : (Jvm.Cond.code ({ cls := "java/lang/Character", name := "charCount", desc := "(I)I" } : Jvm.MethodName) jdk_89_method_18_code (1 : Nat) (Option.some Jvm.ClassFile.FieldType.int)).before args0 about1 = true := code_word (m := ⟨12, 2⟩) (meth := k12m2) (c := k12c2) (by decide +kernel) rfl rfl rfl (by decide +kernel)
set_option maxRecDepth 65536 in
theorem w_c34 : (Jvm.Cond.code ({ cls := "java/lang/Character", name := "isLowSurrogate", desc := "(C)Z" } : Jvm.MethodName) jdk_89_method_15_code (1 : Nat) (Option.some Jvm.ClassFile.FieldType.boolean)).before args0 about1 = true := code_word (m := ⟨12, 1⟩) (meth := k12m1) (c := k12c1) (by decide +kernel) rfl rfl rfl (by decide +kernel)
set_option maxRecDepth 65536 in
theorem w_c35 : (Jvm.Cond.code ({ cls := "java/lang/Character", name := "toCodePoint", desc := "(CC)I" } : Jvm.MethodName) jdk_89_method_19_code (2 : Nat) (Option.some Jvm.ClassFile.FieldType.int)).before args0 about1 = true := code_word (m := ⟨12, 3⟩) (meth := k12m3) (c := k12c3) (by decide +kernel) rfl rfl rfl (by decide +kernel)
set_option maxRecDepth 65536 in
theorem w_c36 : (Jvm.Cond.code ({ cls := "java/lang/StringUTF16", name := "newString", desc := "([BII)Ljava/lang/String;" } : Jvm.MethodName) jdk_52_method_69_code (5 : Nat) (Option.some (Jvm.ClassFile.FieldType.object "java/lang/String"))).before args0 about1 = true := code_word (m := ⟨11, 14⟩) (meth := k11m14) (c := k11c14) (by decide +kernel) rfl rfl rfl (by decide +kernel)
set_option maxRecDepth 65536 in
theorem w_c37 : (Jvm.Cond.code ({ cls := "java/lang/StringUTF16", name := "compress", desc := "([BII)[B" } : Jvm.MethodName) jdk_52_method_17_code (6 : Nat) (Option.some (Jvm.ClassFile.FieldType.array Jvm.ClassFile.FieldType.byte))).before args0 about1 = true := code_word (m := ⟨11, 11⟩) (meth := k11m11) (c := k11c11) (by decide +kernel) rfl rfl rfl (by decide +kernel)
set_option maxRecDepth 65536 in
theorem w_c38 : (Jvm.Cond.code ({ cls := "java/lang/StringUTF16", name := "compress", desc := "([BI[BII)I" } : Jvm.MethodName) jdk_52_method_22_code (7 : Nat) (Option.some Jvm.ClassFile.FieldType.int)).before args0 about1 = true := code_word (m := ⟨11, 13⟩) (meth := k11m13) (c := k11c13) (by decide +kernel) rfl rfl rfl (by decide +kernel)
set_option maxRecDepth 65536 in
theorem w_c39 : (Jvm.Cond.code ({ cls := "java/lang/StringUTF16", name := "checkBoundsOffCount", desc := "(II[B)V" } : Jvm.MethodName) jdk_52_method_94_code (3 : Nat) (Option.none : Option Jvm.ClassFile.FieldType)).before args0 about1 = true := code_word (m := ⟨11, 15⟩) (meth := k11m15) (c := k11c15) (by decide +kernel) rfl rfl rfl (by decide +kernel)
set_option maxRecDepth 65536 in
theorem w_c40 : (Jvm.Cond.code ({ cls := "java/lang/StringUTF16", name := "length", desc := "([B)I" } : Jvm.MethodName) jdk_52_method_6_code (1 : Nat) (Option.some Jvm.ClassFile.FieldType.int)).before args0 about1 = true := code_word (m := ⟨11, 5⟩) (meth := k11m5) (c := k11c5) (by decide +kernel) rfl rfl rfl (by decide +kernel)
set_option maxRecDepth 65536 in
theorem w_c41 : (Jvm.Cond.code ({ cls := "java/lang/String", name := "checkBoundsOffCount", desc := "(III)I" } : Jvm.MethodName) jdk_42_method_157_code (3 : Nat) (Option.some Jvm.ClassFile.FieldType.int)).before args0 about1 = true := code_word (m := ⟨7, 11⟩) (meth := k7m11) (c := k7c11) (by decide +kernel) rfl rfl rfl (by decide +kernel)
set_option maxRecDepth 65536 in
theorem w_c42 : (Jvm.Cond.code ({ cls := "jdk/internal/util/Preconditions", name := "checkFromIndexSize", desc := "(IIILjava/util/function/BiFunction;)I" } : Jvm.MethodName) jdk_41_method_13_code (4 : Nat) (Option.some Jvm.ClassFile.FieldType.int)).before args0 about1 = true := code_word (m := ⟨9, 3⟩) (meth := k9m3) (c := k9c3) (by decide +kernel) rfl rfl rfl (by decide +kernel)
set_option maxRecDepth 65536 in
theorem w_c43 : (Jvm.Cond.code ({ cls := "java/util/Arrays", name := "copyOfRange", desc := "([BII)[B" } : Jvm.MethodName) jdk_65_method_132_code (3 : Nat) (Option.some (Jvm.ClassFile.FieldType.array Jvm.ClassFile.FieldType.byte))).before args0 about1 = true := code_word (m := ⟨13, 2⟩) (meth := k13m2) (c := k13c2) (by decide +kernel) rfl rfl rfl (by decide +kernel)
set_option maxRecDepth 65536 in
theorem w_c44 : (Jvm.Cond.code ({ cls := "java/util/Arrays", name := "copyOfRangeByte", desc := "([BII)[B" } : Jvm.MethodName) jdk_65_method_133_code (5 : Nat) (Option.some (Jvm.ClassFile.FieldType.array Jvm.ClassFile.FieldType.byte))).before args0 about1 = true := code_word (m := ⟨13, 3⟩) (meth := k13m3) (c := k13c3) (by decide +kernel) rfl rfl rfl (by decide +kernel)
set_option maxRecDepth 65536 in
theorem w_c45 : (Jvm.Cond.code ({ cls := "java/util/Arrays", name := "checkLength", desc := "(II)V" } : Jvm.MethodName) jdk_65_method_131_code (2 : Nat) (Option.none : Option Jvm.ClassFile.FieldType)).before args0 about1 = true := code_word (m := ⟨13, 1⟩) (meth := k13m1) (c := k13c1) (by decide +kernel) rfl rfl rfl (by decide +kernel)
set_option maxRecDepth 65536 in
theorem w_c46 : (Jvm.Cond.code ({ cls := "java/lang/Math", name := "min", desc := "(II)I" } : Jvm.MethodName) jdk_29_method_69_code (2 : Nat) (Option.some Jvm.ClassFile.FieldType.int)).before args0 about1 = true := code_word (m := ⟨14, 1⟩) (meth := k14m1) (c := k14c1) (by decide +kernel) rfl rfl rfl (by decide +kernel)
set_option maxRecDepth 65536 in
theorem w_c47 : (Jvm.Cond.code ({ cls := "java/lang/String", name := "<init>", desc := "([BB)V" } : Jvm.MethodName) jdk_42_method_151_code (3 : Nat) (Option.none : Option Jvm.ClassFile.FieldType)).before args0 about1 = true := code_word (m := ⟨7, 7⟩) (meth := k7m7) (c := k7c7) (by decide +kernel) rfl rfl rfl (by decide +kernel)
set_option maxRecDepth 65536 in
theorem w_c48 : (Jvm.Cond.code ({ cls := "java/lang/StringLatin1", name := "newString", desc := "([BII)Ljava/lang/String;" } : Jvm.MethodName) jdk_43_method_47_code (3 : Nat) (Option.some (Jvm.ClassFile.FieldType.object "java/lang/String"))).before args0 about1 = true := code_word (m := ⟨10, 2⟩) (meth := k10m2) (c := k10c2) (by decide +kernel) rfl rfl rfl (by decide +kernel)
def codes1 : List Jvm.Cond := [Jvm.Cond.code x code maxLocals ret, Jvm.Cond.code ({ cls := "com/example/lease/lease/core/InputsLeadingPinLaw", name := "exact", desc := "([CI)[C" } : Jvm.MethodName) method_7_code (3 : Nat) (Option.some (Jvm.ClassFile.FieldType.array Jvm.ClassFile.FieldType.char)), Jvm.Cond.code ({ cls := "java/lang/String", name := "<init>", desc := "([C)V" } : Jvm.MethodName) jdk_42_method_3_code (2 : Nat) (Option.none : Option Jvm.ClassFile.FieldType), Jvm.Cond.code ({ cls := "java/lang/String", name := "<init>", desc := "([CIILjava/lang/Void;)V" } : Jvm.MethodName) jdk_42_method_149_code (6 : Nat) (Option.none : Option Jvm.ClassFile.FieldType), Jvm.Cond.code ({ cls := "java/lang/Object", name := "<init>", desc := "()V" } : Jvm.MethodName) object_method_1_code (1 : Nat) (Option.none : Option Jvm.ClassFile.FieldType), Jvm.Cond.code ({ cls := "com/example/lease/lease/core/InputsLeadingPinLaw", name := "size", desc := "(I)I" } : Jvm.MethodName) method_3_code (1 : Nat) (Option.some Jvm.ClassFile.FieldType.int), Jvm.Cond.code ({ cls := "com/example/lease/lease/core/Inputs", name := "leading", desc := "(Ljava/lang/String;I)Ljava/lang/String;" } : Jvm.MethodName) prog_13_method_5_code (6 : Nat) (Option.some (Jvm.ClassFile.FieldType.object "java/lang/String")), Jvm.Cond.code ({ cls := "java/lang/String", name := "length", desc := "()I" } : Jvm.MethodName) jdk_42_method_54_code (1 : Nat) (Option.some Jvm.ClassFile.FieldType.int), Jvm.Cond.code ({ cls := "java/lang/String", name := "coder", desc := "()B" } : Jvm.MethodName) jdk_42_method_152_code (1 : Nat) (Option.some Jvm.ClassFile.FieldType.byte), Jvm.Cond.code ({ cls := "java/lang/String", name := "substring", desc := "(II)Ljava/lang/String;" } : Jvm.MethodName) jdk_42_method_92_code (5 : Nat) (Option.some (Jvm.ClassFile.FieldType.object "java/lang/String")), Jvm.Cond.code ({ cls := "java/lang/String", name := "checkBoundsBeginEnd", desc := "(III)V" } : Jvm.MethodName) jdk_42_method_158_code (3 : Nat) (Option.none : Option Jvm.ClassFile.FieldType), Jvm.Cond.code ({ cls := "jdk/internal/util/Preconditions", name := "checkFromToIndex", desc := "(IIILjava/util/function/BiFunction;)I" } : Jvm.MethodName) jdk_41_method_12_code (4 : Nat) (Option.some Jvm.ClassFile.FieldType.int), Jvm.Cond.code ({ cls := "java/lang/String", name := "equals", desc := "(Ljava/lang/Object;)Z" } : Jvm.MethodName) jdk_42_method_66_code (3 : Nat) (Option.some Jvm.ClassFile.FieldType.boolean), Jvm.Cond.code ({ cls := "java/lang/StringLatin1", name := "equals", desc := "([B[B)Z" } : Jvm.MethodName) jdk_43_method_13_code (3 : Nat) (Option.some Jvm.ClassFile.FieldType.boolean), Jvm.Cond.code ({ cls := "com/example/lease/lease/core/InputsLeadingPinLaw", name := "cp", desc := "(I)I" } : Jvm.MethodName) method_5_code (4 : Nat) (Option.some Jvm.ClassFile.FieldType.int), Jvm.Cond.code ({ cls := "com/example/lease/lease/core/InputsLeadingPinLaw", name := "put", desc := "([CII)I" } : Jvm.MethodName) method_6_code (4 : Nat) (Option.some Jvm.ClassFile.FieldType.int), Jvm.Cond.code ({ cls := "java/lang/StringUTF16", name := "compress", desc := "([CII)[B" } : Jvm.MethodName) jdk_52_method_16_code (6 : Nat) (Option.some (Jvm.ClassFile.FieldType.array Jvm.ClassFile.FieldType.byte)), Jvm.Cond.code ({ cls := "java/lang/StringUTF16", name := "compress", desc := "([CI[BII)I" } : Jvm.MethodName) jdk_52_method_21_code (7 : Nat) (Option.some Jvm.ClassFile.FieldType.int), Jvm.Cond.code ({ cls := "java/lang/StringUTF16", name := "toBytes", desc := "([CII)[B" } : Jvm.MethodName) jdk_52_method_14_code (5 : Nat) (Option.some (Jvm.ClassFile.FieldType.array Jvm.ClassFile.FieldType.byte)), Jvm.Cond.code ({ cls := "java/lang/StringUTF16", name := "newBytesFor", desc := "(I)[B" } : Jvm.MethodName) jdk_52_method_2_code (1 : Nat) (Option.some (Jvm.ClassFile.FieldType.array Jvm.ClassFile.FieldType.byte)), Jvm.Cond.code ({ cls := "java/lang/StringUTF16", name := "newBytesLength", desc := "(I)I" } : Jvm.MethodName) jdk_52_method_3_code (1 : Nat) (Option.some Jvm.ClassFile.FieldType.int), Jvm.Cond.code ({ cls := "java/lang/StringUTF16", name := "putChar", desc := "([BII)V" } : Jvm.MethodName) jdk_52_method_4_code (3 : Nat) (Option.none : Option Jvm.ClassFile.FieldType), Jvm.Cond.code ({ cls := "java/lang/StringUTF16", name := "getChar", desc := "([BI)C" } : Jvm.MethodName) jdk_52_method_5_code (2 : Nat) (Option.some Jvm.ClassFile.FieldType.char), Jvm.Cond.code ({ cls := "java/lang/StringUTF16", name := "coderFromArrayLen", desc := "([BI)B" } : Jvm.MethodName) jdk_52_method_15_code (2 : Nat) (Option.some Jvm.ClassFile.FieldType.byte), Jvm.Cond.code ({ cls := "com/example/lease/lease/core/InputsLeadingPinLaw", name := "units", desc := "(I)I" } : Jvm.MethodName) method_4_code (1 : Nat) (Option.some Jvm.ClassFile.FieldType.int), Jvm.Cond.code ({ cls := "java/lang/String", name := "codePointAt", desc := "(I)I" } : Jvm.MethodName) jdk_42_method_57_code (3 : Nat) (Option.some Jvm.ClassFile.FieldType.int), Jvm.Cond.code ({ cls := "java/lang/String", name := "isLatin1", desc := "()Z" } : Jvm.MethodName) jdk_42_method_154_code (1 : Nat) (Option.some Jvm.ClassFile.FieldType.boolean), Jvm.Cond.code ({ cls := "java/lang/String", name := "checkIndex", desc := "(II)V" } : Jvm.MethodName) jdk_42_method_155_code (2 : Nat) (Option.none : Option Jvm.ClassFile.FieldType), Jvm.Cond.code ({ cls := "jdk/internal/util/Preconditions", name := "checkIndex", desc := "(IILjava/util/function/BiFunction;)I" } : Jvm.MethodName) jdk_41_method_11_code (3 : Nat) (Option.some Jvm.ClassFile.FieldType.int), Jvm.Cond.code ({ cls := "java/lang/StringUTF16", name := "codePointAt", desc := "([BII)I" } : Jvm.MethodName) jdk_52_method_8_code (3 : Nat) (Option.some Jvm.ClassFile.FieldType.int), Jvm.Cond.code ({ cls := "java/lang/StringUTF16", name := "codePointAt", desc := "([BIIZ)I" } : Jvm.MethodName) jdk_52_method_7_code (6 : Nat) (Option.some Jvm.ClassFile.FieldType.int), Jvm.Cond.code ({ cls := "java/lang/Character", name := "isHighSurrogate", desc := "(C)Z" } : Jvm.MethodName) jdk_89_method_14_code (1 : Nat) (Option.some Jvm.ClassFile.FieldType.boolean), Jvm.Cond.code ({ cls := "com/example/lease/lease/core/Inputs", name := "utf8Size", desc := "(I)I" } : Jvm.MethodName) prog_13_method_6_code (2 : Nat) (Option.some Jvm.ClassFile.FieldType.int), Jvm.Cond.code ({ cls := "java/lang/Character", name := "charCount", desc := "(I)I" } : Jvm.MethodName) jdk_89_method_18_code (1 : Nat) (Option.some Jvm.ClassFile.FieldType.int), Jvm.Cond.code ({ cls := "java/lang/Character", name := "isLowSurrogate", desc := "(C)Z" } : Jvm.MethodName) jdk_89_method_15_code (1 : Nat) (Option.some Jvm.ClassFile.FieldType.boolean), Jvm.Cond.code ({ cls := "java/lang/Character", name := "toCodePoint", desc := "(CC)I" } : Jvm.MethodName) jdk_89_method_19_code (2 : Nat) (Option.some Jvm.ClassFile.FieldType.int), Jvm.Cond.code ({ cls := "java/lang/StringUTF16", name := "newString", desc := "([BII)Ljava/lang/String;" } : Jvm.MethodName) jdk_52_method_69_code (5 : Nat) (Option.some (Jvm.ClassFile.FieldType.object "java/lang/String")), Jvm.Cond.code ({ cls := "java/lang/StringUTF16", name := "compress", desc := "([BII)[B" } : Jvm.MethodName) jdk_52_method_17_code (6 : Nat) (Option.some (Jvm.ClassFile.FieldType.array Jvm.ClassFile.FieldType.byte)), Jvm.Cond.code ({ cls := "java/lang/StringUTF16", name := "compress", desc := "([BI[BII)I" } : Jvm.MethodName) jdk_52_method_22_code (7 : Nat) (Option.some Jvm.ClassFile.FieldType.int), Jvm.Cond.code ({ cls := "java/lang/StringUTF16", name := "checkBoundsOffCount", desc := "(II[B)V" } : Jvm.MethodName) jdk_52_method_94_code (3 : Nat) (Option.none : Option Jvm.ClassFile.FieldType), Jvm.Cond.code ({ cls := "java/lang/StringUTF16", name := "length", desc := "([B)I" } : Jvm.MethodName) jdk_52_method_6_code (1 : Nat) (Option.some Jvm.ClassFile.FieldType.int), Jvm.Cond.code ({ cls := "java/lang/String", name := "checkBoundsOffCount", desc := "(III)I" } : Jvm.MethodName) jdk_42_method_157_code (3 : Nat) (Option.some Jvm.ClassFile.FieldType.int), Jvm.Cond.code ({ cls := "jdk/internal/util/Preconditions", name := "checkFromIndexSize", desc := "(IIILjava/util/function/BiFunction;)I" } : Jvm.MethodName) jdk_41_method_13_code (4 : Nat) (Option.some Jvm.ClassFile.FieldType.int), Jvm.Cond.code ({ cls := "java/util/Arrays", name := "copyOfRange", desc := "([BII)[B" } : Jvm.MethodName) jdk_65_method_132_code (3 : Nat) (Option.some (Jvm.ClassFile.FieldType.array Jvm.ClassFile.FieldType.byte)), Jvm.Cond.code ({ cls := "java/util/Arrays", name := "copyOfRangeByte", desc := "([BII)[B" } : Jvm.MethodName) jdk_65_method_133_code (5 : Nat) (Option.some (Jvm.ClassFile.FieldType.array Jvm.ClassFile.FieldType.byte)), Jvm.Cond.code ({ cls := "java/util/Arrays", name := "checkLength", desc := "(II)V" } : Jvm.MethodName) jdk_65_method_131_code (2 : Nat) (Option.none : Option Jvm.ClassFile.FieldType), Jvm.Cond.code ({ cls := "java/lang/Math", name := "min", desc := "(II)I" } : Jvm.MethodName) jdk_29_method_69_code (2 : Nat) (Option.some Jvm.ClassFile.FieldType.int), Jvm.Cond.code ({ cls := "java/lang/String", name := "<init>", desc := "([BB)V" } : Jvm.MethodName) jdk_42_method_151_code (3 : Nat) (Option.none : Option Jvm.ClassFile.FieldType), Jvm.Cond.code ({ cls := "java/lang/StringLatin1", name := "newString", desc := "([BII)Ljava/lang/String;" } : Jvm.MethodName) jdk_43_method_47_code (3 : Nat) (Option.some (Jvm.ClassFile.FieldType.object "java/lang/String"))]
set_option maxRecDepth 65536 in
theorem codes_eq : words1.filter isCode = codes1 := rfl
theorem w_codes : ∀ c ∈ words1.filter isCode, c.before args0 about1 = true := by
  rw [codes_eq]
  intro c hc
  simp only [codes1, List.mem_cons, List.not_mem_nil, or_false] at hc
  rcases hc with rfl | rfl | rfl | rfl | rfl | rfl | rfl | rfl | rfl | rfl | rfl | rfl | rfl | rfl | rfl | rfl | rfl | rfl | rfl | rfl | rfl | rfl | rfl | rfl | rfl | rfl | rfl | rfl | rfl | rfl | rfl | rfl | rfl | rfl | rfl | rfl | rfl | rfl | rfl | rfl | rfl | rfl | rfl | rfl | rfl | rfl | rfl | rfl | rfl
  · exact w_c0
  · exact w_c1
  · exact w_c2
  · exact w_c3
  · exact w_c4
  · exact w_c5
  · exact w_c6
  · exact w_c7
  · exact w_c8
  · exact w_c9
  · exact w_c10
  · exact w_c11
  · exact w_c12
  · exact w_c13
  · exact w_c14
  · exact w_c15
  · exact w_c16
  · exact w_c17
  · exact w_c18
  · exact w_c19
  · exact w_c20
  · exact w_c21
  · exact w_c22
  · exact w_c23
  · exact w_c24
  · exact w_c25
  · exact w_c26
  · exact w_c27
  · exact w_c28
  · exact w_c29
  · exact w_c30
  · exact w_c31
  · exact w_c32
  · exact w_c33
  · exact w_c34
  · exact w_c35
  · exact w_c36
  · exact w_c37
  · exact w_c38
  · exact w_c39
  · exact w_c40
  · exact w_c41
  · exact w_c42
  · exact w_c43
  · exact w_c44
  · exact w_c45
  · exact w_c46
  · exact w_c47
  · exact w_c48
set_option maxRecDepth 65536 in
theorem w_t1 : (words1.take 24).all (fun c => isCode c || c.before args0 about1) = true := by decide +kernel
set_option maxRecDepth 65536 in
theorem w_t2 : ((words1.drop 24).take 24).all (fun c => isCode c || c.before args0 about1) = true := by decide +kernel
set_option maxRecDepth 65536 in
theorem w_t3 : (((words1.drop 24).drop 24).take 24).all (fun c => isCode c || c.before args0 about1) = true := by decide +kernel
set_option maxRecDepth 65536 in
theorem w_t4 : ((((words1.drop 24).drop 24).drop 24).take 24).all (fun c => isCode c || c.before args0 about1) = true := by decide +kernel
set_option maxRecDepth 65536 in
theorem w_t5 : (((((words1.drop 24).drop 24).drop 24).drop 24).take 24).all (fun c => isCode c || c.before args0 about1) = true := by decide +kernel
set_option maxRecDepth 65536 in
theorem w_t6 : ((((((words1.drop 24).drop 24).drop 24).drop 24).drop 24).take 24).all (fun c => isCode c || c.before args0 about1) = true := by decide +kernel
set_option maxRecDepth 65536 in
theorem w_t7 : (((((((words1.drop 24).drop 24).drop 24).drop 24).drop 24).drop 24).take 24).all (fun c => isCode c || c.before args0 about1) = true := by decide +kernel
set_option maxRecDepth 65536 in
theorem w_t8 : ((((((((words1.drop 24).drop 24).drop 24).drop 24).drop 24).drop 24).drop 24).take 24).all (fun c => isCode c || c.before args0 about1) = true := by decide +kernel
set_option maxRecDepth 65536 in
theorem w_t9 : ((((((((words1.drop 24).drop 24).drop 24).drop 24).drop 24).drop 24).drop 24).drop 24).all (fun c => isCode c || c.before args0 about1) = true := by decide +kernel
theorem w_tables : (allAtoms (Jvm.Cond.code x code maxLocals ret :: tables_1)).before args0 about1 = true := by
  rw [allAtoms_all]
  show words1.all (fun c => c.before args0 about1) = true
  refine all_split ?_ w_codes
  rw [← List.take_append_drop 24 words1, List.all_append, w_t1, ← List.take_append_drop 24 (words1.drop 24), List.all_append, w_t2, ← List.take_append_drop 24 ((words1.drop 24).drop 24), List.all_append, w_t3, ← List.take_append_drop 24 (((words1.drop 24).drop 24).drop 24), List.all_append, w_t4, ← List.take_append_drop 24 ((((words1.drop 24).drop 24).drop 24).drop 24), List.all_append, w_t5, ← List.take_append_drop 24 (((((words1.drop 24).drop 24).drop 24).drop 24).drop 24), List.all_append, w_t6, ← List.take_append_drop 24 ((((((words1.drop 24).drop 24).drop 24).drop 24).drop 24).drop 24), List.all_append, w_t7, ← List.take_append_drop 24 (((((((words1.drop 24).drop 24).drop 24).drop 24).drop 24).drop 24).drop 24), List.all_append, w_t8, w_t9]
  rfl
set_option maxRecDepth 65536 in
theorem w_rest : rest_1_c.before args0 about1 = true := by decide +kernel
set_option maxRecDepth 65536 in
theorem w_case : (Jvm.Cond.and given_1 narrow_1).before args0 about1 = true := by decide +kernel
set_option maxRecDepth 65536 in
theorem w_consts : constsHeld consts_1 about1 := Jvm.Lit.constsHeldB_iff.mp (by decide +kernel)
theorem w_applies : (headSpec (Jvm.Cond.code x code maxLocals ret :: tables_1) room_1).applies x e0.platform about1 = true :=
  (Spec.applies_iff w_frames).mpr ⟨w_running, w_runnable, w_alone, w_named, w_hears, w_ripe, w_room, w_tables⟩
theorem atStart : AtStart classFile x code maxLocals ret World_1 tables_1 room_1 Calls_1 rest_1 Pre_1 launch0 p0 e0 about1 theMethod args0 below0 :=
  ⟨lists_1, trivial, launch0.admits_env _ _ _, launch0.least_env, fairChoices_fair.cas, fairChoices_fair.clock, w_frames, w_args, w_heap, w_applies, ⟨w_consts, trivial⟩, w_rest, w_case⟩
end start1
theorem witness_1 : WitnessClaimed_1 := ⟨start1.p0, start1.e0, start1.about1, start1.theMethod, start1.args0, start1.below0, start1.atStart⟩
end Jvm.Pilot.@@N@@
