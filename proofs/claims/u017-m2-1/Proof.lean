import JvmDerived
import JvmDerived.Pilot.@@N@@Statement
import JvmDerived.Pilot.@@N@@Code
set_option linter.unusedVariables false
set_option linter.unusedSimpArgs false
namespace Jvm.Pilot.@@N@@
open Jvm Jvm.ClassFile Sem Op Lib Jvm.Free Jvm.Stand Jvm.LawKit Jvm.RoadKit Bundle Jvm.Pilot.@@N@@.Jvm.D
abbrev jv (x : Int64) : Slot := .val (.long x)
theorem ow {Z : State} {a0 : Array Value} (hw : ∀ d ∈ tables_1, d.before a0 Z = true) (i : Nat) {d : Jvm.Cond} (h : tables_1[i]? = some d) : d.before a0 Z = true := hw _ (List.mem_of_getElem? h)
section OwnKit
variable {p : Program} {l : Launch} {e : Env} {R : Room} {s : State} {m : MethodId} {args : Array Value} {below : List Frame} {meth : Method} {c : Code} {T T' : State} {locs : List Loc} {cells slots kc ks : Nat} {Q : Option Value → Heap → List Loc → Prop} {g g' : JFrame}
/-- from this state and frame on the body ends, and Q holds of what it returns, of the heap and of the places written -/
def OwnG (p : Program) (e : Env) (below : List Frame) (s : State) (kc ks : Nat) (Q : Option Value → Heap → List Loc → Prop) (T : State) (g : JFrame) : Prop :=
  ∃ s₂ o, Steps p.tables e below (T.setTop g) s₂ ∧ s₂.status = .running ∧ Ended s₂ below o ∧ ∃ v L, o = .returned v ∧ Q v s₂.heap L ∧ FrameEnd s o s₂ L kc ks
theorem own_by (k : ∀ t, Steps p.tables e below (T'.setTop g') t → Steps p.tables e below (T.setTop g) t) (h : OwnG p e below s kc ks Q T' g') : OwnG p e below s kc ks Q T g := by
  obtain ⟨s₂, o, st, r⟩ := h
  exact ⟨s₂, o, k _ st, r⟩
theorem own_out (X : Stand p l e R s m args below meth c T locs cells slots) (hlk : meth.locks = false) {v : Option Value} (hv : meth.sig.returnType = none → v = none)
    (hst : ∀ fs, (∀ (f : JFrame) (acts : List Action), f.method = m → f.locked = none → f.entered = [] → (doReturn e (T.setTop f) acts v).1 = T.setFrames fs) → Steps p.tables e below (T.setTop g) (T.setFrames fs))
    (hq : Q v T.heap locs) (hc : cells ≤ kc) (hs : slots ≤ ks) : OwnG p e below s kc ks Q T g := by
  obtain ⟨fs, hr, hrun, hended, hW, hsame⟩ := X.leave (v := v) hv hlk
  exact ⟨_, _, hst fs hr, hrun, hended, v, locs, rfl, hq, ⟨_, rfl⟩, hW, hsame.mono hc hs⟩
def OwnGW (p : Program) (e : Env) (below : List Frame) (s : State) (kc ks : Nat) (Q : Option Value → Heap → List Loc → Prop) (T : State) (g : JFrame) : Prop :=
  ∃ s₂ o, Steps p.tables e below (T.setTop g) s₂ ∧ s₂.status = .running ∧ Ended s₂ below o ∧ ∃ v L, o = .returned v ∧ Q v s₂.heap L ∧ ReturnedEndW s o s₂ L kc ks
theorem own_byW (k : ∀ t, Steps p.tables e below (T'.setTop g') t → Steps p.tables e below (T.setTop g) t) (h : OwnGW p e below s kc ks Q T' g') : OwnGW p e below s kc ks Q T g := by
  obtain ⟨s₂, o, st, r⟩ := h
  exact ⟨s₂, o, k _ st, r⟩
theorem own_outW {vm : Vm} {k : Nat} (X : Stand p l e R (s.setVm vm) m args below meth c T locs cells slots) (hS : s.Since vm k) (hk : k ≤ T.heap.size) (hlk : meth.locks = false) {v : Option Value} (hv : meth.sig.returnType = none → v = none)
    (hst : ∀ fs, (∀ (f : JFrame) (acts : List Action), f.method = m → f.locked = none → f.entered = [] → (doReturn e (T.setTop f) acts v).1 = T.setFrames fs) → Steps p.tables e below (T.setTop g) (T.setFrames fs))
    (hq : Q v T.heap locs) (hc : cells ≤ kc) (hs : slots ≤ ks) : OwnGW p e below s kc ks Q T g := by
  obtain ⟨fs, hr, hrun, hended, h1, h2, h3, h4⟩ := X.leaveW hS hk (v := v) hv hlk
  exact ⟨_, _, hst fs hr, hrun, hended, v, locs, rfl, hq, h1, h2, h3, h4.mono hc hs⟩
def OwnGH (p : Program) (e : Env) (below : List Frame) (s Z : State) (EL : List (String × Nat)) (kc ks : Nat) (Q : Option Value → Heap → List Loc → Prop) (T : State) (g : JFrame) : Prop :=
  ∃ s₂ o, Steps p.tables e below (T.setTop g) s₂ ∧ s₂.status = .running ∧ Ended s₂ below o ∧ ∃ v L, o = .returned v ∧ Q v s₂.heap L ∧ CHr Z EL s.vm s.heap s₂.vm s₂.heap ∧ ReturnedEndW s o s₂ L kc ks
theorem own_byH {Z : State} {EL : List (String × Nat)} (k : ∀ t, Steps p.tables e below (T'.setTop g') t → Steps p.tables e below (T.setTop g) t) (h : OwnGH p e below s Z EL kc ks Q T' g') : OwnGH p e below s Z EL kc ks Q T g := by
  obtain ⟨s₂, o, st, r⟩ := h
  exact ⟨s₂, o, k _ st, r⟩
theorem own_outH {Z : State} {a0 : Array Value} {EL : List (String × Nat)} {h0 : Heap} {vm : Vm} {k : Nat} (X : Stand p l e R (s.setVm vm) m args below meth c T locs cells slots) (hh : s.heap = h0) (hEL : EW Z a0 EL) (hS : s.Since vm k) (hk : k ≤ T.heap.size) (HR : CHr Z EL s.vm h0 vm T.heap) (hZ : Z.Warmed39 vm) (hlk : meth.locks = false) {v : Option Value} (hv : meth.sig.returnType = none → v = none)
    (hst : ∀ fs, (∀ (f : JFrame) (acts : List Action), f.method = m → f.locked = none → f.entered = [] → (doReturn e (T.setTop f) acts v).1 = T.setFrames fs) → Steps p.tables e below (T.setTop g) (T.setFrames fs))
    (hq : Q v T.heap locs) (hc : cells ≤ kc) (hs : slots ≤ ks) : OwnGH p e below s Z EL kc ks Q T g := by
  obtain ⟨fs, hr, hrun, hended, h1, h2, h3, h4⟩ := X.leaveW hS hk (v := v) hv hlk
  have C := HR.trans (CHv.at X hZ hEL HR.1)
  exact ⟨_, _, hst fs hr, hrun, hended, v, locs, rfl, hq, (by rw [hh]; exact C), h1, h2, h3, h4.mono hc hs⟩
theorem own_lt (x y : Int64) : lcmpW x y < 0 ↔ x < y := by rw [lcW]; exact lc_lt x y
theorem own_gt (x y : Int64) : 0 < lcmpW x y ↔ y < x := by rw [lcW]; exact lc_gt x y
theorem own_eq (x y : Int64) : lcmpW x y = 0 ↔ x = y := by rw [lcW]; exact lc_eq x y
theorem own_fldI {Z : State} {a : Addr} {t : Jvm.Term} {C n d : String} {k : Int32} (ev : t.eval args Z none [] Z = some (.ref a)) (h : (Jvm.Cond.eq (Jvm.Term.field t C n d) (Jvm.Term.int k)).value args Z none Z [] = some true) : Fld Z Z.heap a C n d (.int k) := by
  obtain ⟨x, y, h1, h2, h3, h4⟩ := cmp_v (Or.inl h)
  cases (Term.int_eval k).symm.trans h2
  obtain ⟨z, rfl⟩ := h4
  rw [fld_at ev] at h1
  have h5 : (Jvm.Cond.eq (Jvm.Term.field t C n d) (Jvm.Term.int k)).value args Z none Z [] = some (decide (z = k)) := by simp [Jvm.Cond.value, fld_at ev, h1, Term.int_eval]
  cases gotT h5 h
  exact Fld.start h1
theorem own_fldJ {Z : State} {a : Addr} {t : Jvm.Term} {C n d : String} {k : Int64} (ev : t.eval args Z none [] Z = some (.ref a)) (h : (Jvm.Cond.eq (Jvm.Term.field t C n d) (Jvm.Term.long k)).value args Z none Z [] = some true) : Fld Z Z.heap a C n d (.long k) := by
  obtain ⟨x, y, h1, h2, h3, h4⟩ := cmp_v (Or.inl h)
  cases (long_at k).symm.trans h2
  obtain ⟨z, rfl⟩ := h4
  have h5 := gotT (eq_L h1 (long_at k)) h
  rw [fld_at ev] at h1
  cases h5
  exact Fld.start h1
theorem own_fldN {Z : State} {a : Addr} {t : Jvm.Term} {C n d : String} (ev : t.eval args Z none [] Z = some (.ref a)) (h : (Jvm.Cond.eq (Jvm.Term.field t C n d) Jvm.Term.null).value args Z none Z [] = some true) : Fld Z Z.heap a C n d .null := by
  have h1 := null_v h
  rw [fld_at ev] at h1
  exact Fld.start h1
theorem own_e0 {P : Prop} [Decidable P] (h : (if P then (1 : Int32) else (0 : Int32)) = 0) : ¬ P := fun q => by rw [if_pos q] at h; exact absurd h (by decide)
theorem own_e1 {P : Prop} [Decidable P] (h : ¬ (if P then (1 : Int32) else (0 : Int32)) = 0) : P := by
  by_cases q : P
  · exact q
  · exact absurd (if_neg q) h
theorem own_n2 {P Q : Prop} [Decidable P] [Decidable Q] {A : Int32} (h : ¬ (P ∧ Q)) : (if P then (if Q then A else (0 : Int32)) else (0 : Int32)) = 0 := by
  by_cases p : P
  · rw [if_pos p, if_neg (fun q => h ⟨p, q⟩)]
  · rw [if_neg p]
theorem own_narR {v : Value} {C : String} (h : v.isRef = true) : narrow (.object C) v = v := by rcases ref_cases h with rfl | ⟨_, rfl⟩ <;> rfl
theorem own_fitR {v : Value} {C : String} (h : v.isRef = true) : fits (.object C) v = true := by rcases ref_cases h with rfl | ⟨_, rfl⟩ <;> rfl
theorem own_len {Z : State} {t : Jvm.Term} {a : Addr} {cl : Cell} {ty : FieldType} {k : Int32} (et : t.eval args Z none [] Z = some (.ref a)) (A : Arr Z Z.heap a cl ty) (h : (Jvm.Term.length t).eval args Z none [] Z = some (.int k)) : cl.slots.size < 2 ^ 31 ∧ cl.slots.size.toInt32 = k := by
  have hA := A.fin (Vm.Alike.refl Z.vm)
  by_cases q : cl.slots.size < 2 ^ 31
  · rw [len_f et hA q] at h; exact ⟨q, by simpa using h⟩
  · simp [Jvm.Term.eval, et, hA] at h; exact absurd h.1 q
theorem own_mvM {Z : State} {a0 : Array Value} {own host : String} {index : Nat} {y : MethodName} (hZ : Z.Warmed39 s.vm) (w : (Jvm.Cond.methodLinkNest own index y host).before a0 Z = true) : (Jvm.Cond.methodLinkNest own index y host).before args s = true := (Cond.methodLinkNest_wide hZ w :)
end OwnKit
theorem d1_0 : decode method_2_code 0 = .ok (.iload_n 0, 1) := by decide +kernel
theorem d1_1 : decode method_2_code 1 = .ok (.ifCond .ne 14, 3) := by decide +kernel
theorem d1_4 : decode method_2_code 4 = .ok (.new 7, 3) := by decide +kernel
theorem d1_7 : decode method_2_code 7 = .ok (.dup, 1) := by decide +kernel
theorem d1_8 : decode method_2_code 8 = .ok (.iconst 0, 1) := by decide +kernel
theorem d1_9 : decode method_2_code 9 = .ok (.newarray .char, 2) := by decide +kernel
theorem d1_11 : decode method_2_code 11 = .ok (.invokespecial 9, 3) := by decide +kernel
theorem d1_14 : decode method_2_code 14 = .ok (.areturn, 1) := by decide +kernel
theorem d1_15 : decode method_2_code 15 = .ok (.iload_n 0, 1) := by decide +kernel
theorem d1_16 : decode method_2_code 16 = .ok (.iconst 1, 1) := by decide +kernel
theorem d1_17 : decode method_2_code 17 = .ok (.if_icmp .ne 18, 3) := by decide +kernel
theorem d1_20 : decode method_2_code 20 = .ok (.new 7, 3) := by decide +kernel
theorem d1_23 : decode method_2_code 23 = .ok (.dup, 1) := by decide +kernel
theorem d1_24 : decode method_2_code 24 = .ok (.iconst 1, 1) := by decide +kernel
theorem d1_25 : decode method_2_code 25 = .ok (.newarray .char, 2) := by decide +kernel
theorem d1_27 : decode method_2_code 27 = .ok (.dup, 1) := by decide +kernel
theorem d1_28 : decode method_2_code 28 = .ok (.iconst 0, 1) := by decide +kernel
theorem d1_29 : decode method_2_code 29 = .ok (.iload_n 1, 1) := by decide +kernel
theorem d1_30 : decode method_2_code 30 = .ok (.castore, 1) := by decide +kernel
theorem d1_31 : decode method_2_code 31 = .ok (.invokespecial 9, 3) := by decide +kernel
theorem d1_34 : decode method_2_code 34 = .ok (.areturn, 1) := by decide +kernel
theorem d1_35 : decode method_2_code 35 = .ok (.new 7, 3) := by decide +kernel
theorem d1_38 : decode method_2_code 38 = .ok (.dup, 1) := by decide +kernel
theorem d1_39 : decode method_2_code 39 = .ok (.iconst 2, 1) := by decide +kernel
theorem d1_40 : decode method_2_code 40 = .ok (.newarray .char, 2) := by decide +kernel
theorem d1_42 : decode method_2_code 42 = .ok (.dup, 1) := by decide +kernel
theorem d1_43 : decode method_2_code 43 = .ok (.iconst 0, 1) := by decide +kernel
theorem d1_44 : decode method_2_code 44 = .ok (.iload_n 1, 1) := by decide +kernel
theorem d1_45 : decode method_2_code 45 = .ok (.castore, 1) := by decide +kernel
theorem d1_46 : decode method_2_code 46 = .ok (.dup, 1) := by decide +kernel
theorem d1_47 : decode method_2_code 47 = .ok (.iconst 1, 1) := by decide +kernel
theorem d1_48 : decode method_2_code 48 = .ok (.iload_n 2, 1) := by decide +kernel
theorem d1_49 : decode method_2_code 49 = .ok (.castore, 1) := by decide +kernel
theorem d1_50 : decode method_2_code 50 = .ok (.invokespecial 9, 3) := by decide +kernel
theorem d1_53 : decode method_2_code 53 = .ok (.areturn, 1) := by decide +kernel
theorem d2_0 : decode jdk_42_method_3_code 0 = .ok (.aload_n 0, 1) := by decide +kernel
theorem d2_1 : decode jdk_42_method_3_code 1 = .ok (.aload_n 1, 1) := by decide +kernel
theorem d2_2 : decode jdk_42_method_3_code 2 = .ok (.iconst 0, 1) := by decide +kernel
theorem d2_3 : decode jdk_42_method_3_code 3 = .ok (.aload_n 1, 1) := by decide +kernel
theorem d2_4 : decode jdk_42_method_3_code 4 = .ok (.arraylength, 1) := by decide +kernel
theorem d2_5 : decode jdk_42_method_3_code 5 = .ok (.aconst_null, 1) := by decide +kernel
theorem d2_6 : decode jdk_42_method_3_code 6 = .ok (.invokespecial 27, 3) := by decide +kernel
theorem d2_9 : decode jdk_42_method_3_code 9 = .ok (.return_, 1) := by decide +kernel
theorem d3_0 : decode jdk_42_method_149_code 0 = .ok (.aload_n 0, 1) := by decide +kernel
theorem d3_1 : decode jdk_42_method_149_code 1 = .ok (.invokespecial 1, 3) := by decide +kernel
theorem d3_4 : decode jdk_42_method_149_code 4 = .ok (.iload_n 3, 1) := by decide +kernel
theorem d3_5 : decode jdk_42_method_149_code 5 = .ok (.ifCond .ne 22, 3) := by decide +kernel
theorem d3_8 : decode jdk_42_method_149_code 8 = .ok (.aload_n 0, 1) := by decide +kernel
theorem d3_9 : decode jdk_42_method_149_code 9 = .ok (.ldc 7, 2) := by decide +kernel
theorem d3_11 : decode jdk_42_method_149_code 11 = .ok (.getfield 9, 3) := by decide +kernel
theorem d3_14 : decode jdk_42_method_149_code 14 = .ok (.putfield 9, 3) := by decide +kernel
theorem d3_17 : decode jdk_42_method_149_code 17 = .ok (.aload_n 0, 1) := by decide +kernel
theorem d3_18 : decode jdk_42_method_149_code 18 = .ok (.ldc 7, 2) := by decide +kernel
theorem d3_20 : decode jdk_42_method_149_code 20 = .ok (.getfield 15, 3) := by decide +kernel
theorem d3_23 : decode jdk_42_method_149_code 23 = .ok (.putfield 15, 3) := by decide +kernel
theorem d3_26 : decode jdk_42_method_149_code 26 = .ok (.return_, 1) := by decide +kernel
theorem d3_27 : decode jdk_42_method_149_code 27 = .ok (.getstatic 38, 3) := by decide +kernel
theorem d3_30 : decode jdk_42_method_149_code 30 = .ok (.ifCond .eq 28, 3) := by decide +kernel
theorem d3_33 : decode jdk_42_method_149_code 33 = .ok (.aload_n 1, 1) := by decide +kernel
theorem d3_34 : decode jdk_42_method_149_code 34 = .ok (.iload_n 2, 1) := by decide +kernel
theorem d3_35 : decode jdk_42_method_149_code 35 = .ok (.iload_n 3, 1) := by decide +kernel
theorem d3_36 : decode jdk_42_method_149_code 36 = .ok (.invokestatic 177, 3) := by decide +kernel
theorem d3_39 : decode jdk_42_method_149_code 39 = .ok (.astore 5, 2) := by decide +kernel
theorem d3_41 : decode jdk_42_method_149_code 41 = .ok (.aload_n 0, 1) := by decide +kernel
theorem d3_42 : decode jdk_42_method_149_code 42 = .ok (.aload 5, 2) := by decide +kernel
theorem d3_44 : decode jdk_42_method_149_code 44 = .ok (.iload_n 3, 1) := by decide +kernel
theorem d3_45 : decode jdk_42_method_149_code 45 = .ok (.invokestatic 47, 3) := by decide +kernel
theorem d3_48 : decode jdk_42_method_149_code 48 = .ok (.putfield 15, 3) := by decide +kernel
theorem d3_51 : decode jdk_42_method_149_code 51 = .ok (.aload_n 0, 1) := by decide +kernel
theorem d3_52 : decode jdk_42_method_149_code 52 = .ok (.aload 5, 2) := by decide +kernel
theorem d3_54 : decode jdk_42_method_149_code 54 = .ok (.putfield 9, 3) := by decide +kernel
theorem d3_57 : decode jdk_42_method_149_code 57 = .ok (.return_, 1) := by decide +kernel
theorem d5_0 : decode jdk_52_method_16_code 0 = .ok (.iload_n 2, 1) := by decide +kernel
theorem d5_1 : decode jdk_52_method_16_code 1 = .ok (.newarray .byte, 2) := by decide +kernel
theorem d5_3 : decode jdk_52_method_16_code 3 = .ok (.astore_n 3, 1) := by decide +kernel
theorem d5_4 : decode jdk_52_method_16_code 4 = .ok (.aload_n 0, 1) := by decide +kernel
theorem d5_5 : decode jdk_52_method_16_code 5 = .ok (.iload_n 1, 1) := by decide +kernel
theorem d5_6 : decode jdk_52_method_16_code 6 = .ok (.aload_n 3, 1) := by decide +kernel
theorem d5_7 : decode jdk_52_method_16_code 7 = .ok (.iconst 0, 1) := by decide +kernel
theorem d5_8 : decode jdk_52_method_16_code 8 = .ok (.iload_n 2, 1) := by decide +kernel
theorem d5_9 : decode jdk_52_method_16_code 9 = .ok (.invokestatic 115, 3) := by decide +kernel
theorem d5_12 : decode jdk_52_method_16_code 12 = .ok (.istore 4, 2) := by decide +kernel
theorem d5_14 : decode jdk_52_method_16_code 14 = .ok (.iload 4, 2) := by decide +kernel
theorem d5_16 : decode jdk_52_method_16_code 16 = .ok (.iload_n 2, 1) := by decide +kernel
theorem d5_17 : decode jdk_52_method_16_code 17 = .ok (.if_icmp .eq 40, 3) := by decide +kernel
theorem d5_57 : decode jdk_52_method_16_code 57 = .ok (.aload_n 3, 1) := by decide +kernel
theorem d5_58 : decode jdk_52_method_16_code 58 = .ok (.areturn, 1) := by decide +kernel
theorem d6_0 : decode jdk_52_method_21_code 0 = .ok (.iconst 0, 1) := by decide +kernel
theorem d6_1 : decode jdk_52_method_21_code 1 = .ok (.istore 5, 2) := by decide +kernel
theorem d6_3 : decode jdk_52_method_21_code 3 = .ok (.iload 5, 2) := by decide +kernel
theorem d6_5 : decode jdk_52_method_21_code 5 = .ok (.iload 4, 2) := by decide +kernel
theorem d6_7 : decode jdk_52_method_21_code 7 = .ok (.if_icmp .ge 37, 3) := by decide +kernel
theorem d6_10 : decode jdk_52_method_21_code 10 = .ok (.aload_n 0, 1) := by decide +kernel
theorem d6_11 : decode jdk_52_method_21_code 11 = .ok (.iload_n 1, 1) := by decide +kernel
theorem d6_12 : decode jdk_52_method_21_code 12 = .ok (.caload, 1) := by decide +kernel
theorem d6_13 : decode jdk_52_method_21_code 13 = .ok (.istore 6, 2) := by decide +kernel
theorem d6_15 : decode jdk_52_method_21_code 15 = .ok (.iload 6, 2) := by decide +kernel
theorem d6_17 : decode jdk_52_method_21_code 17 = .ok (.sipush 255, 3) := by decide +kernel
theorem d6_20 : decode jdk_52_method_21_code 20 = .ok (.if_icmp .le 6, 3) := by decide +kernel
theorem d6_26 : decode jdk_52_method_21_code 26 = .ok (.aload_n 2, 1) := by decide +kernel
theorem d6_27 : decode jdk_52_method_21_code 27 = .ok (.iload_n 3, 1) := by decide +kernel
theorem d6_28 : decode jdk_52_method_21_code 28 = .ok (.iload 6, 2) := by decide +kernel
theorem d6_30 : decode jdk_52_method_21_code 30 = .ok (.i2b, 1) := by decide +kernel
theorem d6_31 : decode jdk_52_method_21_code 31 = .ok (.bastore, 1) := by decide +kernel
theorem d6_32 : decode jdk_52_method_21_code 32 = .ok (.iinc 1 1, 3) := by decide +kernel
theorem d6_35 : decode jdk_52_method_21_code 35 = .ok (.iinc 3 1, 3) := by decide +kernel
theorem d6_38 : decode jdk_52_method_21_code 38 = .ok (.iinc 5 1, 3) := by decide +kernel
theorem d6_41 : decode jdk_52_method_21_code 41 = .ok (.goto (-38), 3) := by decide +kernel
theorem d6_44 : decode jdk_52_method_21_code 44 = .ok (.iload 4, 2) := by decide +kernel
theorem d6_46 : decode jdk_52_method_21_code 46 = .ok (.ireturn, 1) := by decide +kernel
theorem d7_0 : decode jdk_52_method_15_code 0 = .ok (.iload_n 1, 1) := by decide +kernel
theorem d7_1 : decode jdk_52_method_15_code 1 = .ok (.aload_n 0, 1) := by decide +kernel
theorem d7_2 : decode jdk_52_method_15_code 2 = .ok (.arraylength, 1) := by decide +kernel
theorem d7_3 : decode jdk_52_method_15_code 3 = .ok (.isub, 1) := by decide +kernel
theorem d7_4 : decode jdk_52_method_15_code 4 = .ok (.bipush 31, 2) := by decide +kernel
theorem d7_6 : decode jdk_52_method_15_code 6 = .ok (.iushr, 1) := by decide +kernel
theorem d7_7 : decode jdk_52_method_15_code 7 = .ok (.i2b, 1) := by decide +kernel
theorem d7_8 : decode jdk_52_method_15_code 8 = .ok (.ireturn, 1) := by decide +kernel
theorem d8_0 : decode prog_5_method_1_code 0 = .ok (.aload_n 0, 1) := by decide +kernel
theorem d8_1 : decode prog_5_method_1_code 1 = .ok (.invokespecial 1, 3) := by decide +kernel
theorem d8_4 : decode prog_5_method_1_code 4 = .ok (.aload_n 0, 1) := by decide +kernel
theorem d8_5 : decode prog_5_method_1_code 5 = .ok (.aload_n 1, 1) := by decide +kernel
theorem d8_6 : decode prog_5_method_1_code 6 = .ok (.ldc 7, 2) := by decide +kernel
theorem d8_8 : decode prog_5_method_1_code 8 = .ok (.invokestatic 9, 3) := by decide +kernel
theorem d8_11 : decode prog_5_method_1_code 11 = .ok (.checkcast 15, 3) := by decide +kernel
theorem d8_14 : decode prog_5_method_1_code 14 = .ok (.putfield 17, 3) := by decide +kernel
theorem d8_17 : decode prog_5_method_1_code 17 = .ok (.aload_n 0, 1) := by decide +kernel
theorem d8_18 : decode prog_5_method_1_code 18 = .ok (.aload_n 2, 1) := by decide +kernel
theorem d8_19 : decode prog_5_method_1_code 19 = .ok (.ldc 22, 2) := by decide +kernel
theorem d8_21 : decode prog_5_method_1_code 21 = .ok (.invokestatic 9, 3) := by decide +kernel
theorem d8_24 : decode prog_5_method_1_code 24 = .ok (.checkcast 24, 3) := by decide +kernel
theorem d8_27 : decode prog_5_method_1_code 27 = .ok (.putfield 26, 3) := by decide +kernel
theorem d8_30 : decode prog_5_method_1_code 30 = .ok (.return_, 1) := by decide +kernel
theorem d9_0 : decode jdk_31_method_11_code 0 = .ok (.aload_n 0, 1) := by decide +kernel
theorem d9_1 : decode jdk_31_method_11_code 1 = .ok (.ifnonnull 12, 3) := by decide +kernel
theorem d9_13 : decode jdk_31_method_11_code 13 = .ok (.aload_n 0, 1) := by decide +kernel
theorem d9_14 : decode jdk_31_method_11_code 14 = .ok (.areturn, 1) := by decide +kernel
theorem d10_0 : decode prog_5_method_4_code 0 = .ok (.aload_n 1, 1) := by decide +kernel
theorem d10_1 : decode prog_5_method_4_code 1 = .ok (.instanceof 18, 3) := by decide +kernel
theorem d10_4 : decode prog_5_method_4_code 4 = .ok (.ifCond .eq 37, 3) := by decide +kernel
theorem d10_7 : decode prog_5_method_4_code 7 = .ok (.aload_n 1, 1) := by decide +kernel
theorem d10_8 : decode prog_5_method_4_code 8 = .ok (.checkcast 18, 3) := by decide +kernel
theorem d10_11 : decode prog_5_method_4_code 11 = .ok (.astore_n 2, 1) := by decide +kernel
theorem d10_12 : decode prog_5_method_4_code 12 = .ok (.aload_n 0, 1) := by decide +kernel
theorem d10_13 : decode prog_5_method_4_code 13 = .ok (.getfield 17, 3) := by decide +kernel
theorem d10_16 : decode prog_5_method_4_code 16 = .ok (.aload_n 2, 1) := by decide +kernel
theorem d10_17 : decode prog_5_method_4_code 17 = .ok (.getfield 17, 3) := by decide +kernel
theorem d10_20 : decode prog_5_method_4_code 20 = .ok (.if_acmp .ne 21, 3) := by decide +kernel
theorem d10_23 : decode prog_5_method_4_code 23 = .ok (.aload_n 0, 1) := by decide +kernel
theorem d10_24 : decode prog_5_method_4_code 24 = .ok (.getfield 26, 3) := by decide +kernel
theorem d10_27 : decode prog_5_method_4_code 27 = .ok (.aload_n 2, 1) := by decide +kernel
theorem d10_28 : decode prog_5_method_4_code 28 = .ok (.getfield 26, 3) := by decide +kernel
theorem d10_31 : decode prog_5_method_4_code 31 = .ok (.invokevirtual 29, 3) := by decide +kernel
theorem d10_34 : decode prog_5_method_4_code 34 = .ok (.ifCond .eq 7, 3) := by decide +kernel
theorem d10_37 : decode prog_5_method_4_code 37 = .ok (.iconst 1, 1) := by decide +kernel
theorem d10_38 : decode prog_5_method_4_code 38 = .ok (.goto 4, 3) := by decide +kernel
theorem d10_41 : decode prog_5_method_4_code 41 = .ok (.iconst 0, 1) := by decide +kernel
theorem d10_42 : decode prog_5_method_4_code 42 = .ok (.ireturn, 1) := by decide +kernel
theorem d11_0 : decode jdk_42_method_66_code 0 = .ok (.aload_n 0, 1) := by decide +kernel
theorem d11_1 : decode jdk_42_method_66_code 1 = .ok (.aload_n 1, 1) := by decide +kernel
theorem d11_2 : decode jdk_42_method_66_code 2 = .ok (.if_acmp .ne 5, 3) := by decide +kernel
theorem d11_5 : decode jdk_42_method_66_code 5 = .ok (.iconst 1, 1) := by decide +kernel
theorem d11_6 : decode jdk_42_method_66_code 6 = .ok (.ireturn, 1) := by decide +kernel
theorem d11_7 : decode jdk_42_method_66_code 7 = .ok (.aload_n 1, 1) := by decide +kernel
theorem d11_8 : decode jdk_42_method_66_code 8 = .ok (.instanceof 10, 3) := by decide +kernel
theorem d11_11 : decode jdk_42_method_66_code 11 = .ok (.ifCond .eq 43, 3) := by decide +kernel
theorem d11_14 : decode jdk_42_method_66_code 14 = .ok (.aload_n 1, 1) := by decide +kernel
theorem d11_15 : decode jdk_42_method_66_code 15 = .ok (.checkcast 10, 3) := by decide +kernel
theorem d11_18 : decode jdk_42_method_66_code 18 = .ok (.astore_n 2, 1) := by decide +kernel
theorem d11_19 : decode jdk_42_method_66_code 19 = .ok (.getstatic 38, 3) := by decide +kernel
theorem d11_22 : decode jdk_42_method_66_code 22 = .ok (.ifCond .eq 14, 3) := by decide +kernel
theorem d11_25 : decode jdk_42_method_66_code 25 = .ok (.aload_n 0, 1) := by decide +kernel
theorem d11_26 : decode jdk_42_method_66_code 26 = .ok (.getfield 15, 3) := by decide +kernel
theorem d11_29 : decode jdk_42_method_66_code 29 = .ok (.aload_n 2, 1) := by decide +kernel
theorem d11_30 : decode jdk_42_method_66_code 30 = .ok (.getfield 15, 3) := by decide +kernel
theorem d11_33 : decode jdk_42_method_66_code 33 = .ok (.if_icmp .ne 21, 3) := by decide +kernel
theorem d11_36 : decode jdk_42_method_66_code 36 = .ok (.aload_n 0, 1) := by decide +kernel
theorem d11_37 : decode jdk_42_method_66_code 37 = .ok (.getfield 9, 3) := by decide +kernel
theorem d11_40 : decode jdk_42_method_66_code 40 = .ok (.aload_n 2, 1) := by decide +kernel
theorem d11_41 : decode jdk_42_method_66_code 41 = .ok (.getfield 9, 3) := by decide +kernel
theorem d11_44 : decode jdk_42_method_66_code 44 = .ok (.invokestatic 541, 3) := by decide +kernel
theorem d11_47 : decode jdk_42_method_66_code 47 = .ok (.ifCond .eq 7, 3) := by decide +kernel
theorem d11_50 : decode jdk_42_method_66_code 50 = .ok (.iconst 1, 1) := by decide +kernel
theorem d11_51 : decode jdk_42_method_66_code 51 = .ok (.goto 4, 3) := by decide +kernel
theorem d11_54 : decode jdk_42_method_66_code 54 = .ok (.iconst 0, 1) := by decide +kernel
theorem d11_55 : decode jdk_42_method_66_code 55 = .ok (.ireturn, 1) := by decide +kernel
theorem d12_0 : decode jdk_43_method_13_code 0 = .ok (.aload_n 0, 1) := by decide +kernel
theorem d12_1 : decode jdk_43_method_13_code 1 = .ok (.arraylength, 1) := by decide +kernel
theorem d12_2 : decode jdk_43_method_13_code 2 = .ok (.aload_n 1, 1) := by decide +kernel
theorem d12_3 : decode jdk_43_method_13_code 3 = .ok (.arraylength, 1) := by decide +kernel
theorem d12_4 : decode jdk_43_method_13_code 4 = .ok (.if_icmp .ne 30, 3) := by decide +kernel
theorem d12_7 : decode jdk_43_method_13_code 7 = .ok (.iconst 0, 1) := by decide +kernel
theorem d12_8 : decode jdk_43_method_13_code 8 = .ok (.istore_n 2, 1) := by decide +kernel
theorem d12_9 : decode jdk_43_method_13_code 9 = .ok (.iload_n 2, 1) := by decide +kernel
theorem d12_10 : decode jdk_43_method_13_code 10 = .ok (.aload_n 0, 1) := by decide +kernel
theorem d12_11 : decode jdk_43_method_13_code 11 = .ok (.arraylength, 1) := by decide +kernel
theorem d12_12 : decode jdk_43_method_13_code 12 = .ok (.if_icmp .ge 20, 3) := by decide +kernel
theorem d12_15 : decode jdk_43_method_13_code 15 = .ok (.aload_n 0, 1) := by decide +kernel
theorem d12_16 : decode jdk_43_method_13_code 16 = .ok (.iload_n 2, 1) := by decide +kernel
theorem d12_17 : decode jdk_43_method_13_code 17 = .ok (.baload, 1) := by decide +kernel
theorem d12_18 : decode jdk_43_method_13_code 18 = .ok (.aload_n 1, 1) := by decide +kernel
theorem d12_19 : decode jdk_43_method_13_code 19 = .ok (.iload_n 2, 1) := by decide +kernel
theorem d12_20 : decode jdk_43_method_13_code 20 = .ok (.baload, 1) := by decide +kernel
theorem d12_21 : decode jdk_43_method_13_code 21 = .ok (.if_icmp .eq 5, 3) := by decide +kernel
theorem d12_24 : decode jdk_43_method_13_code 24 = .ok (.iconst 0, 1) := by decide +kernel
theorem d12_25 : decode jdk_43_method_13_code 25 = .ok (.ireturn, 1) := by decide +kernel
theorem d12_26 : decode jdk_43_method_13_code 26 = .ok (.iinc 2 1, 3) := by decide +kernel
theorem d12_29 : decode jdk_43_method_13_code 29 = .ok (.goto (-20), 3) := by decide +kernel
theorem d12_32 : decode jdk_43_method_13_code 32 = .ok (.iconst 1, 1) := by decide +kernel
theorem d12_33 : decode jdk_43_method_13_code 33 = .ok (.ireturn, 1) := by decide +kernel
theorem d12_34 : decode jdk_43_method_13_code 34 = .ok (.iconst 0, 1) := by decide +kernel
theorem d12_35 : decode jdk_43_method_13_code 35 = .ok (.ireturn, 1) := by decide +kernel
theorem pn_0 : plainName "java/lang/StringUTF16" = true := by first | (simp [plainName, overriddenIn]; done) | decide +kernel
theorem pn_1 : plainName "java/lang/String" = true := by first | (simp [plainName, overriddenIn]; done) | decide +kernel
theorem pn_2 : plainName "java/lang/StringLatin1" = true := by first | (simp [plainName, overriddenIn]; done) | decide +kernel
theorem pn_3 : plainName "com/example/equipe/equipe/JobResultEqualsPinLaw" = true := by first | (simp [plainName, overriddenIn]; done) | decide +kernel
theorem pn_4 : plainName "java/util/Objects" = true := by first | (simp [plainName, overriddenIn]; done) | decide +kernel
theorem pn_5 : plainName "com/example/equipe/equipe/JobResult" = true := by first | (simp [plainName, overriddenIn]; done) | decide +kernel
theorem pd_0 : parseMethodDescriptor "([CI[BII)I" = some ⟨[(.array .char), .int, (.array .byte), .int, .int], some .int⟩ := by decide +kernel
theorem pd_1 : parseMethodDescriptor "([CII)[B" = some ⟨[(.array .char), .int, .int], some (.array .byte)⟩ := by decide +kernel
theorem pd_2 : parseMethodDescriptor "([BI)B" = some ⟨[(.array .byte), .int], some .byte⟩ := by decide +kernel
theorem pd_3 : parseMethodDescriptor "([CIILjava/lang/Void;)V" = some ⟨[(.array .char), .int, .int, (.object "java/lang/Void")], none⟩ := by decide +kernel
theorem pd_4 : parseMethodDescriptor "([B[B)Z" = some ⟨[(.array .byte), (.array .byte)], some .boolean⟩ := by decide +kernel
theorem pd_5 : parseMethodDescriptor "([C)V" = some ⟨[(.array .char)], none⟩ := by decide +kernel
theorem pd_6 : parseMethodDescriptor "(Ljava/lang/Object;Ljava/lang/String;)Ljava/lang/Object;" = some ⟨[(.object "java/lang/Object"), (.object "java/lang/String")], some (.object "java/lang/Object")⟩ := by decide +kernel
theorem pd_7 : parseMethodDescriptor "(Ljava/lang/Object;)Z" = some ⟨[(.object "java/lang/Object")], some .boolean⟩ := by decide +kernel
theorem pd_8 : parseMethodDescriptor "(ICC)Ljava/lang/String;" = some ⟨[.int, .char, .char], some (.object "java/lang/String")⟩ := by decide +kernel
theorem pd_9 : parseMethodDescriptor "(Lcom/example/equipe/equipe/JobResult$Status;Ljava/lang/String;)V" = some ⟨[(.object "com/example/equipe/equipe/JobResult$Status"), (.object "java/lang/String")], none⟩ := by decide +kernel
theorem ef_rmC2_1 (m : MethodId) (x0 : Addr) (x1 : Int32) (x2 : Addr) (x3 : Int32) (x4 : Int32) : entryFrame m #[(.ref x0), (.int x1), (.ref x2), (.int x3), (.int x4)] 7 = mkF m 0 #[.val (.ref x0), .val (.int x1), .val (.ref x2), .val (.int x3), .val (.int x4), .unset, .unset] [] := by first | (simp [entryFrame, mkF, argsToLocals, Value.category]; done) | rfl
theorem ef_rmC1_1 (m : MethodId) (x0 : Addr) (x1 : Int32) (x2 : Int32) : entryFrame m #[(.ref x0), (.int x1), (.int x2)] 6 = mkF m 0 #[.val (.ref x0), .val (.int x1), .val (.int x2), .unset, .unset, .unset] [] := by first | (simp [entryFrame, mkF, argsToLocals, Value.category]; done) | rfl
theorem ef_rmCo_1 (m : MethodId) (x0 : Addr) (x1 : Int32) : entryFrame m #[(.ref x0), (.int x1)] 2 = mkF m 0 #[.val (.ref x0), .val (.int x1)] [] := by first | (simp [entryFrame, mkF, argsToLocals, Value.category]; done) | rfl
theorem ef_rmS4_1 (m : MethodId) (x0 : Addr) (x1 : Addr) (x2 : Int32) (x3 : Int32) : entryFrame m #[(.ref x0), (.ref x1), (.int x2), (.int x3), .null] 6 = mkF m 0 #[.val (.ref x0), .val (.ref x1), .val (.int x2), .val (.int x3), .val .null, .unset] [] := by first | (simp [entryFrame, mkF, argsToLocals, Value.category]; done) | rfl
theorem ef_rmS1_1 (m : MethodId) (x0 : Addr) (x1 : Addr) : entryFrame m #[(.ref x0), (.ref x1)] 2 = mkF m 0 #[.val (.ref x0), .val (.ref x1)] [] := by first | (simp [entryFrame, mkF, argsToLocals, Value.category]; done) | rfl
theorem ef_rmC2_2 (m : MethodId) (x0 : Addr) (x1 : Int32) (x2 : Addr) (x3 : Int32) (x4 : Int32) : entryFrame m #[(.ref x0), (.int x1), (.ref x2), (.int x3), (.int x4)] 7 = mkF m 0 #[.val (.ref x0), .val (.int x1), .val (.ref x2), .val (.int x3), .val (.int x4), .unset, .unset] [] := by first | (simp [entryFrame, mkF, argsToLocals, Value.category]; done) | rfl
theorem ef_rmC1_2 (m : MethodId) (x0 : Addr) (x1 : Int32) (x2 : Int32) : entryFrame m #[(.ref x0), (.int x1), (.int x2)] 6 = mkF m 0 #[.val (.ref x0), .val (.int x1), .val (.int x2), .unset, .unset, .unset] [] := by first | (simp [entryFrame, mkF, argsToLocals, Value.category]; done) | rfl
theorem ef_rmCo_2 (m : MethodId) (x0 : Addr) (x1 : Int32) : entryFrame m #[(.ref x0), (.int x1)] 2 = mkF m 0 #[.val (.ref x0), .val (.int x1)] [] := by first | (simp [entryFrame, mkF, argsToLocals, Value.category]; done) | rfl
theorem ef_rmS4_2 (m : MethodId) (x0 : Addr) (x1 : Addr) (x2 : Int32) (x3 : Int32) : entryFrame m #[(.ref x0), (.ref x1), (.int x2), (.int x3), .null] 6 = mkF m 0 #[.val (.ref x0), .val (.ref x1), .val (.int x2), .val (.int x3), .val .null, .unset] [] := by first | (simp [entryFrame, mkF, argsToLocals, Value.category]; done) | rfl
theorem ef_rmS1_2 (m : MethodId) (x0 : Addr) (x1 : Addr) : entryFrame m #[(.ref x0), (.ref x1)] 2 = mkF m 0 #[.val (.ref x0), .val (.ref x1)] [] := by first | (simp [entryFrame, mkF, argsToLocals, Value.category]; done) | rfl
theorem ef_rmS4_0 (m : MethodId) (x0 : Addr) (x1 : Addr) (x2 : Int32) (x3 : Int32) : entryFrame m #[(.ref x0), (.ref x1), (.int x2), (.int x3), .null] 6 = mkF m 0 #[.val (.ref x0), .val (.ref x1), .val (.int x2), .val (.int x3), .val .null, .unset] [] := by first | (simp [entryFrame, mkF, argsToLocals, Value.category]; done) | rfl
theorem ef_rmS1_0 (m : MethodId) (x0 : Addr) (x1 : Addr) : entryFrame m #[(.ref x0), (.ref x1)] 2 = mkF m 0 #[.val (.ref x0), .val (.ref x1)] [] := by first | (simp [entryFrame, mkF, argsToLocals, Value.category]; done) | rfl
theorem ef_rmLE (m : MethodId) (x0 : Addr) (x1 : Addr) : entryFrame m #[(.ref x0), (.ref x1)] 3 = mkF m 0 #[.val (.ref x0), .val (.ref x1), .unset] [] := by first | (simp [entryFrame, mkF, argsToLocals, Value.category]; done) | rfl
theorem ef_rmEq (m : MethodId) (x0 : Addr) (x1 : Addr) : entryFrame m #[(.ref x0), (.ref x1)] 3 = mkF m 0 #[.val (.ref x0), .val (.ref x1), .unset] [] := by first | (simp [entryFrame, mkF, argsToLocals, Value.category]; done) | rfl
theorem ef_rmEqS (m : MethodId) (x0 : Addr) (x1 : Addr) : entryFrame m #[(.ref x0), (.ref x1)] 3 = mkF m 0 #[.val (.ref x0), .val (.ref x1), .unset] [] := by first | (simp [entryFrame, mkF, argsToLocals, Value.category]; done) | rfl
theorem ef_rmM (m : MethodId) (x0 : Int32) (x1 : Int32) (x2 : Int32) : entryFrame m #[(.int x0), (.int x1), (.int x2)] 3 = mkF m 0 #[.val (.int x0), .val (.int x1), .val (.int x2)] [] := by first | (simp [entryFrame, mkF, argsToLocals, Value.category]; done) | rfl
theorem ef_rm9 (m : MethodId) (x0 : Addr) (x1 : Addr) : entryFrame m #[(.ref x0), (.ref x1)] 2 = mkF m 0 #[.val (.ref x0), .val (.ref x1)] [] := by first | (simp [entryFrame, mkF, argsToLocals, Value.category]; done) | rfl
theorem ef_rm8 (m : MethodId) (x0 : Addr) (x1 : Addr) (x2 : Addr) : entryFrame m #[(.ref x0), (.ref x1), (.ref x2)] 3 = mkF m 0 #[.val (.ref x0), .val (.ref x1), .val (.ref x2)] [] := by first | (simp [entryFrame, mkF, argsToLocals, Value.category]; done) | rfl
theorem ef_rmJ_n (m : MethodId) (x0 : Addr) : entryFrame m #[(.ref x0), .null] 3 = mkF m 0 #[.val (.ref x0), .val .null, .unset] [] := by first | (simp [entryFrame, mkF, argsToLocals, Value.category]; done) | rfl
theorem ef_rmJ_s (m : MethodId) (x0 : Addr) (x1 : Addr) : entryFrame m #[(.ref x0), (.ref x1)] 3 = mkF m 0 #[.val (.ref x0), .val (.ref x1), .unset] [] := by first | (simp [entryFrame, mkF, argsToLocals, Value.category]; done) | rfl
theorem ef_rmJ_self (m : MethodId) (x0 : Addr) (x1 : Addr) : entryFrame m #[(.ref x0), (.ref x1)] 3 = mkF m 0 #[.val (.ref x0), .val (.ref x1), .unset] [] := by first | (simp [entryFrame, mkF, argsToLocals, Value.category]; done) | rfl
theorem ef_rmJ (m : MethodId) (x0 : Addr) (x1 : Addr) : entryFrame m #[(.ref x0), (.ref x1)] 3 = mkF m 0 #[.val (.ref x0), .val (.ref x1), .unset] [] := by first | (simp [entryFrame, mkF, argsToLocals, Value.category]; done) | rfl
theorem ef_rm0 (m : MethodId) (x0 : Int32) (x1 : Int32) (x2 : Int32) (x3 : Int32) (x4 : Int32) : entryFrame m #[(.int x0), (.int x1), (.int x2), (.int x3), (.int x4)] maxLocals = mkF m 0 #[.val (.int x0), .val (.int x1), .val (.int x2), .val (.int x3), .val (.int x4), .unset, .unset, .unset, .unset, .unset, .unset, .unset, .unset, .unset, .unset, .unset, .unset, .unset] [] := by first | (simp [entryFrame, mkF, argsToLocals, Value.category, maxLocals]; done) | rfl
theorem own_wS {Z : State} {a0 : Array Value} (hw : ∀ d ∈ tables_1, d.before a0 Z = true) : ∀ a ∈ Bundle.stringAtoms, a.before a0 Z = true := by
  intro a ha
  simp only [Bundle.stringAtoms, List.mem_cons, List.not_mem_nil, or_false] at ha
  rcases ha with rfl | rfl | rfl | rfl | rfl | rfl | rfl
  · exact (ow hw 9 rfl)
  · exact (ow hw 8 rfl)
  · exact (ow hw 22 rfl)
  · exact (ow hw 23 rfl)
  · exact (ow hw 24 rfl)
  · exact (ow hw 25 rfl)
  · exact (ow hw 26 rfl)
theorem own_i2c (x : Int32) (h0 : 0 ≤ x.toInt) (h1 : x.toInt ≤ 65535) : x.toUInt32.toUInt16.toUInt32.toInt32 = x := by
  have h := c_i2c x
  exact Int32.toInt_inj.mp (by omega)
theorem own_narc (x : Int32) : nar .char x = x.toUInt32.toUInt16.toUInt32.toInt32 := rfl
theorem own_c8 (x : Int32) : ((x &&& (255 : Int32)).toUInt32.toUInt16.toUInt32.toInt32) = (x &&& (255 : Int32)) := by
  have h := c_and x (255 : Int32) (by decide)
  have h2 : (255 : Int32).toInt = 255 := rfl
  exact own_i2c _ h.1 (by omega)
theorem own_n8 (x : Int32) : nar .char (x &&& (255 : Int32)) = (x &&& (255 : Int32)) := own_c8 x
theorem own_nc {x : Int32} (h0 : ¬ (x < (0 : Int32))) (h1 : ¬ ((255 : Int32) < x)) : nar .char x = x := by
  have a0 : (0 : Int32).toInt = 0 := rfl
  have a1 : (255 : Int32).toInt = 255 := rfl
  rw [Int32.lt_iff_toInt_lt] at h0 h1
  exact own_i2c x (by omega) (by omega)
theorem own_ic {x : Int32} (h0 : ¬ (x < (0 : Int32))) (h1 : ¬ ((255 : Int32) < x)) : x.toUInt32.toUInt16.toUInt32.toInt32 = x := own_nc h0 h1
theorem own_ch8 (x : Int32) : nar .char (((x &&& (255 : Int32)).toUInt32.toUInt16.toUInt32.toInt32)) = (x &&& (255 : Int32)) := by
  have h := c_and x (255 : Int32) (by decide)
  have h2 : (255 : Int32).toInt = 255 := rfl
  rw [own_narc, own_i2c _ h.1 (by omega), own_i2c _ h.1 (by omega)]
theorem own_le255 (x : Int32) : ¬ ((255 : Int32) < (x &&& (255 : Int32))) := by
  have h := c_and x (255 : Int32) (by decide)
  rw [Int32.lt_iff_toInt_lt]; omega
theorem own_ge0 (x : Int32) : ¬ ((x &&& (255 : Int32)) < (0 : Int32)) := by
  have h := c_and x (255 : Int32) (by decide)
  have h2 : (0 : Int32).toInt = 0 := rfl
  rw [Int32.lt_iff_toInt_lt]; omega
theorem own_ob {c d : Int32} (c0 : ¬ (c < (0 : Int32))) (c1 : ¬ ((255 : Int32) < c)) (d0 : ¬ (d < (0 : Int32))) (d1 : ¬ ((255 : Int32) < d)) (h : nar .byte (c.toInt8.toInt32) = nar .byte (d.toInt8.toInt32)) : c = d := by
  have a0 : (0 : Int32).toInt = 0 := rfl
  have a1 : (255 : Int32).toInt = 255 := rfl
  rw [Int32.lt_iff_toInt_lt] at c0 c1 d0 d1
  have e : ∀ x : Int32, (nar .byte (x.toInt8.toInt32)).toInt = x.toInt.bmod 256 := fun x => by
    show (x.toInt8.toInt32.toInt8.toInt32).toInt = _
    rw [Int8.toInt_toInt32, Int32.toInt_toInt8, Int8.toInt_toInt32, Int32.toInt_toInt8]
    simp
  have q : (nar .byte (c.toInt8.toInt32)).toInt = (nar .byte (d.toInt8.toInt32)).toInt := by rw [h]
  rw [e, e] at q
  simp only [Int.bmod] at q
  apply Int32.toInt_inj.mp
  split at q <;> split at q <;> omega
theorem own_safe0 {Z : State} {EL : List (String × Nat)} {vm : Vm} {h : Heap} {x : Addr} (hal : Z.vm.Alike vm) (E : Exa Z h x "java/lang/String") (F : Fld Z h x "java/lang/String" "value" "[B" .null) : Safe Z EL vm h x := fun B => by
  obtain ⟨cell, k, e1, e2, e3, -, -⟩ := E
  obtain ⟨cell', cf, kf, i, f, f1, f2, -, -, -, -, f7⟩ := F
  cases e1.symm.trans f1
  obtain ⟨p, -, u, a, -, q, -, G, rfl | rfl⟩ := B
  · cases (show h[q.sa]? = some q.sC from G.ha).symm.trans e1
    obtain ⟨cS, ⟨⟨-, -, -, ⟨cv, kv, iv, s4, -⟩, -, -, -, s8, -⟩, -⟩, -⟩ := G
    obtain ⟨kv', z4⟩ := ff_back (U := Wst Z vm h) hal s4
    cases z4.symm.trans f2
    rw [s8] at f7
    cases f7
  · cases (show h[q.sd]? = some q.SA from G.hd).symm.trans e1
    obtain ⟨cS, -, -, hB, -⟩ := G
    have hB' : vm.findClass "[B" = some q.SA.cls := hB
    rw [hal.findClass] at hB'
    obtain ⟨k1, q1, q2⟩ := Vm.findClass_spec hB'
    obtain ⟨k2, q3, q4⟩ := Vm.findClass_spec e2
    cases q1.symm.trans q3
    have : "[B" = "java/lang/String" := q2.symm.trans q4
    exact absurd this (by decide)
theorem own_notInst {Z : State} {a0 : Array Value} {C S K : String} {n : Nat} (w : (Jvm.Cond.superclass C S).before a0 Z = true) (wr : (Jvm.Cond.noSuperclass S).before a0 Z = true) (wi : (Jvm.Cond.instantiable K n).before a0 Z = true) (h1 : C ≠ K) (h2 : S ≠ K) : ∃ c t, Z.vm.findClass C = some c ∧ Z.vm.findClass K = some t ∧ Z.vm.assignable c t = false := by
  obtain ⟨t, kt, g1, g2, g3, g4, -, -⟩ := Cond.instantiable_spec wi
  obtain ⟨r, kr, r1, r2, r3, -, -⟩ := Cond.noSuperclass_spec wr
  have hroot : NS Z S K := ⟨r, t, r1, g1, fun fuel => by
    have ne := ids_ne r1 g1 h2
    cases fuel with
    | zero => rfl
    | succ f => simp [Vm.isSubclassAux, ne, r2, r3]⟩
  obtain ⟨c, t', q1, q2, q3⟩ := NS.step w hroot h1
  cases g1.symm.trans q2
  obtain ⟨p, k, kp, s1, s2, s3, s4, s5, -, s7⟩ := Cond.superclass_spec q1 w
  have ne := ids_ne q1 g1 h1
  have g5 : kt.isInterface = false := by
    cases hq : kt.isInterface
    · rfl
    · rw [hq] at g4; simp at g4
  refine ⟨c, t, q1, g1, ?_⟩
  show Z.vm.assignableAux (255 + 1) c t = false
  simp [Vm.assignableAux, ne, s2, g2, s5, g3, g5, Vm.isSubclass, q3]
theorem own_m3 (x : Int32) : ((x.toUInt32 >>> ((1 : Int32) &&& 31).toUInt32).toInt32) % (3 : Int32) = 0 ∨ ((x.toUInt32 >>> ((1 : Int32) &&& 31).toUInt32).toInt32) % (3 : Int32) = 1 ∨ ((x.toUInt32 >>> ((1 : Int32) &&& 31).toUInt32).toInt32) % (3 : Int32) = 2 := by
  have h := c_iushr x (1 : Int32) 1 rfl (by decide)
  generalize ((x.toUInt32 >>> ((1 : Int32) &&& 31).toUInt32).toInt32) = y at h ⊢
  have h0 : 0 ≤ y.toInt := by rw [h]; exact Int.ediv_nonneg (Int.emod_nonneg _ (by decide)) (by decide)
  have h1 := (c_irem y (3 : Int32) 3 rfl).1 h0
  have h2 : 0 ≤ y.toInt % 3 := Int.emod_nonneg _ (by decide)
  have h3 : y.toInt % 3 < 3 := Int.emod_lt_of_pos _ (by decide)
  have h4 : ∀ k : Int32, (y % (3 : Int32)).toInt = k.toInt → y % (3 : Int32) = k := fun k q => Int32.toInt_inj.mp q
  have a0 : (0 : Int32).toInt = 0 := rfl
  have a1 : (1 : Int32).toInt = 1 := rfl
  have a2 : (2 : Int32).toInt = 2 := rfl
  rcases (by omega : (y % (3 : Int32)).toInt = 0 ∨ (y % (3 : Int32)).toInt = 1 ∨ (y % (3 : Int32)).toInt = 2) with q | q | q
  · exact Or.inl (h4 0 (by rw [q, a0]))
  · exact Or.inr (Or.inl (h4 1 (by rw [q, a1])))
  · exact Or.inr (Or.inr (h4 2 (by rw [q, a2])))
theorem own_ofNat {i n : Nat} {z : Int32} (hz : z.toNatClampNeg = n) (h : i < n) : (Int32.ofNat i) < z ∧ ¬ (Int32.ofNat i) < 0 ∧ (Int32.ofNat i).toNatClampNeg = i := by
  have h1 := Int32.toInt_lt z
  have h2 : z.toInt.toNat = n := hz
  have h3 : (Int32.ofNat i).toInt = i := Int32.toInt_ofNat_small (by omega)
  have a0 : (0 : Int32).toInt = 0 := rfl
  refine ⟨?_, ?_, ?_⟩
  · rw [Int32.lt_iff_toInt_lt, h3]; omega
  · rw [Int32.lt_iff_toInt_lt, h3]; omega
  · show (Int32.ofNat i).toInt.toNat = i
    rw [h3]; rfl
theorem own_ofNatG {i n : Nat} {z : Int32} (hz : z.toNatClampNeg = n) (hn : ¬ z < 0) (h : i = n) : ¬ (Int32.ofNat i) < z := by
  have h1 := Int32.toInt_lt z
  have h2 : z.toInt.toNat = n := hz
  have a0 : (0 : Int32).toInt = 0 := rfl
  rw [Int32.lt_iff_toInt_lt] at hn
  have h3 : (Int32.ofNat i).toInt = i := Int32.toInt_ofNat_small (by omega)
  rw [Int32.lt_iff_toInt_lt, h3]; omega
theorem own_zeq {z w : Int32} {n k : Nat} (hz : z.toNatClampNeg = n) (hw : w.toNatClampNeg = k) (h1 : ¬ z < 0) (h2 : ¬ w < 0) : z = w ↔ n = k := by
  have a0 : (0 : Int32).toInt = 0 := rfl
  have e1 : z.toInt.toNat = n := hz
  have e2 : w.toInt.toNat = k := hw
  rw [Int32.lt_iff_toInt_lt] at h1 h2
  constructor
  · rintro rfl; omega
  · intro h; exact Int32.toInt_inj.mp (by omega)
theorem own_getD (xs : List Int32) (i : Nat) : (xs.map Value.int).getD i (.int (0 : Int32)) = .int (xs.getD i 0) := by
  simp only [List.getD_eq_getElem?_getD, List.getElem?_map]
  cases xs[i]? <;> rfl
theorem own_lists {xs ys : List Int32} (h : xs.length = ys.length) (q : ∀ j, j < xs.length → xs.getD j 0 = ys.getD j 0) : xs = ys := by
  apply List.ext_getElem h
  intro i h1 h2
  have := q i h1
  simpa [List.getD_eq_getElem?_getD, h1, h2] using this
theorem own_succ32 (i : Nat) : Int32.ofNat i + (1 : Int32) = Int32.ofNat (i + 1) := by
  rw [Int32.ofNat_add]; rfl
def own_bs (p c0 c1 : Int32) : List Int32 := if p = 0 then [] else if p = 1 then [(nar .byte (c0.toInt8.toInt32))] else [(nar .byte (c0.toInt8.toInt32)), (nar .byte (c1.toInt8.toInt32))]
theorem own_bs_eq {p q a b c d : Int32} (hp : p = 0 ∨ p = 1 ∨ p = 2) (hq : q = 0 ∨ q = 1 ∨ q = 2) (a0 : ¬ (a < (0 : Int32))) (a1 : ¬ ((255 : Int32) < a)) (b0 : ¬ (b < (0 : Int32))) (b1 : ¬ ((255 : Int32) < b)) (c0 : ¬ (c < (0 : Int32))) (c1 : ¬ ((255 : Int32) < c)) (d0 : ¬ (d < (0 : Int32))) (d1 : ¬ ((255 : Int32) < d)) :
    own_bs p a b = own_bs q c d ↔ p = q ∧ (p < (1 : Int32) ∨ a = c) ∧ (p < (2 : Int32) ∨ b = d) := by
  have e0 : ∀ a b : Int32, own_bs 0 a b = [] := fun _ _ => by unfold own_bs; rw [if_pos rfl]
  have e1 : ∀ a b : Int32, own_bs 1 a b = [(nar .byte (a.toInt8.toInt32))] := fun _ _ => by unfold own_bs; rw [if_neg (by decide), if_pos rfl]
  have e2 : ∀ a b : Int32, own_bs 2 a b = [(nar .byte (a.toInt8.toInt32)), (nar .byte (b.toInt8.toInt32))] := fun _ _ => by unfold own_bs; rw [if_neg (by decide), if_neg (by decide)]
  have i1 : ∀ {x y : Int32}, (nar .byte (x.toInt8.toInt32)) = (nar .byte (y.toInt8.toInt32)) → True := fun _ => trivial
  have oa : (nar .byte (a.toInt8.toInt32)) = (nar .byte (c.toInt8.toInt32)) → a = c := own_ob a0 a1 c0 c1
  have od : (nar .byte (b.toInt8.toInt32)) = (nar .byte (d.toInt8.toInt32)) → b = d := own_ob b0 b1 d0 d1
  have n01 : ¬ (0 : Int32) = 1 := by decide
  have n02 : ¬ (0 : Int32) = 2 := by decide
  have n12 : ¬ (1 : Int32) = 2 := by decide
  rcases hp with rfl | rfl | rfl <;> rcases hq with rfl | rfl | rfl
  · rw [e0, e0]; exact ⟨fun _ => ⟨rfl, Or.inl (by decide), Or.inl (by decide)⟩, fun _ => rfl⟩
  · rw [e0, e1]; exact ⟨fun q => absurd q.symm (List.cons_ne_nil _ _), fun h => absurd h.1 n01⟩
  · rw [e0, e2]; exact ⟨fun q => absurd q.symm (List.cons_ne_nil _ _), fun h => absurd h.1 n02⟩
  · rw [e1, e0]; exact ⟨fun q => absurd q (List.cons_ne_nil _ _), fun h => absurd h.1.symm n01⟩
  · rw [e1, e1]; exact ⟨fun h => ⟨rfl, Or.inr (oa (List.cons.inj h).1), Or.inl (by decide)⟩, fun h => by rw [h.2.1.resolve_left (by decide)]⟩
  · rw [e1, e2]; exact ⟨fun h => absurd (List.cons.inj h).2.symm (List.cons_ne_nil _ _), fun h => absurd h.1 n12⟩
  · rw [e2, e0]; exact ⟨fun q => absurd q (List.cons_ne_nil _ _), fun h => absurd h.1.symm n02⟩
  · rw [e2, e1]; exact ⟨fun h => absurd (List.cons.inj h).2 (List.cons_ne_nil _ _), fun h => absurd h.1.symm n12⟩
  · rw [e2, e2]; exact ⟨fun h => ⟨rfl, Or.inr (oa (List.cons.inj h).1), Or.inr (od (List.cons.inj (List.cons.inj h).2).1)⟩, fun h => by rw [h.2.1.resolve_left (by decide), h.2.2.resolve_left (by decide)]⟩
def Q_rmC2_1 (Z : State) (a1 a2 : Addr) (k1 k2 : ClassId) (c0 : Int32) (h0 : Heap) (n0 : Nat) : Option Value → Heap → List Loc → Prop := fun v h L => v = some (.int (1 : Int32)) ∧ Fr n0 L ∧ Keep h0 h [a2] ∧ Arv Z h a2 k2 .byte (1 : Int32) [(.int (nar .byte (c0.toInt8.toInt32)))] (.int (0 : Int32))
set_option maxRecDepth 65536 in
set_option maxHeartbeats 40000000 in
theorem rmC2_1 (l : Launch) (Z : State) (a0 : Array Value) (hw : ∀ d ∈ tables_1, d.before a0 Z = true) (ws : List Jvm.Cond) (a1 a2 : Addr) (k1 k2 : ClassId) (c0 : Int32) (h0 : Heap) (n0 : Nat) (O : Old Z n0 h0) (V_a1 : Arv Z h0 a1 k1 .char (1 : Int32) [(.int c0)] (.int (0 : Int32))) (V_a2 : Arv Z h0 a2 k2 .byte (1 : Int32) [(.int (0 : Int32))] (.int (0 : Int32))) (g_a2 : n0 ≤ a2) (ne_a1_a2 : a1 ≠ a2) (hb0 : ¬ ((255 : Int32) < c0)) :
    MetFree l (⟨"java/lang/StringUTF16", "compress", "([CI[BII)I"⟩ : MethodName) (head1 (Jvm.Cond.code (⟨"java/lang/StringUTF16", "compress", "([CI[BII)I"⟩ : MethodName) jdk_52_method_21_code 7 (some .int) :: ws) ({ frames := 0, cells := 0, slots := 0, locals := 0 } : Room)) (fun a U => a = #[(.ref a1), (.int (0 : Int32)), (.ref a2), (.int (0 : Int32)), (.int (1 : Int32))] ∧ Z.Warmed39 U.vm ∧ U.heap = h0) (fun _ _ _ _ _ => True) (fun _ U o U' => ∃ v L, o = .returned v ∧ (Q_rmC2_1 Z a1 a2 k1 k2 c0 h0 n0) v U'.heap L ∧ FrameEnd U o U' L ({ frames := 0, cells := 0, slots := 0, locals := 0 } : Room).cells ({ frames := 0, cells := 0, slots := 0, locals := 0 } : Room).slots) := by
  refine MetFree.of_bodySF (plainFor_of_name pn_0) hisR ?_
  intro p e s m args below meth c s₁ Bd hml0 hP hK
  obtain ⟨rfl, hZ, hh⟩ := hP
  have hx := Bd.exec
  have hby := Bd.bytes
  have hml : c.maxLocals = 7 := hml0
  have hown : s.vm.findClass "java/lang/StringUTF16" = some m.cls := findClass_of_methodNamed Bd.named
  have hnm := (name_of_methodNamed Bd.named Bd.method).1
  have hlk := BodyLoose.notSynchronized Bd
  have X0 : Stand p l e ({ frames := 0, cells := 0, slots := 0, locals := 0 } : Room) s m #[(.ref a1), (.int (0 : Int32)), (.ref a2), (.int (0 : Int32)), (.int (1 : Int32))] below meth c s₁ [] 0 0 := Stand.of_body Bd
  have e0 : s₁.heap = h0 := by rw [← hh, Bd.state]; rfl
  have N := Fr.nil n0
  have K := Keep.refl h0 [a2]
  obtain ⟨G, hG⟩ : ∃ G : State → JFrame → Prop, G = OwnG p e below s ({ frames := 0, cells := 0, slots := 0, locals := 0 } : Room).cells ({ frames := 0, cells := 0, slots := 0, locals := 0 } : Room).slots (Q_rmC2_1 Z a1 a2 k1 k2 c0 h0 n0) := ⟨_, rfl⟩
  have gb : ∀ {T T' : State} {g g' : JFrame}, (∀ t, Steps p.tables e below (T'.setTop g') t → Steps p.tables e below (T.setTop g) t) → G T' g' → G T g := by subst hG; exact fun k h => own_by k h
  have go : ∀ {T : State} {locs : List Loc} {cells slots : Nat} {g : JFrame} {v : Option Value}, Stand p l e ({ frames := 0, cells := 0, slots := 0, locals := 0 } : Room) s m #[(.ref a1), (.int (0 : Int32)), (.ref a2), (.int (0 : Int32)), (.int (1 : Int32))] below meth c T locs cells slots → (meth.sig.returnType = none → v = none) → (∀ fs, (∀ (f : JFrame) (acts : List Action), f.method = m → f.locked = none → f.entered = [] → (doReturn e (T.setTop f) acts v).1 = T.setFrames fs) → Steps p.tables e below (T.setTop g) (T.setFrames fs)) → (Q_rmC2_1 Z a1 a2 k1 k2 c0 h0 n0) v T.heap locs → cells ≤ ({ frames := 0, cells := 0, slots := 0, locals := 0 } : Room).cells → slots ≤ ({ frames := 0, cells := 0, slots := 0, locals := 0 } : Room).slots → G T g := by subst hG; exact fun X h1 h2 h3 h4 h5 => own_out X hlk h1 h2 h3 h4 h5
  show OwnG p e below s ({ frames := 0, cells := 0, slots := 0, locals := 0 } : Room).cells ({ frames := 0, cells := 0, slots := 0, locals := 0 } : Room).slots (Q_rmC2_1 Z a1 a2 k1 k2 c0 h0 n0) s₁ (entryFrame m #[(.ref a1), (.int (0 : Int32)), (.ref a2), (.int (0 : Int32)), (.int (1 : Int32))] 7)
  rw [← hG, ef_rmC2_1 m a1 (0 : Int32) a2 (0 : Int32) (1 : Int32)]
  clear hG
  show G s₁ (mkF m 0 #[.val (.ref a1), .val (.int (0 : Int32)), .val (.ref a2), .val (.int (0 : Int32)), .val (.int (1 : Int32)), .unset, .unset] [])
  refine gb (fun _ k => XS.iconst X0.here hx rfl (hb hby d6_0) (XS.istore X0.here hx rfl (hb hby d6_1) rfl (l' := #[rv a1, iv 0, rv a2, iv 0, iv 1, iv 0, .unset]) rfl (XS.iload X0.here hx rfl (hb hby d6_3) rfl (XS.iload X0.here hx rfl (hb hby d6_5) rfl (XS.icmpNo X0.here hx rfl (hb hby d6_7) rfl (tlt (by decide : (0 : Int32) < (1 : Int32))).2.1 (XS.aloadN X0.here hx rfl (hb hby d6_10) rfl rfl k)))))) ?_
  show G s₁ (mkF m 11 #[rv a1, iv 0, rv a2, iv 0, iv 1, iv 0, .unset] [.ref a1])
  refine gb (fun _ k => XS.iloadN X0.here hx rfl (hb hby d6_11) rfl k) ?_
  show G s₁ (mkF m 12 #[rv a1, iv 0, rv a2, iv 0, iv 1, iv 0, .unset] [.int 0, .ref a1])
  have V'1 := V_a1
  obtain ⟨cl1, Ar1, qk1, sz1, nn1, hs1, ft1⟩ := V'1
  have hin1 : ¬ ((0 : Int32) < 0 ∨ cl1.slots.size ≤ ((0 : Int32)).toNatClampNeg) := inb_of sz1 ⟨by decide, by decide⟩
  have hat1 : cl1.slots[((0 : Int32)).toNatClampNeg]? = some (.int c0) := hs1.at hin1 rfl
  refine gb (X0.caload hx (j := (0 : Int32)) (v := (.int c0)) (by rw [e0]; exact Ar1.1) (State.isArrayOf_alike hZ.alike Ar1.2.1) Ar1.2.2 hin1 hat1 (g := (mkF m 12 #[rv a1, iv 0, rv a2, iv 0, iv 1, iv 0, .unset] [.int 0, .ref a1])) rfl rfl (hb hby d6_12)) ?_
  show G s₁ (mkF m 13 #[rv a1, iv 0, rv a2, iv 0, iv 1, iv 0, .unset] [.int c0])
  refine gb (fun _ k => XS.istore X0.here hx rfl (hb hby d6_13) rfl (l' := #[rv a1, iv 0, rv a2, iv 0, iv 1, iv 0, iv c0]) rfl (XS.iload X0.here hx rfl (hb hby d6_15) rfl (XS.sipush X0.here hx rfl (hb hby d6_17) (XS.icmpYes X0.here hx rfl (pc0 := 20) (pc' := 26) rfl (hb hby d6_20) rfl (flt hb0).2.2.2 (by decide) (by decide) (XS.aloadN X0.here hx rfl (hb hby d6_26) rfl rfl (XS.iloadN X0.here hx rfl (hb hby d6_27) rfl k)))))) ?_
  show G s₁ (mkF m 28 #[rv a1, iv 0, rv a2, iv 0, iv 1, iv 0, iv c0] [.int 0, .ref a2])
  refine gb (fun _ k => XS.iload X0.here hx rfl (hb hby d6_28) rfl (XS.i2b X0.here hx rfl (hb hby d6_30) rfl k)) ?_
  show G s₁ (mkF m 31 #[rv a1, iv 0, rv a2, iv 0, iv 1, iv 0, iv c0] [.int (c0.toInt8.toInt32), .int 0, .ref a2])
  have V'2 := V_a2
  obtain ⟨cl2, Ar2, qk2, sz2, nn2, hs2, ft2⟩ := V'2
  have hin2 : ¬ ((0 : Int32) < 0 ∨ cl2.slots.size ≤ ((0 : Int32)).toNatClampNeg) := inb_of sz2 ⟨by decide, by decide⟩
  obtain ⟨T3, h3, X3, e3, W3, st3⟩ := stB X0 hx hZ e0 Ar2 (j := (0 : Int32)) hin2 (g := (mkF m 31 #[rv a1, iv 0, rv a2, iv 0, iv 1, iv 0, iv c0] [.int (c0.toInt8.toInt32), .int 0, .ref a2])) rfl rfl (hb hby d6_31)
  have V_a2 : Arv Z h3 a2 k2 .byte (1 : Int32) [(.int (nar .byte (c0.toInt8.toInt32)))] (.int (0 : Int32)) := Arv.set Ar2 qk2 sz2 nn2 hs2 ft2 (fits_nar_byte _) W3 0 rfl (Nat.le_of_ble_eq_true rfl)
  have V_a1 := V_a1.other W3 ne_a1_a2
  have O := O.wr W3 g_a2
  have K := K.wr W3 (Or.inl (List.mem_of_getElem? (i := 0) rfl))
  have N := Fr.snoc X3 N g_a2
  refine gb st3 ?_
  show G T3 (mkF m 32 #[rv a1, iv 0, rv a2, iv 0, iv 1, iv 0, iv c0] [])
  refine gb (fun _ k => XS.iinc X3.here hx rfl (hb hby d6_32) rfl (l' := #[rv a1, iv 1, rv a2, iv 0, iv 1, iv 0, iv c0]) rfl (XS.iinc X3.here hx rfl (hb hby d6_35) rfl (l' := #[rv a1, iv 1, rv a2, iv 1, iv 1, iv 0, iv c0]) rfl (XS.iinc X3.here hx rfl (hb hby d6_38) rfl (l' := #[rv a1, iv 1, rv a2, iv 1, iv 1, iv 1, iv c0]) rfl (XS.goto X3.here hx rfl (pc0 := 41) (pc' := 3) rfl (hb hby d6_41) (by decide) (by decide) (XS.iload X3.here hx rfl (hb hby d6_3) rfl (XS.iload X3.here hx rfl (hb hby d6_5) rfl k)))))) ?_
  show G T3 (mkF m 7 #[rv a1, iv 1, rv a2, iv 1, iv 1, iv 1, iv c0] [.int 1, .int 1])
  refine gb (fun _ k => XS.icmpYes X3.here hx rfl (pc0 := 7) (pc' := 44) rfl (hb hby d6_7) rfl (flt (by decide : ¬ ((1 : Int32) < (1 : Int32)))).2.1 (by decide) (by decide) (XS.iload X3.here hx rfl (hb hby d6_44) rfl k)) ?_
  show G T3 (mkF m 46 #[rv a1, iv 1, rv a2, iv 1, iv 1, iv 1, iv c0] [.int 1])
  exact go X3 (v := (some (.int (1 : Int32)))) (fun h => by rw [Bd.returns] at h; cases h) (fun fs hr => retOut X3 hx Bd.returns rfl (Or.inl ⟨rfl, by simp, _, rfl⟩) (hb hby d6_46) hr) (by rw [e3]; exact ⟨rfl, N, K, V_a2⟩) (by decide) (by decide)
def Q_rmC1_1 (Z : State) (a1 : Addr) (k1 : ClassId) (c0 : Int32) (h0 : Heap) (n0 : Nat) : Option Value → Heap → List Loc → Prop := fun v h L => ∃ (b : Addr) (kb : ClassId), v = some (.ref b) ∧ Fr n0 L ∧ Keep h0 h [] ∧ n0 ≤ b ∧ h0.size ≤ b ∧ Arv Z h b kb .byte (1 : Int32) [(.int (nar .byte (c0.toInt8.toInt32)))] (.int (0 : Int32))
set_option maxRecDepth 65536 in
set_option maxHeartbeats 40000000 in
theorem rmC1_1 (l : Launch) (Z : State) (a0 : Array Value) (hw : ∀ d ∈ tables_1, d.before a0 Z = true) (ws : List Jvm.Cond) (a1 : Addr) (k1 : ClassId) (c0 : Int32) (h0 : Heap) (n0 : Nat) (O : Old Z n0 h0) (V_a1 : Arv Z h0 a1 k1 .char (1 : Int32) [(.int c0)] (.int (0 : Int32))) (hb0 : ¬ ((255 : Int32) < c0)) :
    MetFree l (⟨"java/lang/StringUTF16", "compress", "([CII)[B"⟩ : MethodName) (head1 (Jvm.Cond.code (⟨"java/lang/StringUTF16", "compress", "([CII)[B"⟩ : MethodName) jdk_52_method_16_code 6 (some (.array .byte)) :: ws) ({ frames := 1, cells := 1, slots := 1, locals := 18 } : Room)) (fun a U => a = #[(.ref a1), (.int (0 : Int32)), (.int (1 : Int32))] ∧ Z.Warmed39 U.vm ∧ U.heap = h0) (fun _ _ _ _ _ => True) (fun _ U o U' => ∃ v L, o = .returned v ∧ (Q_rmC1_1 Z a1 k1 c0 h0 n0) v U'.heap L ∧ FrameEnd U o U' L ({ frames := 1, cells := 1, slots := 1, locals := 18 } : Room).cells ({ frames := 1, cells := 1, slots := 1, locals := 18 } : Room).slots) := by
  refine MetFree.of_bodySF (plainFor_of_name pn_0) hisR ?_
  intro p e s m args below meth c s₁ Bd hml0 hP hK
  obtain ⟨rfl, hZ, hh⟩ := hP
  have hx := Bd.exec
  have hby := Bd.bytes
  have hml : c.maxLocals = 6 := hml0
  have hown : s.vm.findClass "java/lang/StringUTF16" = some m.cls := findClass_of_methodNamed Bd.named
  have hnm := (name_of_methodNamed Bd.named Bd.method).1
  have hlk := BodyLoose.notSynchronized Bd
  have X0 : Stand p l e ({ frames := 1, cells := 1, slots := 1, locals := 18 } : Room) s m #[(.ref a1), (.int (0 : Int32)), (.int (1 : Int32))] below meth c s₁ [] 0 0 := Stand.of_body Bd
  have e0 : s₁.heap = h0 := by rw [← hh, Bd.state]; rfl
  have N := Fr.nil n0
  have K := Keep.refl h0 []
  obtain ⟨G, hG⟩ : ∃ G : State → JFrame → Prop, G = OwnG p e below s ({ frames := 1, cells := 1, slots := 1, locals := 18 } : Room).cells ({ frames := 1, cells := 1, slots := 1, locals := 18 } : Room).slots (Q_rmC1_1 Z a1 k1 c0 h0 n0) := ⟨_, rfl⟩
  have gb : ∀ {T T' : State} {g g' : JFrame}, (∀ t, Steps p.tables e below (T'.setTop g') t → Steps p.tables e below (T.setTop g) t) → G T' g' → G T g := by subst hG; exact fun k h => own_by k h
  have go : ∀ {T : State} {locs : List Loc} {cells slots : Nat} {g : JFrame} {v : Option Value}, Stand p l e ({ frames := 1, cells := 1, slots := 1, locals := 18 } : Room) s m #[(.ref a1), (.int (0 : Int32)), (.int (1 : Int32))] below meth c T locs cells slots → (meth.sig.returnType = none → v = none) → (∀ fs, (∀ (f : JFrame) (acts : List Action), f.method = m → f.locked = none → f.entered = [] → (doReturn e (T.setTop f) acts v).1 = T.setFrames fs) → Steps p.tables e below (T.setTop g) (T.setFrames fs)) → (Q_rmC1_1 Z a1 k1 c0 h0 n0) v T.heap locs → cells ≤ ({ frames := 1, cells := 1, slots := 1, locals := 18 } : Room).cells → slots ≤ ({ frames := 1, cells := 1, slots := 1, locals := 18 } : Room).slots → G T g := by subst hG; exact fun X h1 h2 h3 h4 h5 => own_out X hlk h1 h2 h3 h4 h5
  show OwnG p e below s ({ frames := 1, cells := 1, slots := 1, locals := 18 } : Room).cells ({ frames := 1, cells := 1, slots := 1, locals := 18 } : Room).slots (Q_rmC1_1 Z a1 k1 c0 h0 n0) s₁ (entryFrame m #[(.ref a1), (.int (0 : Int32)), (.int (1 : Int32))] 6)
  rw [← hG, ef_rmC1_1 m a1 (0 : Int32) (1 : Int32)]
  clear hG
  show G s₁ (mkF m 0 #[.val (.ref a1), .val (.int (0 : Int32)), .val (.int (1 : Int32)), .unset, .unset, .unset] [])
  refine gb (fun _ k => XS.iloadN X0.here hx rfl (hb hby d5_0) rfl k) ?_
  show G s₁ (mkF m 1 #[rv a1, iv 0, iv 1, .unset, .unset, .unset] [.int 1])
  obtain ⟨T1, h1, kA1, X1, e1, E1, A1, st1⟩ := newP X0 hx hZ (ow hw 22 rfl) e0 (g := (mkF m 1 #[rv a1, iv 0, iv 1, .unset, .unset, .unset] [.int 1])) rfl (hb hby d5_1) rfl (by decide) (cap := 1) (by decide) (by decide) (by decide) (by decide)
  obtain ⟨b1, g1⟩ : ∃ z, z = h0.size := ⟨_, rfl⟩
  rw [← g1] at A1 st1
  have g_b1 : n0 ≤ b1 := Nat.le_trans (by have := O.2.1; rw [O.1] at this; exact this) (Nat.le_of_eq g1.symm)
  have sz_b1 : h0.size ≤ b1 := Nat.le_trans K.1 (Nat.le_of_eq g1.symm)
  have ne_a1_b1 : a1 ≠ b1 := Nat.ne_of_lt (Nat.lt_of_lt_of_le V_a1.lt (Nat.le_of_eq g1.symm))
  have V_a1 := V_a1.ext E1
  have O := O.ext E1
  have K := K.ext E1
  have V_b1 : Arv Z h1 b1 kA1 .byte (1 : Int32) [(.int (0 : Int32))] (.int (0 : Int32)) := (Arv.new A1 (by decide)).pad (pad_rep [] (.int (0 : Int32)) 1)
  refine gb st1 ?_
  show G T1 (mkF m 3 #[rv a1, iv 0, iv 1, .unset, .unset, .unset] [.ref b1])
  refine gb (fun _ k => XS.astoreN X1.here hx rfl (hb hby d5_3) rfl rfl (l' := #[rv a1, iv 0, iv 1, rv b1, .unset, .unset]) rfl (XS.aloadN X1.here hx rfl (hb hby d5_4) rfl rfl (XS.iloadN X1.here hx rfl (hb hby d5_5) rfl (XS.aloadN X1.here hx rfl (hb hby d5_6) rfl rfl (XS.iconst X1.here hx rfl (hb hby d5_7) (XS.iloadN X1.here hx rfl (hb hby d5_8) rfl k)))))) ?_
  show G T1 (mkF m 9 #[rv a1, iv 0, iv 1, rv b1, .unset, .unset] [.int 1, .int 0, .ref b1, .int 0, .ref a1])
  obtain ⟨_, _, ⟨T2, Lz2, kz2, nz2⟩, -, X2, ⟨Lc2, hQ2, lq2, yq2, zq2⟩, st2⟩ := Jvm.LawKit.callS X1 hx (y := (⟨"java/lang/StringUTF16", "compress", "([CI[BII)I"⟩ : MethodName)) hown (mvT hZ (ow hw 34 rfl)) (mvT hZ (ow hw 35 rfl)) (mvT hZ (ow hw 32 rfl)) (mvT hZ (ow hw 36 rfl)) (by decide) (backOf (W := 0) (rmC2_1 l Z a0 hw [] a1 b1 k1 kA1 c0 h1 n0 O V_a1 V_b1 g_b1 ne_a1_b1 hb0) hZ (ow hw 36 rfl) (ow hw 32 rfl) (by decide) (by decide)) (g := (mkF m 9 #[rv a1, iv 0, iv 1, rv b1, .unset, .unset] [.int 1, .int 0, .ref b1, .int 0, .ref a1])) rfl (by rw [hml]; rfl) (argsL := [(.ref a1), (.int (0 : Int32)), (.ref b1), (.int (0 : Int32)), (.int (1 : Int32))]) (rest := []) (lenOf pd_0 rfl) rfl (by show 2 * 0 + _ ≤ _; exact Nat.le_of_eq rfl) (hb hby d5_9) (fun _ _ => ⟨rfl, e1, (by decide : 1 + 0 ≤ _), (by decide : 1 + 0 ≤ _)⟩)
  dsimp only [Pt.U, Pt.locs, Pt.cells, Pt.slots] at X2 lq2 yq2 zq2 st2 hQ2
  subst lq2 yq2 zq2
  obtain ⟨h2, e2⟩ : ∃ z, z = T2.heap := ⟨_, rfl⟩
  rw [← e2] at hQ2
  replace e2 := e2.symm
  obtain ⟨rfl, Nq2, Kq2, hR2⟩ := hQ2
  have N := Fr.app N Nq2
  have V_a1 := V_a1.keep Kq2 (ninS ne_a1_b1 nin0)
  have V_b1 := hR2
  have O := O.keep Kq2 (allS g_b1 all0)
  have K := K.trans Kq2 (allS (Or.inr sz_b1) all0)
  refine gb st2 ?_
  show G T2 (mkF m 12 #[rv a1, iv 0, iv 1, rv b1, .unset, .unset] [.int 1])
  refine gb (fun _ k => XS.istore X2.here hx rfl (hb hby d5_12) rfl (l' := #[rv a1, iv 0, iv 1, rv b1, iv 1, .unset]) rfl (XS.iload X2.here hx rfl (hb hby d5_14) rfl (XS.iloadN X2.here hx rfl (hb hby d5_16) rfl (XS.icmpYes X2.here hx rfl (pc0 := 17) (pc' := 57) rfl (hb hby d5_17) rfl (teq (by decide : (1 : Int32) = (1 : Int32))).1 (by decide) (by decide) (XS.aloadN X2.here hx rfl (hb hby d5_57) rfl rfl k))))) ?_
  show G T2 (mkF m 58 #[rv a1, iv 0, iv 1, rv b1, iv 1, .unset] [.ref b1])
  exact go X2 (v := (some (.ref b1))) (fun h => by rw [Bd.returns] at h; cases h) (fun fs hr => retOut X2 hx Bd.returns rfl (Or.inr (Or.inr (Or.inr (Or.inr ⟨rfl, rfl, rfl⟩)))) (hb hby d5_58) hr) (by rw [e2]; exact ⟨_, _, rfl, N, K, g_b1, sz_b1, V_b1⟩) (by decide) (by decide)
def Q_rmCo_1 (Z : State) (a1 : Addr) (k1 : ClassId) (vs1 : List Value) (h0 : Heap) (n0 : Nat) : Option Value → Heap → List Loc → Prop := fun v h L => v = some (.int (0 : Int32)) ∧ L = [] ∧ h = h0
set_option maxRecDepth 65536 in
set_option maxHeartbeats 40000000 in
theorem rmCo_1 (l : Launch) (Z : State) (a0 : Array Value) (hw : ∀ d ∈ tables_1, d.before a0 Z = true) (ws : List Jvm.Cond) (a1 : Addr) (k1 : ClassId) (vs1 : List Value) (h0 : Heap) (n0 : Nat) (O : Old Z n0 h0) (V_a1 : Arv Z h0 a1 k1 .byte (1 : Int32) vs1 (.int (0 : Int32))) :
    MetFree l (⟨"java/lang/StringUTF16", "coderFromArrayLen", "([BI)B"⟩ : MethodName) (head1 (Jvm.Cond.code (⟨"java/lang/StringUTF16", "coderFromArrayLen", "([BI)B"⟩ : MethodName) jdk_52_method_15_code 2 (some .byte) :: ws) ({ frames := 0, cells := 0, slots := 0, locals := 0 } : Room)) (fun a U => a = #[(.ref a1), (.int (1 : Int32))] ∧ Z.Warmed39 U.vm ∧ U.heap = h0) (fun _ _ _ _ _ => True) (fun _ U o U' => ∃ v L, o = .returned v ∧ (Q_rmCo_1 Z a1 k1 vs1 h0 n0) v U'.heap L ∧ FrameEnd U o U' L ({ frames := 0, cells := 0, slots := 0, locals := 0 } : Room).cells ({ frames := 0, cells := 0, slots := 0, locals := 0 } : Room).slots) := by
  refine MetFree.of_bodySF (plainFor_of_name pn_0) hisR ?_
  intro p e s m args below meth c s₁ Bd hml0 hP hK
  obtain ⟨rfl, hZ, hh⟩ := hP
  have hx := Bd.exec
  have hby := Bd.bytes
  have hml : c.maxLocals = 2 := hml0
  have hown : s.vm.findClass "java/lang/StringUTF16" = some m.cls := findClass_of_methodNamed Bd.named
  have hnm := (name_of_methodNamed Bd.named Bd.method).1
  have hlk := BodyLoose.notSynchronized Bd
  have X0 : Stand p l e ({ frames := 0, cells := 0, slots := 0, locals := 0 } : Room) s m #[(.ref a1), (.int (1 : Int32))] below meth c s₁ [] 0 0 := Stand.of_body Bd
  have e0 : s₁.heap = h0 := by rw [← hh, Bd.state]; rfl
  have N := Fr.nil n0
  obtain ⟨G, hG⟩ : ∃ G : State → JFrame → Prop, G = OwnG p e below s ({ frames := 0, cells := 0, slots := 0, locals := 0 } : Room).cells ({ frames := 0, cells := 0, slots := 0, locals := 0 } : Room).slots (Q_rmCo_1 Z a1 k1 vs1 h0 n0) := ⟨_, rfl⟩
  have gb : ∀ {T T' : State} {g g' : JFrame}, (∀ t, Steps p.tables e below (T'.setTop g') t → Steps p.tables e below (T.setTop g) t) → G T' g' → G T g := by subst hG; exact fun k h => own_by k h
  have go : ∀ {T : State} {locs : List Loc} {cells slots : Nat} {g : JFrame} {v : Option Value}, Stand p l e ({ frames := 0, cells := 0, slots := 0, locals := 0 } : Room) s m #[(.ref a1), (.int (1 : Int32))] below meth c T locs cells slots → (meth.sig.returnType = none → v = none) → (∀ fs, (∀ (f : JFrame) (acts : List Action), f.method = m → f.locked = none → f.entered = [] → (doReturn e (T.setTop f) acts v).1 = T.setFrames fs) → Steps p.tables e below (T.setTop g) (T.setFrames fs)) → (Q_rmCo_1 Z a1 k1 vs1 h0 n0) v T.heap locs → cells ≤ ({ frames := 0, cells := 0, slots := 0, locals := 0 } : Room).cells → slots ≤ ({ frames := 0, cells := 0, slots := 0, locals := 0 } : Room).slots → G T g := by subst hG; exact fun X h1 h2 h3 h4 h5 => own_out X hlk h1 h2 h3 h4 h5
  show OwnG p e below s ({ frames := 0, cells := 0, slots := 0, locals := 0 } : Room).cells ({ frames := 0, cells := 0, slots := 0, locals := 0 } : Room).slots (Q_rmCo_1 Z a1 k1 vs1 h0 n0) s₁ (entryFrame m #[(.ref a1), (.int (1 : Int32))] 2)
  rw [← hG, ef_rmCo_1 m a1 (1 : Int32)]
  clear hG
  show G s₁ (mkF m 0 #[.val (.ref a1), .val (.int (1 : Int32))] [])
  refine gb (fun _ k => XS.iloadN X0.here hx rfl (hb hby d7_0) rfl (XS.aloadN X0.here hx rfl (hb hby d7_1) rfl rfl k)) ?_
  show G s₁ (mkF m 2 #[rv a1, iv 1] [.ref a1, .int 1])
  have V'1 := V_a1
  obtain ⟨cl1, Ar1, qk1, sz1, nn1, hs1, ft1⟩ := V'1
  refine gb (X0.arraylength hx (by rw [e0]; exact Ar1.1) (State.isArrayOf_alike hZ.alike Ar1.2.1) (g := (mkF m 2 #[rv a1, iv 1] [.ref a1, .int 1])) rfl rfl (hb hby d7_2)) ?_
  rw [len_of sz1 nn1]
  show G s₁ (mkF m 3 #[rv a1, iv 1] [.int 1, .int 1])
  refine gb (fun _ k => XS.isub X0.here hx rfl (hb hby d7_3) rfl (XS.bipush X0.here hx rfl (hb hby d7_4) (XS.iushr X0.here hx rfl (hb hby d7_6) rfl (XS.i2b X0.here hx rfl (hb hby d7_7) rfl k)))) ?_
  show G s₁ (mkF m 8 #[rv a1, iv 1] [.int 0])
  exact go X0 (v := (some (.int (0 : Int32)))) (fun h => by rw [Bd.returns] at h; cases h) (fun fs hr => retOut X0 hx Bd.returns rfl (Or.inl ⟨rfl, by simp, _, rfl⟩) (hb hby d7_8) hr) (⟨rfl, rfl, e0⟩) (by decide) (by decide)
def Q_rmS4_1 (Z : State) (a1 a2 : Addr) (k2 : ClassId) (c0 : Int32) (h0 : Heap) (n0 : Nat) (zc : Int32) : Option Value → Heap → List Loc → Prop := fun v h L => ∃ (b : Addr) (kb : ClassId), v = none ∧ Fr n0 L ∧ Keep h0 h [a1] ∧ Exa Z h a1 "java/lang/String" ∧ Fld Z h a1 "java/lang/String" "coder" "B" (.int (0 : Int32)) ∧ Fld Z h a1 "java/lang/String" "value" "[B" (.ref b) ∧ n0 ≤ b ∧ h0.size ≤ b ∧ Arv Z h b kb .byte (1 : Int32) [(.int (nar .byte (c0.toInt8.toInt32)))] (.int (0 : Int32))
set_option maxRecDepth 65536 in
set_option maxHeartbeats 40000000 in
theorem rmS4_1 (l : Launch) (Z : State) (a0 : Array Value) (hw : ∀ d ∈ tables_1, d.before a0 Z = true) (ws : List Jvm.Cond) (a1 a2 : Addr) (k2 : ClassId) (c0 : Int32) (h0 : Heap) (n0 : Nat) (O : Old Z n0 h0) (E_a1 : Exa Z h0 a1 "java/lang/String") (F_coder_a1 : Fld Z h0 a1 "java/lang/String" "coder" "B" (.int (0 : Int32))) (F_value_a1 : Fld Z h0 a1 "java/lang/String" "value" "[B" .null) (g_a1 : n0 ≤ a1) (V_a2 : Arv Z h0 a2 k2 .char (1 : Int32) [(.int c0)] (.int (0 : Int32))) (ne_a2_a1 : a2 ≠ a1) (hb0 : ¬ ((255 : Int32) < c0)) (zc : Int32) (S_cs : Sta Z Z.heap "java/lang/String" "COMPACT_STRINGS" "Z" (.int zc)) (hzc : ¬ zc = (0 : Int32)) :
    MetFree l (⟨"java/lang/String", "<init>", "([CIILjava/lang/Void;)V"⟩ : MethodName) (head1 (Jvm.Cond.code (⟨"java/lang/String", "<init>", "([CIILjava/lang/Void;)V"⟩ : MethodName) jdk_42_method_149_code 6 none :: ws) ({ frames := 2, cells := 1, slots := 1, locals := 35 } : Room)) (fun a U => a = #[(.ref a1), (.ref a2), (.int (0 : Int32)), (.int (1 : Int32)), .null] ∧ Z.Warmed39 U.vm ∧ U.heap = h0) (fun _ _ _ _ _ => True) (fun _ U o U' => ∃ v L, o = .returned v ∧ (Q_rmS4_1 Z a1 a2 k2 c0 h0 n0 zc) v U'.heap L ∧ FrameEnd U o U' L ({ frames := 2, cells := 1, slots := 1, locals := 35 } : Room).cells ({ frames := 2, cells := 1, slots := 1, locals := 35 } : Room).slots) := by
  refine MetFree.of_bodySF (plainFor_of_name pn_1) hisR ?_
  intro p e s m args below meth c s₁ Bd hml0 hP hK
  obtain ⟨rfl, hZ, hh⟩ := hP
  have hx := Bd.exec
  have hby := Bd.bytes
  have hml : c.maxLocals = 6 := hml0
  have hown : s.vm.findClass "java/lang/String" = some m.cls := findClass_of_methodNamed Bd.named
  have hnm := (name_of_methodNamed Bd.named Bd.method).1
  have hlk := BodyLoose.notSynchronized Bd
  have X0 : Stand p l e ({ frames := 2, cells := 1, slots := 1, locals := 35 } : Room) s m #[(.ref a1), (.ref a2), (.int (0 : Int32)), (.int (1 : Int32)), .null] below meth c s₁ [] 0 0 := Stand.of_body Bd
  have e0 : s₁.heap = h0 := by rw [← hh, Bd.state]; rfl
  have N := Fr.nil n0
  have K := Keep.refl h0 [a1]
  obtain ⟨G, hG⟩ : ∃ G : State → JFrame → Prop, G = OwnG p e below s ({ frames := 2, cells := 1, slots := 1, locals := 35 } : Room).cells ({ frames := 2, cells := 1, slots := 1, locals := 35 } : Room).slots (Q_rmS4_1 Z a1 a2 k2 c0 h0 n0 zc) := ⟨_, rfl⟩
  have gb : ∀ {T T' : State} {g g' : JFrame}, (∀ t, Steps p.tables e below (T'.setTop g') t → Steps p.tables e below (T.setTop g) t) → G T' g' → G T g := by subst hG; exact fun k h => own_by k h
  have go : ∀ {T : State} {locs : List Loc} {cells slots : Nat} {g : JFrame} {v : Option Value}, Stand p l e ({ frames := 2, cells := 1, slots := 1, locals := 35 } : Room) s m #[(.ref a1), (.ref a2), (.int (0 : Int32)), (.int (1 : Int32)), .null] below meth c T locs cells slots → (meth.sig.returnType = none → v = none) → (∀ fs, (∀ (f : JFrame) (acts : List Action), f.method = m → f.locked = none → f.entered = [] → (doReturn e (T.setTop f) acts v).1 = T.setFrames fs) → Steps p.tables e below (T.setTop g) (T.setFrames fs)) → (Q_rmS4_1 Z a1 a2 k2 c0 h0 n0 zc) v T.heap locs → cells ≤ ({ frames := 2, cells := 1, slots := 1, locals := 35 } : Room).cells → slots ≤ ({ frames := 2, cells := 1, slots := 1, locals := 35 } : Room).slots → G T g := by subst hG; exact fun X h1 h2 h3 h4 h5 => own_out X hlk h1 h2 h3 h4 h5
  show OwnG p e below s ({ frames := 2, cells := 1, slots := 1, locals := 35 } : Room).cells ({ frames := 2, cells := 1, slots := 1, locals := 35 } : Room).slots (Q_rmS4_1 Z a1 a2 k2 c0 h0 n0 zc) s₁ (entryFrame m #[(.ref a1), (.ref a2), (.int (0 : Int32)), (.int (1 : Int32)), .null] 6)
  rw [← hG, ef_rmS4_1 m a1 a2 (0 : Int32) (1 : Int32)]
  clear hG
  show G s₁ (mkF m 0 #[.val (.ref a1), .val (.ref a2), .val (.int (0 : Int32)), .val (.int (1 : Int32)), .val .null, .unset] [])
  refine gb (fun _ k => XS.aloadN X0.here hx rfl (hb hby d3_0) rfl rfl k) ?_
  show G s₁ (mkF m 1 #[rv a1, rv a2, iv 0, iv 1, .val .null, .unset] [.ref a1])
  obtain ⟨T1, X1, e1, st1⟩ := initO X0 hx hZ hown (ow hw 18 rfl) (ow hw 19 rfl) (ow hw 20 rfl) e0 (g := (mkF m 1 #[rv a1, rv a2, iv 0, iv 1, .val .null, .unset] [.ref a1])) rfl (by rw [hml]; rfl) rfl (hb hby d3_1) (by decide) (W := 0) (by show 2 * 0 + _ ≤ _; exact Nat.le_of_eq rfl) (by decide)
  refine gb st1 ?_
  show G T1 (mkF m 4 #[rv a1, rv a2, iv 0, iv 1, .val .null, .unset] [])
  refine gb (fun _ k => XS.iloadN X1.here hx rfl (hb hby d3_4) rfl (XS.ifYes X1.here hx rfl (pc0 := 5) (pc' := 27) rfl (hb hby d3_5) rfl ((if0 _ _).trans (feq (by decide : ¬ ((1 : Int32) = (0 : Int32)))).2) (by decide) (by decide) k)) ?_
  show G T1 (mkF m 27 #[rv a1, rv a2, iv 0, iv 1, .val .null, .unset] [])
  obtain ⟨T2, X2, e2, st2⟩ := getS2 X1 hx hZ hown (host := "") (Or.inl (ow hw 29 rfl)) Via.refl e1 (S_cs.ext O.2) (g := (mkF m 27 #[rv a1, rv a2, iv 0, iv 1, .val .null, .unset] [])) rfl (hb hby d3_27)
  refine gb st2 ?_
  show G T2 (mkF m 30 #[rv a1, rv a2, iv 0, iv 1, .val .null, .unset] [.int zc])
  refine gb (fun _ k => XS.ifNo X2.here hx rfl (hb hby d3_30) rfl ((if0 _ _).trans (feq hzc).1) (XS.aloadN X2.here hx rfl (hb hby d3_33) rfl rfl (XS.iloadN X2.here hx rfl (hb hby d3_34) rfl (XS.iloadN X2.here hx rfl (hb hby d3_35) rfl k)))) ?_
  show G T2 (mkF m 36 #[rv a1, rv a2, iv 0, iv 1, .val .null, .unset] [.int 1, .int 0, .ref a2])
  have lt_a1 := E_a1.lt
  have lt_a2 := V_a2.lt
  have szK := K.1
  obtain ⟨_, _, ⟨T3, Lz3, kz3, nz3⟩, -, X3, ⟨Lc3, hQ3, lq3, yq3, zq3⟩, st3⟩ := Jvm.LawKit.callS X2 hx (y := (⟨"java/lang/StringUTF16", "compress", "([CII)[B"⟩ : MethodName)) hown (mvT hZ (ow hw 30 rfl)) (mvT hZ (ow hw 31 rfl)) (mvT hZ (ow hw 32 rfl)) (mvT hZ (ow hw 33 rfl)) (by decide) (backOf (W := 0) (rmC1_1 l Z a0 hw [] a2 k2 c0 h0 n0 O V_a2 hb0) hZ (ow hw 33 rfl) (ow hw 32 rfl) (by decide) (by decide)) (g := (mkF m 36 #[rv a1, rv a2, iv 0, iv 1, .val .null, .unset] [.int 1, .int 0, .ref a2])) rfl (by rw [hml]; rfl) (argsL := [(.ref a2), (.int (0 : Int32)), (.int (1 : Int32))]) (rest := []) (lenOf pd_1 rfl) rfl (by show 2 * 0 + _ ≤ _; exact Nat.le_of_eq rfl) (hb hby d3_36) (fun _ _ => ⟨rfl, e2, (by decide : 0 + 1 ≤ _), (by decide : 0 + 1 ≤ _)⟩)
  dsimp only [Pt.U, Pt.locs, Pt.cells, Pt.slots] at X3 lq3 yq3 zq3 st3 hQ3
  subst lq3 yq3 zq3
  obtain ⟨h3, e3⟩ : ∃ z, z = T3.heap := ⟨_, rfl⟩
  rw [← e3] at hQ3
  replace e3 := e3.symm
  obtain ⟨b3, kb3, rfl, Nq3, Kq3, hR3⟩ := hQ3
  have N := Fr.app N Nq3
  have E_a1 := E_a1.keep Kq3
  have F_coder_a1 := F_coder_a1.keep Kq3 nin0
  have F_value_a1 := F_value_a1.keep Kq3 nin0
  have V_a2 := V_a2.keep Kq3 nin0
  obtain ⟨g_b3, sz_b3, V_b3⟩ := hR3
  have O := O.keep Kq3 all0
  have K := K.trans Kq3 all0
  have ne_a1_b3 : a1 ≠ b3 := Nat.ne_of_lt (Nat.lt_of_lt_of_le lt_a1 sz_b3)
  have ne_a2_b3 : a2 ≠ b3 := Nat.ne_of_lt (Nat.lt_of_lt_of_le lt_a2 sz_b3)
  have sz_b3 := Nat.le_trans szK sz_b3
  refine gb st3 ?_
  show G T3 (mkF m 39 #[rv a1, rv a2, iv 0, iv 1, .val .null, .unset] [.ref b3])
  refine gb (fun _ k => XS.astore X3.here hx rfl (hb hby d3_39) rfl rfl (l' := #[rv a1, rv a2, iv 0, iv 1, .val .null, rv b3]) rfl (XS.aloadN X3.here hx rfl (hb hby d3_41) rfl rfl (XS.aload X3.here hx rfl (hb hby d3_42) rfl rfl (XS.iloadN X3.here hx rfl (hb hby d3_44) rfl k)))) ?_
  show G T3 (mkF m 45 #[rv a1, rv a2, iv 0, iv 1, .val .null, rv b3] [.int 1, .ref b3, .ref a1])
  obtain ⟨_, _, ⟨T4, Lz4, kz4, nz4⟩, -, X4, ⟨Lc4, hQ4, lq4, yq4, zq4⟩, st4⟩ := Jvm.LawKit.callS X3 hx (y := (⟨"java/lang/StringUTF16", "coderFromArrayLen", "([BI)B"⟩ : MethodName)) hown (mvT hZ (ow hw 37 rfl)) (mvT hZ (ow hw 38 rfl)) (mvT hZ (ow hw 32 rfl)) (mvT hZ (ow hw 39 rfl)) (by decide) (backOf (W := 1) (rmCo_1 l Z a0 hw [] b3 kb3 _ h3 n0 O V_b3) hZ (ow hw 39 rfl) (ow hw 32 rfl) (by decide) (by decide)) (g := (mkF m 45 #[rv a1, rv a2, iv 0, iv 1, .val .null, rv b3] [.int 1, .ref b3, .ref a1])) rfl (by rw [hml]; rfl) (argsL := [(.ref b3), (.int (1 : Int32))]) (rest := [(.ref a1)]) (lenOf pd_2 rfl) rfl (by show 2 * 0 + _ ≤ _; exact Nat.le_of_eq rfl) (hb hby d3_45) (fun _ _ => ⟨rfl, e3, (by decide : 1 + 0 ≤ _), (by decide : 1 + 0 ≤ _)⟩)
  dsimp only [Pt.U, Pt.locs, Pt.cells, Pt.slots] at X4 lq4 yq4 zq4 st4 hQ4
  subst lq4 yq4 zq4
  obtain ⟨rfl, rfl, e4⟩ := hQ4
  try rw [List.append_nil] at X4
  refine gb st4 ?_
  show G T4 (mkF m 48 #[rv a1, rv a2, iv 0, iv 1, .val .null, rv b3] [.int 0, .ref a1])
  obtain ⟨T5, h5, X5, e5, W5, st5⟩ := putFN X4 hx hZ hown (ow hw 28 rfl) Via.refl e4 F_coder_a1 E_a1 (Or.inr ⟨(ow hw 24 rfl), rfl, hnm⟩) (ow hw 8 rfl) (ty := .byte) (v' := (.int (0 : Int32))) (by decide) rfl (by decide) (g := (mkF m 48 #[rv a1, rv a2, iv 0, iv 1, .val .null, rv b3] [.int 0, .ref a1])) rfl rfl (hb hby d3_48)
  refine gb st5 ?_
  have F_coder_a1 := F_coder_a1.same W5
  have E_a1 := E_a1.wr W5
  have F_value_a1 := F_value_a1.other W5 (Or.inr (slot_ne (Or.inr (ow hw 23 rfl)) (Or.inr (ow hw 24 rfl)) (by decide) (t := (.array .byte)) (t' := .byte) (by decide) (by decide)))
  have V_a2 := V_a2.other W5 ne_a2_a1
  have V_b3 := V_b3.other W5 (Ne.symm ne_a1_b3)
  have O := O.wr W5 g_a1
  have K := K.wr W5 (Or.inl (List.mem_of_getElem? (i := 0) rfl))
  have N := Fr.snoc X5 N g_a1
  show G T5 (mkF m 51 #[rv a1, rv a2, iv 0, iv 1, .val .null, rv b3] [])
  refine gb (fun _ k => XS.aloadN X5.here hx rfl (hb hby d3_51) rfl rfl (XS.aload X5.here hx rfl (hb hby d3_52) rfl rfl k)) ?_
  show G T5 (mkF m 54 #[rv a1, rv a2, iv 0, iv 1, .val .null, rv b3] [.ref b3, .ref a1])
  obtain ⟨T6, h6, X6, e6, W6, st6⟩ := putF X5 hx hZ hown (host := "") (Or.inl (ow hw 27 rfl)) Via.refl e5 F_value_a1 E_a1 (Or.inr ⟨(ow hw 23 rfl), rfl, hnm⟩) (ow hw 8 rfl) (ty := (.array .byte)) (by decide) rfl rfl (g := (mkF m 54 #[rv a1, rv a2, iv 0, iv 1, .val .null, rv b3] [.ref b3, .ref a1])) rfl rfl (hb hby d3_54)
  refine gb st6 ?_
  have F_value_a1 := F_value_a1.same W6
  have E_a1 := E_a1.wr W6
  have V_a2 := V_a2.other W6 ne_a2_a1
  have V_b3 := V_b3.other W6 (Ne.symm ne_a1_b3)
  have F_coder_a1 := F_coder_a1.other W6 (Or.inr (slot_ne (Or.inr (ow hw 24 rfl)) (Or.inr (ow hw 23 rfl)) (by decide) (t := .byte) (t' := (.array .byte)) (by decide) (by decide)))
  have O := O.wr W6 g_a1
  have K := K.wr W6 (Or.inl (List.mem_of_getElem? (i := 0) rfl))
  have N := Fr.snoc X6 N g_a1
  show G T6 (mkF m 57 #[rv a1, rv a2, iv 0, iv 1, .val .null, rv b3] [])
  exact go X6 (v := none) (fun _ => rfl) (fun fs hr => X6.returnOut hx Bd.returns (hb hby d3_57) hr) (by rw [e6]; exact ⟨_, _, rfl, N, K, E_a1, F_coder_a1, F_value_a1, g_b3, sz_b3, V_b3⟩) (by decide) (by decide)
def Q_rmS1_1 (Z : State) (a1 a2 : Addr) (k2 : ClassId) (c0 : Int32) (h0 : Heap) (n0 : Nat) (zc : Int32) : Option Value → Heap → List Loc → Prop := fun v h L => ∃ (b : Addr) (kb : ClassId), v = none ∧ Fr n0 L ∧ Keep h0 h [a1] ∧ Exa Z h a1 "java/lang/String" ∧ Fld Z h a1 "java/lang/String" "coder" "B" (.int (0 : Int32)) ∧ Fld Z h a1 "java/lang/String" "value" "[B" (.ref b) ∧ n0 ≤ b ∧ h0.size ≤ b ∧ Arv Z h b kb .byte (1 : Int32) [(.int (nar .byte (c0.toInt8.toInt32)))] (.int (0 : Int32))
set_option maxRecDepth 65536 in
set_option maxHeartbeats 40000000 in
theorem rmS1_1 (l : Launch) (Z : State) (a0 : Array Value) (hw : ∀ d ∈ tables_1, d.before a0 Z = true) (ws : List Jvm.Cond) (a1 a2 : Addr) (k2 : ClassId) (c0 : Int32) (h0 : Heap) (n0 : Nat) (O : Old Z n0 h0) (E_a1 : Exa Z h0 a1 "java/lang/String") (F_coder_a1 : Fld Z h0 a1 "java/lang/String" "coder" "B" (.int (0 : Int32))) (F_value_a1 : Fld Z h0 a1 "java/lang/String" "value" "[B" .null) (g_a1 : n0 ≤ a1) (V_a2 : Arv Z h0 a2 k2 .char (1 : Int32) [(.int c0)] (.int (0 : Int32))) (ne_a2_a1 : a2 ≠ a1) (hb0 : ¬ ((255 : Int32) < c0)) (zc : Int32) (S_cs : Sta Z Z.heap "java/lang/String" "COMPACT_STRINGS" "Z" (.int zc)) (hzc : ¬ zc = (0 : Int32)) :
    MetFree l (⟨"java/lang/String", "<init>", "([C)V"⟩ : MethodName) (head1 (Jvm.Cond.code (⟨"java/lang/String", "<init>", "([C)V"⟩ : MethodName) jdk_42_method_3_code 2 none :: ws) ({ frames := 3, cells := 1, slots := 1, locals := 52 } : Room)) (fun a U => a = #[(.ref a1), (.ref a2)] ∧ Z.Warmed39 U.vm ∧ U.heap = h0) (fun _ _ _ _ _ => True) (fun _ U o U' => ∃ v L, o = .returned v ∧ (Q_rmS1_1 Z a1 a2 k2 c0 h0 n0 zc) v U'.heap L ∧ FrameEnd U o U' L ({ frames := 3, cells := 1, slots := 1, locals := 52 } : Room).cells ({ frames := 3, cells := 1, slots := 1, locals := 52 } : Room).slots) := by
  refine MetFree.of_bodySF (plainFor_of_name pn_1) hisR ?_
  intro p e s m args below meth c s₁ Bd hml0 hP hK
  obtain ⟨rfl, hZ, hh⟩ := hP
  have hx := Bd.exec
  have hby := Bd.bytes
  have hml : c.maxLocals = 2 := hml0
  have hown : s.vm.findClass "java/lang/String" = some m.cls := findClass_of_methodNamed Bd.named
  have hnm := (name_of_methodNamed Bd.named Bd.method).1
  have hlk := BodyLoose.notSynchronized Bd
  have X0 : Stand p l e ({ frames := 3, cells := 1, slots := 1, locals := 52 } : Room) s m #[(.ref a1), (.ref a2)] below meth c s₁ [] 0 0 := Stand.of_body Bd
  have e0 : s₁.heap = h0 := by rw [← hh, Bd.state]; rfl
  have N := Fr.nil n0
  have K := Keep.refl h0 [a1]
  obtain ⟨G, hG⟩ : ∃ G : State → JFrame → Prop, G = OwnG p e below s ({ frames := 3, cells := 1, slots := 1, locals := 52 } : Room).cells ({ frames := 3, cells := 1, slots := 1, locals := 52 } : Room).slots (Q_rmS1_1 Z a1 a2 k2 c0 h0 n0 zc) := ⟨_, rfl⟩
  have gb : ∀ {T T' : State} {g g' : JFrame}, (∀ t, Steps p.tables e below (T'.setTop g') t → Steps p.tables e below (T.setTop g) t) → G T' g' → G T g := by subst hG; exact fun k h => own_by k h
  have go : ∀ {T : State} {locs : List Loc} {cells slots : Nat} {g : JFrame} {v : Option Value}, Stand p l e ({ frames := 3, cells := 1, slots := 1, locals := 52 } : Room) s m #[(.ref a1), (.ref a2)] below meth c T locs cells slots → (meth.sig.returnType = none → v = none) → (∀ fs, (∀ (f : JFrame) (acts : List Action), f.method = m → f.locked = none → f.entered = [] → (doReturn e (T.setTop f) acts v).1 = T.setFrames fs) → Steps p.tables e below (T.setTop g) (T.setFrames fs)) → (Q_rmS1_1 Z a1 a2 k2 c0 h0 n0 zc) v T.heap locs → cells ≤ ({ frames := 3, cells := 1, slots := 1, locals := 52 } : Room).cells → slots ≤ ({ frames := 3, cells := 1, slots := 1, locals := 52 } : Room).slots → G T g := by subst hG; exact fun X h1 h2 h3 h4 h5 => own_out X hlk h1 h2 h3 h4 h5
  show OwnG p e below s ({ frames := 3, cells := 1, slots := 1, locals := 52 } : Room).cells ({ frames := 3, cells := 1, slots := 1, locals := 52 } : Room).slots (Q_rmS1_1 Z a1 a2 k2 c0 h0 n0 zc) s₁ (entryFrame m #[(.ref a1), (.ref a2)] 2)
  rw [← hG, ef_rmS1_1 m a1 a2]
  clear hG
  show G s₁ (mkF m 0 #[.val (.ref a1), .val (.ref a2)] [])
  refine gb (fun _ k => XS.aloadN X0.here hx rfl (hb hby d2_0) rfl rfl (XS.aloadN X0.here hx rfl (hb hby d2_1) rfl rfl (XS.iconst X0.here hx rfl (hb hby d2_2) (XS.aloadN X0.here hx rfl (hb hby d2_3) rfl rfl k)))) ?_
  show G s₁ (mkF m 4 #[rv a1, rv a2] [.ref a2, .int 0, .ref a2, .ref a1])
  have V'1 := V_a2
  obtain ⟨cl1, Ar1, qk1, sz1, nn1, hs1, ft1⟩ := V'1
  refine gb (X0.arraylength hx (by rw [e0]; exact Ar1.1) (State.isArrayOf_alike hZ.alike Ar1.2.1) (g := (mkF m 4 #[rv a1, rv a2] [.ref a2, .int 0, .ref a2, .ref a1])) rfl rfl (hb hby d2_4)) ?_
  rw [len_of sz1 nn1]
  show G s₁ (mkF m 5 #[rv a1, rv a2] [.int 1, .int 0, .ref a2, .ref a1])
  refine gb (fun _ k => XS.aconstNull X0.here hx rfl (hb hby d2_5) k) ?_
  show G s₁ (mkF m 6 #[rv a1, rv a2] [.null, .int 1, .int 0, .ref a2, .ref a1])
  obtain ⟨_, _, ⟨T2, Lz2, kz2, nz2⟩, -, X2, ⟨Lc2, hQ2, lq2, yq2, zq2⟩, st2⟩ := X0.specialBack hx (y := (⟨"java/lang/String", "<init>", "([CIILjava/lang/Void;)V"⟩ : MethodName)) rfl hown (mvT hZ (ow hw 14 rfl)) (mvT hZ (ow hw 15 rfl)) (mvT hZ (ow hw 17 rfl)) (by decide) (backOf (W := 0) (rmS4_1 l Z a0 hw [] a1 a2 k2 c0 h0 n0 O E_a1 F_coder_a1 F_value_a1 g_a1 V_a2 ne_a2_a1 hb0 zc S_cs hzc) hZ (ow hw 17 rfl) (ow hw 9 rfl) (by decide) (by decide)) (g := (mkF m 6 #[rv a1, rv a2] [.null, .int 1, .int 0, .ref a2, .ref a1])) rfl (by rw [hml]; rfl) (Steps.refl _) (a := a1) (argsL := [(.ref a2), (.int (0 : Int32)), (.int (1 : Int32)), .null]) (rest := []) (lenOf pd_3 rfl) rfl (by show 2 * 0 + _ ≤ _; exact Nat.le_of_eq rfl) (hb hby d2_6) (fun _ _ => ⟨rfl, e0, (by decide : 0 + 1 ≤ _), (by decide : 0 + 1 ≤ _)⟩)
  dsimp only [Pt.U, Pt.locs, Pt.cells, Pt.slots] at X2 lq2 yq2 zq2 st2 hQ2
  subst lq2 yq2 zq2
  obtain ⟨h2, e2⟩ : ∃ z, z = T2.heap := ⟨_, rfl⟩
  rw [← e2] at hQ2
  replace e2 := e2.symm
  obtain ⟨b2, kb2, rfl, Nq2, Kq2, hR2⟩ := hQ2
  have N := Fr.app N Nq2
  have E_a1 := E_a1.keep Kq2
  have V_a2 := V_a2.keep Kq2 (ninS ne_a2_a1 nin0)
  obtain ⟨E_a1, Fc2, Fv2, gb2, sb2, Vb2⟩ := hR2
  have O := O.keep Kq2 (allS g_a1 all0)
  have K := K.trans Kq2 (allS (Or.inl (List.mem_of_getElem? (i := 0) rfl)) all0)
  refine gb (fun _ k => st2.trans k) ?_
  show G T2 (mkF m 9 #[rv a1, rv a2] [])
  exact go X2 (v := none) (fun _ => rfl) (fun fs hr => X2.returnOut hx Bd.returns (hb hby d2_9) hr) (by rw [e2]; exact ⟨_, _, rfl, N, K, E_a1, Fc2, Fv2, gb2, sb2, Vb2⟩) (by decide) (by decide)
def Q_rmC2_2 (Z : State) (a1 a2 : Addr) (k1 k2 : ClassId) (c0 c1 : Int32) (h0 : Heap) (n0 : Nat) : Option Value → Heap → List Loc → Prop := fun v h L => v = some (.int (2 : Int32)) ∧ Fr n0 L ∧ Keep h0 h [a2] ∧ Arv Z h a2 k2 .byte (2 : Int32) [(.int (nar .byte (c0.toInt8.toInt32))), (.int (nar .byte (c1.toInt8.toInt32)))] (.int (0 : Int32))
set_option maxRecDepth 65536 in
set_option maxHeartbeats 40000000 in
theorem rmC2_2 (l : Launch) (Z : State) (a0 : Array Value) (hw : ∀ d ∈ tables_1, d.before a0 Z = true) (ws : List Jvm.Cond) (a1 a2 : Addr) (k1 k2 : ClassId) (c0 c1 : Int32) (h0 : Heap) (n0 : Nat) (O : Old Z n0 h0) (V_a1 : Arv Z h0 a1 k1 .char (2 : Int32) [(.int c0), (.int c1)] (.int (0 : Int32))) (V_a2 : Arv Z h0 a2 k2 .byte (2 : Int32) [(.int (0 : Int32)), (.int (0 : Int32))] (.int (0 : Int32))) (g_a2 : n0 ≤ a2) (ne_a1_a2 : a1 ≠ a2) (hb0 : ¬ ((255 : Int32) < c0)) (hb1 : ¬ ((255 : Int32) < c1)) :
    MetFree l (⟨"java/lang/StringUTF16", "compress", "([CI[BII)I"⟩ : MethodName) (head1 (Jvm.Cond.code (⟨"java/lang/StringUTF16", "compress", "([CI[BII)I"⟩ : MethodName) jdk_52_method_21_code 7 (some .int) :: ws) ({ frames := 0, cells := 0, slots := 0, locals := 0 } : Room)) (fun a U => a = #[(.ref a1), (.int (0 : Int32)), (.ref a2), (.int (0 : Int32)), (.int (2 : Int32))] ∧ Z.Warmed39 U.vm ∧ U.heap = h0) (fun _ _ _ _ _ => True) (fun _ U o U' => ∃ v L, o = .returned v ∧ (Q_rmC2_2 Z a1 a2 k1 k2 c0 c1 h0 n0) v U'.heap L ∧ FrameEnd U o U' L ({ frames := 0, cells := 0, slots := 0, locals := 0 } : Room).cells ({ frames := 0, cells := 0, slots := 0, locals := 0 } : Room).slots) := by
  refine MetFree.of_bodySF (plainFor_of_name pn_0) hisR ?_
  intro p e s m args below meth c s₁ Bd hml0 hP hK
  obtain ⟨rfl, hZ, hh⟩ := hP
  have hx := Bd.exec
  have hby := Bd.bytes
  have hml : c.maxLocals = 7 := hml0
  have hown : s.vm.findClass "java/lang/StringUTF16" = some m.cls := findClass_of_methodNamed Bd.named
  have hnm := (name_of_methodNamed Bd.named Bd.method).1
  have hlk := BodyLoose.notSynchronized Bd
  have X0 : Stand p l e ({ frames := 0, cells := 0, slots := 0, locals := 0 } : Room) s m #[(.ref a1), (.int (0 : Int32)), (.ref a2), (.int (0 : Int32)), (.int (2 : Int32))] below meth c s₁ [] 0 0 := Stand.of_body Bd
  have e0 : s₁.heap = h0 := by rw [← hh, Bd.state]; rfl
  have N := Fr.nil n0
  have K := Keep.refl h0 [a2]
  obtain ⟨G, hG⟩ : ∃ G : State → JFrame → Prop, G = OwnG p e below s ({ frames := 0, cells := 0, slots := 0, locals := 0 } : Room).cells ({ frames := 0, cells := 0, slots := 0, locals := 0 } : Room).slots (Q_rmC2_2 Z a1 a2 k1 k2 c0 c1 h0 n0) := ⟨_, rfl⟩
  have gb : ∀ {T T' : State} {g g' : JFrame}, (∀ t, Steps p.tables e below (T'.setTop g') t → Steps p.tables e below (T.setTop g) t) → G T' g' → G T g := by subst hG; exact fun k h => own_by k h
  have go : ∀ {T : State} {locs : List Loc} {cells slots : Nat} {g : JFrame} {v : Option Value}, Stand p l e ({ frames := 0, cells := 0, slots := 0, locals := 0 } : Room) s m #[(.ref a1), (.int (0 : Int32)), (.ref a2), (.int (0 : Int32)), (.int (2 : Int32))] below meth c T locs cells slots → (meth.sig.returnType = none → v = none) → (∀ fs, (∀ (f : JFrame) (acts : List Action), f.method = m → f.locked = none → f.entered = [] → (doReturn e (T.setTop f) acts v).1 = T.setFrames fs) → Steps p.tables e below (T.setTop g) (T.setFrames fs)) → (Q_rmC2_2 Z a1 a2 k1 k2 c0 c1 h0 n0) v T.heap locs → cells ≤ ({ frames := 0, cells := 0, slots := 0, locals := 0 } : Room).cells → slots ≤ ({ frames := 0, cells := 0, slots := 0, locals := 0 } : Room).slots → G T g := by subst hG; exact fun X h1 h2 h3 h4 h5 => own_out X hlk h1 h2 h3 h4 h5
  show OwnG p e below s ({ frames := 0, cells := 0, slots := 0, locals := 0 } : Room).cells ({ frames := 0, cells := 0, slots := 0, locals := 0 } : Room).slots (Q_rmC2_2 Z a1 a2 k1 k2 c0 c1 h0 n0) s₁ (entryFrame m #[(.ref a1), (.int (0 : Int32)), (.ref a2), (.int (0 : Int32)), (.int (2 : Int32))] 7)
  rw [← hG, ef_rmC2_2 m a1 (0 : Int32) a2 (0 : Int32) (2 : Int32)]
  clear hG
  show G s₁ (mkF m 0 #[.val (.ref a1), .val (.int (0 : Int32)), .val (.ref a2), .val (.int (0 : Int32)), .val (.int (2 : Int32)), .unset, .unset] [])
  refine gb (fun _ k => XS.iconst X0.here hx rfl (hb hby d6_0) (XS.istore X0.here hx rfl (hb hby d6_1) rfl (l' := #[rv a1, iv 0, rv a2, iv 0, iv 2, iv 0, .unset]) rfl (XS.iload X0.here hx rfl (hb hby d6_3) rfl (XS.iload X0.here hx rfl (hb hby d6_5) rfl (XS.icmpNo X0.here hx rfl (hb hby d6_7) rfl (tlt (by decide : (0 : Int32) < (2 : Int32))).2.1 (XS.aloadN X0.here hx rfl (hb hby d6_10) rfl rfl k)))))) ?_
  show G s₁ (mkF m 11 #[rv a1, iv 0, rv a2, iv 0, iv 2, iv 0, .unset] [.ref a1])
  refine gb (fun _ k => XS.iloadN X0.here hx rfl (hb hby d6_11) rfl k) ?_
  show G s₁ (mkF m 12 #[rv a1, iv 0, rv a2, iv 0, iv 2, iv 0, .unset] [.int 0, .ref a1])
  have V'1 := V_a1
  obtain ⟨cl1, Ar1, qk1, sz1, nn1, hs1, ft1⟩ := V'1
  have hin1 : ¬ ((0 : Int32) < 0 ∨ cl1.slots.size ≤ ((0 : Int32)).toNatClampNeg) := inb_of sz1 ⟨by decide, by decide⟩
  have hat1 : cl1.slots[((0 : Int32)).toNatClampNeg]? = some (.int c0) := hs1.at hin1 rfl
  refine gb (X0.caload hx (j := (0 : Int32)) (v := (.int c0)) (by rw [e0]; exact Ar1.1) (State.isArrayOf_alike hZ.alike Ar1.2.1) Ar1.2.2 hin1 hat1 (g := (mkF m 12 #[rv a1, iv 0, rv a2, iv 0, iv 2, iv 0, .unset] [.int 0, .ref a1])) rfl rfl (hb hby d6_12)) ?_
  show G s₁ (mkF m 13 #[rv a1, iv 0, rv a2, iv 0, iv 2, iv 0, .unset] [.int c0])
  refine gb (fun _ k => XS.istore X0.here hx rfl (hb hby d6_13) rfl (l' := #[rv a1, iv 0, rv a2, iv 0, iv 2, iv 0, iv c0]) rfl (XS.iload X0.here hx rfl (hb hby d6_15) rfl (XS.sipush X0.here hx rfl (hb hby d6_17) (XS.icmpYes X0.here hx rfl (pc0 := 20) (pc' := 26) rfl (hb hby d6_20) rfl (flt hb0).2.2.2 (by decide) (by decide) (XS.aloadN X0.here hx rfl (hb hby d6_26) rfl rfl (XS.iloadN X0.here hx rfl (hb hby d6_27) rfl k)))))) ?_
  show G s₁ (mkF m 28 #[rv a1, iv 0, rv a2, iv 0, iv 2, iv 0, iv c0] [.int 0, .ref a2])
  refine gb (fun _ k => XS.iload X0.here hx rfl (hb hby d6_28) rfl (XS.i2b X0.here hx rfl (hb hby d6_30) rfl k)) ?_
  show G s₁ (mkF m 31 #[rv a1, iv 0, rv a2, iv 0, iv 2, iv 0, iv c0] [.int (c0.toInt8.toInt32), .int 0, .ref a2])
  have V'2 := V_a2
  obtain ⟨cl2, Ar2, qk2, sz2, nn2, hs2, ft2⟩ := V'2
  have hin2 : ¬ ((0 : Int32) < 0 ∨ cl2.slots.size ≤ ((0 : Int32)).toNatClampNeg) := inb_of sz2 ⟨by decide, by decide⟩
  obtain ⟨T3, h3, X3, e3, W3, st3⟩ := stB X0 hx hZ e0 Ar2 (j := (0 : Int32)) hin2 (g := (mkF m 31 #[rv a1, iv 0, rv a2, iv 0, iv 2, iv 0, iv c0] [.int (c0.toInt8.toInt32), .int 0, .ref a2])) rfl rfl (hb hby d6_31)
  have V_a2 : Arv Z h3 a2 k2 .byte (2 : Int32) [(.int (nar .byte (c0.toInt8.toInt32))), (.int (0 : Int32))] (.int (0 : Int32)) := Arv.set Ar2 qk2 sz2 nn2 hs2 ft2 (fits_nar_byte _) W3 0 rfl (Nat.le_of_ble_eq_true rfl)
  have V_a1 := V_a1.other W3 ne_a1_a2
  have O := O.wr W3 g_a2
  have K := K.wr W3 (Or.inl (List.mem_of_getElem? (i := 0) rfl))
  have N := Fr.snoc X3 N g_a2
  refine gb st3 ?_
  show G T3 (mkF m 32 #[rv a1, iv 0, rv a2, iv 0, iv 2, iv 0, iv c0] [])
  refine gb (fun _ k => XS.iinc X3.here hx rfl (hb hby d6_32) rfl (l' := #[rv a1, iv 1, rv a2, iv 0, iv 2, iv 0, iv c0]) rfl (XS.iinc X3.here hx rfl (hb hby d6_35) rfl (l' := #[rv a1, iv 1, rv a2, iv 1, iv 2, iv 0, iv c0]) rfl (XS.iinc X3.here hx rfl (hb hby d6_38) rfl (l' := #[rv a1, iv 1, rv a2, iv 1, iv 2, iv 1, iv c0]) rfl (XS.goto X3.here hx rfl (pc0 := 41) (pc' := 3) rfl (hb hby d6_41) (by decide) (by decide) (XS.iload X3.here hx rfl (hb hby d6_3) rfl (XS.iload X3.here hx rfl (hb hby d6_5) rfl k)))))) ?_
  show G T3 (mkF m 7 #[rv a1, iv 1, rv a2, iv 1, iv 2, iv 1, iv c0] [.int 2, .int 1])
  refine gb (fun _ k => XS.icmpNo X3.here hx rfl (hb hby d6_7) rfl (tlt (by decide : (1 : Int32) < (2 : Int32))).2.1 (XS.aloadN X3.here hx rfl (hb hby d6_10) rfl rfl (XS.iloadN X3.here hx rfl (hb hby d6_11) rfl k))) ?_
  show G T3 (mkF m 12 #[rv a1, iv 1, rv a2, iv 1, iv 2, iv 1, iv c0] [.int 1, .ref a1])
  have V'4 := V_a1
  obtain ⟨cl4, Ar4, qk4, sz4, nn4, hs4, ft4⟩ := V'4
  have hin4 : ¬ ((1 : Int32) < 0 ∨ cl4.slots.size ≤ ((1 : Int32)).toNatClampNeg) := inb_of sz4 ⟨by decide, by decide⟩
  have hat4 : cl4.slots[((1 : Int32)).toNatClampNeg]? = some (.int c1) := hs4.at hin4 rfl
  refine gb (X3.caload hx (j := (1 : Int32)) (v := (.int c1)) (by rw [e3]; exact Ar4.1) (State.isArrayOf_alike hZ.alike Ar4.2.1) Ar4.2.2 hin4 hat4 (g := (mkF m 12 #[rv a1, iv 1, rv a2, iv 1, iv 2, iv 1, iv c0] [.int 1, .ref a1])) rfl rfl (hb hby d6_12)) ?_
  show G T3 (mkF m 13 #[rv a1, iv 1, rv a2, iv 1, iv 2, iv 1, iv c0] [.int c1])
  refine gb (fun _ k => XS.istore X3.here hx rfl (hb hby d6_13) rfl (l' := #[rv a1, iv 1, rv a2, iv 1, iv 2, iv 1, iv c1]) rfl (XS.iload X3.here hx rfl (hb hby d6_15) rfl (XS.sipush X3.here hx rfl (hb hby d6_17) (XS.icmpYes X3.here hx rfl (pc0 := 20) (pc' := 26) rfl (hb hby d6_20) rfl (flt hb1).2.2.2 (by decide) (by decide) (XS.aloadN X3.here hx rfl (hb hby d6_26) rfl rfl (XS.iloadN X3.here hx rfl (hb hby d6_27) rfl k)))))) ?_
  show G T3 (mkF m 28 #[rv a1, iv 1, rv a2, iv 1, iv 2, iv 1, iv c1] [.int 1, .ref a2])
  refine gb (fun _ k => XS.iload X3.here hx rfl (hb hby d6_28) rfl (XS.i2b X3.here hx rfl (hb hby d6_30) rfl k)) ?_
  show G T3 (mkF m 31 #[rv a1, iv 1, rv a2, iv 1, iv 2, iv 1, iv c1] [.int (c1.toInt8.toInt32), .int 1, .ref a2])
  have V'5 := V_a2
  obtain ⟨cl5, Ar5, qk5, sz5, nn5, hs5, ft5⟩ := V'5
  have hin5 : ¬ ((1 : Int32) < 0 ∨ cl5.slots.size ≤ ((1 : Int32)).toNatClampNeg) := inb_of sz5 ⟨by decide, by decide⟩
  obtain ⟨T6, h6, X6, e6, W6, st6⟩ := stB X3 hx hZ e3 Ar5 (j := (1 : Int32)) hin5 (g := (mkF m 31 #[rv a1, iv 1, rv a2, iv 1, iv 2, iv 1, iv c1] [.int (c1.toInt8.toInt32), .int 1, .ref a2])) rfl rfl (hb hby d6_31)
  have V_a2 : Arv Z h6 a2 k2 .byte (2 : Int32) [(.int (nar .byte (c0.toInt8.toInt32))), (.int (nar .byte (c1.toInt8.toInt32)))] (.int (0 : Int32)) := Arv.set Ar5 qk5 sz5 nn5 hs5 ft5 (fits_nar_byte _) W6 1 rfl (Nat.le_of_ble_eq_true rfl)
  have V_a1 := V_a1.other W6 ne_a1_a2
  have O := O.wr W6 g_a2
  have K := K.wr W6 (Or.inl (List.mem_of_getElem? (i := 0) rfl))
  have N := Fr.snoc X6 N g_a2
  refine gb st6 ?_
  show G T6 (mkF m 32 #[rv a1, iv 1, rv a2, iv 1, iv 2, iv 1, iv c1] [])
  refine gb (fun _ k => XS.iinc X6.here hx rfl (hb hby d6_32) rfl (l' := #[rv a1, iv 2, rv a2, iv 1, iv 2, iv 1, iv c1]) rfl (XS.iinc X6.here hx rfl (hb hby d6_35) rfl (l' := #[rv a1, iv 2, rv a2, iv 2, iv 2, iv 1, iv c1]) rfl (XS.iinc X6.here hx rfl (hb hby d6_38) rfl (l' := #[rv a1, iv 2, rv a2, iv 2, iv 2, iv 2, iv c1]) rfl (XS.goto X6.here hx rfl (pc0 := 41) (pc' := 3) rfl (hb hby d6_41) (by decide) (by decide) (XS.iload X6.here hx rfl (hb hby d6_3) rfl (XS.iload X6.here hx rfl (hb hby d6_5) rfl k)))))) ?_
  show G T6 (mkF m 7 #[rv a1, iv 2, rv a2, iv 2, iv 2, iv 2, iv c1] [.int 2, .int 2])
  refine gb (fun _ k => XS.icmpYes X6.here hx rfl (pc0 := 7) (pc' := 44) rfl (hb hby d6_7) rfl (flt (by decide : ¬ ((2 : Int32) < (2 : Int32)))).2.1 (by decide) (by decide) (XS.iload X6.here hx rfl (hb hby d6_44) rfl k)) ?_
  show G T6 (mkF m 46 #[rv a1, iv 2, rv a2, iv 2, iv 2, iv 2, iv c1] [.int 2])
  exact go X6 (v := (some (.int (2 : Int32)))) (fun h => by rw [Bd.returns] at h; cases h) (fun fs hr => retOut X6 hx Bd.returns rfl (Or.inl ⟨rfl, by simp, _, rfl⟩) (hb hby d6_46) hr) (by rw [e6]; exact ⟨rfl, N, K, V_a2⟩) (by decide) (by decide)
def Q_rmC1_2 (Z : State) (a1 : Addr) (k1 : ClassId) (c0 c1 : Int32) (h0 : Heap) (n0 : Nat) : Option Value → Heap → List Loc → Prop := fun v h L => ∃ (b : Addr) (kb : ClassId), v = some (.ref b) ∧ Fr n0 L ∧ Keep h0 h [] ∧ n0 ≤ b ∧ h0.size ≤ b ∧ Arv Z h b kb .byte (2 : Int32) [(.int (nar .byte (c0.toInt8.toInt32))), (.int (nar .byte (c1.toInt8.toInt32)))] (.int (0 : Int32))
set_option maxRecDepth 65536 in
set_option maxHeartbeats 40000000 in
theorem rmC1_2 (l : Launch) (Z : State) (a0 : Array Value) (hw : ∀ d ∈ tables_1, d.before a0 Z = true) (ws : List Jvm.Cond) (a1 : Addr) (k1 : ClassId) (c0 c1 : Int32) (h0 : Heap) (n0 : Nat) (O : Old Z n0 h0) (V_a1 : Arv Z h0 a1 k1 .char (2 : Int32) [(.int c0), (.int c1)] (.int (0 : Int32))) (hb0 : ¬ ((255 : Int32) < c0)) (hb1 : ¬ ((255 : Int32) < c1)) :
    MetFree l (⟨"java/lang/StringUTF16", "compress", "([CII)[B"⟩ : MethodName) (head1 (Jvm.Cond.code (⟨"java/lang/StringUTF16", "compress", "([CII)[B"⟩ : MethodName) jdk_52_method_16_code 6 (some (.array .byte)) :: ws) ({ frames := 1, cells := 1, slots := 2, locals := 18 } : Room)) (fun a U => a = #[(.ref a1), (.int (0 : Int32)), (.int (2 : Int32))] ∧ Z.Warmed39 U.vm ∧ U.heap = h0) (fun _ _ _ _ _ => True) (fun _ U o U' => ∃ v L, o = .returned v ∧ (Q_rmC1_2 Z a1 k1 c0 c1 h0 n0) v U'.heap L ∧ FrameEnd U o U' L ({ frames := 1, cells := 1, slots := 2, locals := 18 } : Room).cells ({ frames := 1, cells := 1, slots := 2, locals := 18 } : Room).slots) := by
  refine MetFree.of_bodySF (plainFor_of_name pn_0) hisR ?_
  intro p e s m args below meth c s₁ Bd hml0 hP hK
  obtain ⟨rfl, hZ, hh⟩ := hP
  have hx := Bd.exec
  have hby := Bd.bytes
  have hml : c.maxLocals = 6 := hml0
  have hown : s.vm.findClass "java/lang/StringUTF16" = some m.cls := findClass_of_methodNamed Bd.named
  have hnm := (name_of_methodNamed Bd.named Bd.method).1
  have hlk := BodyLoose.notSynchronized Bd
  have X0 : Stand p l e ({ frames := 1, cells := 1, slots := 2, locals := 18 } : Room) s m #[(.ref a1), (.int (0 : Int32)), (.int (2 : Int32))] below meth c s₁ [] 0 0 := Stand.of_body Bd
  have e0 : s₁.heap = h0 := by rw [← hh, Bd.state]; rfl
  have N := Fr.nil n0
  have K := Keep.refl h0 []
  obtain ⟨G, hG⟩ : ∃ G : State → JFrame → Prop, G = OwnG p e below s ({ frames := 1, cells := 1, slots := 2, locals := 18 } : Room).cells ({ frames := 1, cells := 1, slots := 2, locals := 18 } : Room).slots (Q_rmC1_2 Z a1 k1 c0 c1 h0 n0) := ⟨_, rfl⟩
  have gb : ∀ {T T' : State} {g g' : JFrame}, (∀ t, Steps p.tables e below (T'.setTop g') t → Steps p.tables e below (T.setTop g) t) → G T' g' → G T g := by subst hG; exact fun k h => own_by k h
  have go : ∀ {T : State} {locs : List Loc} {cells slots : Nat} {g : JFrame} {v : Option Value}, Stand p l e ({ frames := 1, cells := 1, slots := 2, locals := 18 } : Room) s m #[(.ref a1), (.int (0 : Int32)), (.int (2 : Int32))] below meth c T locs cells slots → (meth.sig.returnType = none → v = none) → (∀ fs, (∀ (f : JFrame) (acts : List Action), f.method = m → f.locked = none → f.entered = [] → (doReturn e (T.setTop f) acts v).1 = T.setFrames fs) → Steps p.tables e below (T.setTop g) (T.setFrames fs)) → (Q_rmC1_2 Z a1 k1 c0 c1 h0 n0) v T.heap locs → cells ≤ ({ frames := 1, cells := 1, slots := 2, locals := 18 } : Room).cells → slots ≤ ({ frames := 1, cells := 1, slots := 2, locals := 18 } : Room).slots → G T g := by subst hG; exact fun X h1 h2 h3 h4 h5 => own_out X hlk h1 h2 h3 h4 h5
  show OwnG p e below s ({ frames := 1, cells := 1, slots := 2, locals := 18 } : Room).cells ({ frames := 1, cells := 1, slots := 2, locals := 18 } : Room).slots (Q_rmC1_2 Z a1 k1 c0 c1 h0 n0) s₁ (entryFrame m #[(.ref a1), (.int (0 : Int32)), (.int (2 : Int32))] 6)
  rw [← hG, ef_rmC1_2 m a1 (0 : Int32) (2 : Int32)]
  clear hG
  show G s₁ (mkF m 0 #[.val (.ref a1), .val (.int (0 : Int32)), .val (.int (2 : Int32)), .unset, .unset, .unset] [])
  refine gb (fun _ k => XS.iloadN X0.here hx rfl (hb hby d5_0) rfl k) ?_
  show G s₁ (mkF m 1 #[rv a1, iv 0, iv 2, .unset, .unset, .unset] [.int 2])
  obtain ⟨T1, h1, kA1, X1, e1, E1, A1, st1⟩ := newP X0 hx hZ (ow hw 22 rfl) e0 (g := (mkF m 1 #[rv a1, iv 0, iv 2, .unset, .unset, .unset] [.int 2])) rfl (hb hby d5_1) rfl (by decide) (cap := 2) (by decide) (by decide) (by decide) (by decide)
  obtain ⟨b1, g1⟩ : ∃ z, z = h0.size := ⟨_, rfl⟩
  rw [← g1] at A1 st1
  have g_b1 : n0 ≤ b1 := Nat.le_trans (by have := O.2.1; rw [O.1] at this; exact this) (Nat.le_of_eq g1.symm)
  have sz_b1 : h0.size ≤ b1 := Nat.le_trans K.1 (Nat.le_of_eq g1.symm)
  have ne_a1_b1 : a1 ≠ b1 := Nat.ne_of_lt (Nat.lt_of_lt_of_le V_a1.lt (Nat.le_of_eq g1.symm))
  have V_a1 := V_a1.ext E1
  have O := O.ext E1
  have K := K.ext E1
  have V_b1 : Arv Z h1 b1 kA1 .byte (2 : Int32) [(.int (0 : Int32)), (.int (0 : Int32))] (.int (0 : Int32)) := (Arv.new A1 (by decide)).pad (pad_rep [] (.int (0 : Int32)) 2)
  refine gb st1 ?_
  show G T1 (mkF m 3 #[rv a1, iv 0, iv 2, .unset, .unset, .unset] [.ref b1])
  refine gb (fun _ k => XS.astoreN X1.here hx rfl (hb hby d5_3) rfl rfl (l' := #[rv a1, iv 0, iv 2, rv b1, .unset, .unset]) rfl (XS.aloadN X1.here hx rfl (hb hby d5_4) rfl rfl (XS.iloadN X1.here hx rfl (hb hby d5_5) rfl (XS.aloadN X1.here hx rfl (hb hby d5_6) rfl rfl (XS.iconst X1.here hx rfl (hb hby d5_7) (XS.iloadN X1.here hx rfl (hb hby d5_8) rfl k)))))) ?_
  show G T1 (mkF m 9 #[rv a1, iv 0, iv 2, rv b1, .unset, .unset] [.int 2, .int 0, .ref b1, .int 0, .ref a1])
  obtain ⟨_, _, ⟨T2, Lz2, kz2, nz2⟩, -, X2, ⟨Lc2, hQ2, lq2, yq2, zq2⟩, st2⟩ := Jvm.LawKit.callS X1 hx (y := (⟨"java/lang/StringUTF16", "compress", "([CI[BII)I"⟩ : MethodName)) hown (mvT hZ (ow hw 34 rfl)) (mvT hZ (ow hw 35 rfl)) (mvT hZ (ow hw 32 rfl)) (mvT hZ (ow hw 36 rfl)) (by decide) (backOf (W := 0) (rmC2_2 l Z a0 hw [] a1 b1 k1 kA1 c0 c1 h1 n0 O V_a1 V_b1 g_b1 ne_a1_b1 hb0 hb1) hZ (ow hw 36 rfl) (ow hw 32 rfl) (by decide) (by decide)) (g := (mkF m 9 #[rv a1, iv 0, iv 2, rv b1, .unset, .unset] [.int 2, .int 0, .ref b1, .int 0, .ref a1])) rfl (by rw [hml]; rfl) (argsL := [(.ref a1), (.int (0 : Int32)), (.ref b1), (.int (0 : Int32)), (.int (2 : Int32))]) (rest := []) (lenOf pd_0 rfl) rfl (by show 2 * 0 + _ ≤ _; exact Nat.le_of_eq rfl) (hb hby d5_9) (fun _ _ => ⟨rfl, e1, (by decide : 1 + 0 ≤ _), (by decide : 2 + 0 ≤ _)⟩)
  dsimp only [Pt.U, Pt.locs, Pt.cells, Pt.slots] at X2 lq2 yq2 zq2 st2 hQ2
  subst lq2 yq2 zq2
  obtain ⟨h2, e2⟩ : ∃ z, z = T2.heap := ⟨_, rfl⟩
  rw [← e2] at hQ2
  replace e2 := e2.symm
  obtain ⟨rfl, Nq2, Kq2, hR2⟩ := hQ2
  have N := Fr.app N Nq2
  have V_a1 := V_a1.keep Kq2 (ninS ne_a1_b1 nin0)
  have V_b1 := hR2
  have O := O.keep Kq2 (allS g_b1 all0)
  have K := K.trans Kq2 (allS (Or.inr sz_b1) all0)
  refine gb st2 ?_
  show G T2 (mkF m 12 #[rv a1, iv 0, iv 2, rv b1, .unset, .unset] [.int 2])
  refine gb (fun _ k => XS.istore X2.here hx rfl (hb hby d5_12) rfl (l' := #[rv a1, iv 0, iv 2, rv b1, iv 2, .unset]) rfl (XS.iload X2.here hx rfl (hb hby d5_14) rfl (XS.iloadN X2.here hx rfl (hb hby d5_16) rfl (XS.icmpYes X2.here hx rfl (pc0 := 17) (pc' := 57) rfl (hb hby d5_17) rfl (teq (by decide : (2 : Int32) = (2 : Int32))).1 (by decide) (by decide) (XS.aloadN X2.here hx rfl (hb hby d5_57) rfl rfl k))))) ?_
  show G T2 (mkF m 58 #[rv a1, iv 0, iv 2, rv b1, iv 2, .unset] [.ref b1])
  exact go X2 (v := (some (.ref b1))) (fun h => by rw [Bd.returns] at h; cases h) (fun fs hr => retOut X2 hx Bd.returns rfl (Or.inr (Or.inr (Or.inr (Or.inr ⟨rfl, rfl, rfl⟩)))) (hb hby d5_58) hr) (by rw [e2]; exact ⟨_, _, rfl, N, K, g_b1, sz_b1, V_b1⟩) (by decide) (by decide)
def Q_rmCo_2 (Z : State) (a1 : Addr) (k1 : ClassId) (vs1 : List Value) (h0 : Heap) (n0 : Nat) : Option Value → Heap → List Loc → Prop := fun v h L => v = some (.int (0 : Int32)) ∧ L = [] ∧ h = h0
set_option maxRecDepth 65536 in
set_option maxHeartbeats 40000000 in
theorem rmCo_2 (l : Launch) (Z : State) (a0 : Array Value) (hw : ∀ d ∈ tables_1, d.before a0 Z = true) (ws : List Jvm.Cond) (a1 : Addr) (k1 : ClassId) (vs1 : List Value) (h0 : Heap) (n0 : Nat) (O : Old Z n0 h0) (V_a1 : Arv Z h0 a1 k1 .byte (2 : Int32) vs1 (.int (0 : Int32))) :
    MetFree l (⟨"java/lang/StringUTF16", "coderFromArrayLen", "([BI)B"⟩ : MethodName) (head1 (Jvm.Cond.code (⟨"java/lang/StringUTF16", "coderFromArrayLen", "([BI)B"⟩ : MethodName) jdk_52_method_15_code 2 (some .byte) :: ws) ({ frames := 0, cells := 0, slots := 0, locals := 0 } : Room)) (fun a U => a = #[(.ref a1), (.int (2 : Int32))] ∧ Z.Warmed39 U.vm ∧ U.heap = h0) (fun _ _ _ _ _ => True) (fun _ U o U' => ∃ v L, o = .returned v ∧ (Q_rmCo_2 Z a1 k1 vs1 h0 n0) v U'.heap L ∧ FrameEnd U o U' L ({ frames := 0, cells := 0, slots := 0, locals := 0 } : Room).cells ({ frames := 0, cells := 0, slots := 0, locals := 0 } : Room).slots) := by
  refine MetFree.of_bodySF (plainFor_of_name pn_0) hisR ?_
  intro p e s m args below meth c s₁ Bd hml0 hP hK
  obtain ⟨rfl, hZ, hh⟩ := hP
  have hx := Bd.exec
  have hby := Bd.bytes
  have hml : c.maxLocals = 2 := hml0
  have hown : s.vm.findClass "java/lang/StringUTF16" = some m.cls := findClass_of_methodNamed Bd.named
  have hnm := (name_of_methodNamed Bd.named Bd.method).1
  have hlk := BodyLoose.notSynchronized Bd
  have X0 : Stand p l e ({ frames := 0, cells := 0, slots := 0, locals := 0 } : Room) s m #[(.ref a1), (.int (2 : Int32))] below meth c s₁ [] 0 0 := Stand.of_body Bd
  have e0 : s₁.heap = h0 := by rw [← hh, Bd.state]; rfl
  have N := Fr.nil n0
  obtain ⟨G, hG⟩ : ∃ G : State → JFrame → Prop, G = OwnG p e below s ({ frames := 0, cells := 0, slots := 0, locals := 0 } : Room).cells ({ frames := 0, cells := 0, slots := 0, locals := 0 } : Room).slots (Q_rmCo_2 Z a1 k1 vs1 h0 n0) := ⟨_, rfl⟩
  have gb : ∀ {T T' : State} {g g' : JFrame}, (∀ t, Steps p.tables e below (T'.setTop g') t → Steps p.tables e below (T.setTop g) t) → G T' g' → G T g := by subst hG; exact fun k h => own_by k h
  have go : ∀ {T : State} {locs : List Loc} {cells slots : Nat} {g : JFrame} {v : Option Value}, Stand p l e ({ frames := 0, cells := 0, slots := 0, locals := 0 } : Room) s m #[(.ref a1), (.int (2 : Int32))] below meth c T locs cells slots → (meth.sig.returnType = none → v = none) → (∀ fs, (∀ (f : JFrame) (acts : List Action), f.method = m → f.locked = none → f.entered = [] → (doReturn e (T.setTop f) acts v).1 = T.setFrames fs) → Steps p.tables e below (T.setTop g) (T.setFrames fs)) → (Q_rmCo_2 Z a1 k1 vs1 h0 n0) v T.heap locs → cells ≤ ({ frames := 0, cells := 0, slots := 0, locals := 0 } : Room).cells → slots ≤ ({ frames := 0, cells := 0, slots := 0, locals := 0 } : Room).slots → G T g := by subst hG; exact fun X h1 h2 h3 h4 h5 => own_out X hlk h1 h2 h3 h4 h5
  show OwnG p e below s ({ frames := 0, cells := 0, slots := 0, locals := 0 } : Room).cells ({ frames := 0, cells := 0, slots := 0, locals := 0 } : Room).slots (Q_rmCo_2 Z a1 k1 vs1 h0 n0) s₁ (entryFrame m #[(.ref a1), (.int (2 : Int32))] 2)
  rw [← hG, ef_rmCo_2 m a1 (2 : Int32)]
  clear hG
  show G s₁ (mkF m 0 #[.val (.ref a1), .val (.int (2 : Int32))] [])
  refine gb (fun _ k => XS.iloadN X0.here hx rfl (hb hby d7_0) rfl (XS.aloadN X0.here hx rfl (hb hby d7_1) rfl rfl k)) ?_
  show G s₁ (mkF m 2 #[rv a1, iv 2] [.ref a1, .int 2])
  have V'1 := V_a1
  obtain ⟨cl1, Ar1, qk1, sz1, nn1, hs1, ft1⟩ := V'1
  refine gb (X0.arraylength hx (by rw [e0]; exact Ar1.1) (State.isArrayOf_alike hZ.alike Ar1.2.1) (g := (mkF m 2 #[rv a1, iv 2] [.ref a1, .int 2])) rfl rfl (hb hby d7_2)) ?_
  rw [len_of sz1 nn1]
  show G s₁ (mkF m 3 #[rv a1, iv 2] [.int 2, .int 2])
  refine gb (fun _ k => XS.isub X0.here hx rfl (hb hby d7_3) rfl (XS.bipush X0.here hx rfl (hb hby d7_4) (XS.iushr X0.here hx rfl (hb hby d7_6) rfl (XS.i2b X0.here hx rfl (hb hby d7_7) rfl k)))) ?_
  show G s₁ (mkF m 8 #[rv a1, iv 2] [.int 0])
  exact go X0 (v := (some (.int (0 : Int32)))) (fun h => by rw [Bd.returns] at h; cases h) (fun fs hr => retOut X0 hx Bd.returns rfl (Or.inl ⟨rfl, by simp, _, rfl⟩) (hb hby d7_8) hr) (⟨rfl, rfl, e0⟩) (by decide) (by decide)
def Q_rmS4_2 (Z : State) (a1 a2 : Addr) (k2 : ClassId) (c0 c1 : Int32) (h0 : Heap) (n0 : Nat) (zc : Int32) : Option Value → Heap → List Loc → Prop := fun v h L => ∃ (b : Addr) (kb : ClassId), v = none ∧ Fr n0 L ∧ Keep h0 h [a1] ∧ Exa Z h a1 "java/lang/String" ∧ Fld Z h a1 "java/lang/String" "coder" "B" (.int (0 : Int32)) ∧ Fld Z h a1 "java/lang/String" "value" "[B" (.ref b) ∧ n0 ≤ b ∧ h0.size ≤ b ∧ Arv Z h b kb .byte (2 : Int32) [(.int (nar .byte (c0.toInt8.toInt32))), (.int (nar .byte (c1.toInt8.toInt32)))] (.int (0 : Int32))
set_option maxRecDepth 65536 in
set_option maxHeartbeats 40000000 in
theorem rmS4_2 (l : Launch) (Z : State) (a0 : Array Value) (hw : ∀ d ∈ tables_1, d.before a0 Z = true) (ws : List Jvm.Cond) (a1 a2 : Addr) (k2 : ClassId) (c0 c1 : Int32) (h0 : Heap) (n0 : Nat) (O : Old Z n0 h0) (E_a1 : Exa Z h0 a1 "java/lang/String") (F_coder_a1 : Fld Z h0 a1 "java/lang/String" "coder" "B" (.int (0 : Int32))) (F_value_a1 : Fld Z h0 a1 "java/lang/String" "value" "[B" .null) (g_a1 : n0 ≤ a1) (V_a2 : Arv Z h0 a2 k2 .char (2 : Int32) [(.int c0), (.int c1)] (.int (0 : Int32))) (ne_a2_a1 : a2 ≠ a1) (hb0 : ¬ ((255 : Int32) < c0)) (hb1 : ¬ ((255 : Int32) < c1)) (zc : Int32) (S_cs : Sta Z Z.heap "java/lang/String" "COMPACT_STRINGS" "Z" (.int zc)) (hzc : ¬ zc = (0 : Int32)) :
    MetFree l (⟨"java/lang/String", "<init>", "([CIILjava/lang/Void;)V"⟩ : MethodName) (head1 (Jvm.Cond.code (⟨"java/lang/String", "<init>", "([CIILjava/lang/Void;)V"⟩ : MethodName) jdk_42_method_149_code 6 none :: ws) ({ frames := 2, cells := 1, slots := 2, locals := 35 } : Room)) (fun a U => a = #[(.ref a1), (.ref a2), (.int (0 : Int32)), (.int (2 : Int32)), .null] ∧ Z.Warmed39 U.vm ∧ U.heap = h0) (fun _ _ _ _ _ => True) (fun _ U o U' => ∃ v L, o = .returned v ∧ (Q_rmS4_2 Z a1 a2 k2 c0 c1 h0 n0 zc) v U'.heap L ∧ FrameEnd U o U' L ({ frames := 2, cells := 1, slots := 2, locals := 35 } : Room).cells ({ frames := 2, cells := 1, slots := 2, locals := 35 } : Room).slots) := by
  refine MetFree.of_bodySF (plainFor_of_name pn_1) hisR ?_
  intro p e s m args below meth c s₁ Bd hml0 hP hK
  obtain ⟨rfl, hZ, hh⟩ := hP
  have hx := Bd.exec
  have hby := Bd.bytes
  have hml : c.maxLocals = 6 := hml0
  have hown : s.vm.findClass "java/lang/String" = some m.cls := findClass_of_methodNamed Bd.named
  have hnm := (name_of_methodNamed Bd.named Bd.method).1
  have hlk := BodyLoose.notSynchronized Bd
  have X0 : Stand p l e ({ frames := 2, cells := 1, slots := 2, locals := 35 } : Room) s m #[(.ref a1), (.ref a2), (.int (0 : Int32)), (.int (2 : Int32)), .null] below meth c s₁ [] 0 0 := Stand.of_body Bd
  have e0 : s₁.heap = h0 := by rw [← hh, Bd.state]; rfl
  have N := Fr.nil n0
  have K := Keep.refl h0 [a1]
  obtain ⟨G, hG⟩ : ∃ G : State → JFrame → Prop, G = OwnG p e below s ({ frames := 2, cells := 1, slots := 2, locals := 35 } : Room).cells ({ frames := 2, cells := 1, slots := 2, locals := 35 } : Room).slots (Q_rmS4_2 Z a1 a2 k2 c0 c1 h0 n0 zc) := ⟨_, rfl⟩
  have gb : ∀ {T T' : State} {g g' : JFrame}, (∀ t, Steps p.tables e below (T'.setTop g') t → Steps p.tables e below (T.setTop g) t) → G T' g' → G T g := by subst hG; exact fun k h => own_by k h
  have go : ∀ {T : State} {locs : List Loc} {cells slots : Nat} {g : JFrame} {v : Option Value}, Stand p l e ({ frames := 2, cells := 1, slots := 2, locals := 35 } : Room) s m #[(.ref a1), (.ref a2), (.int (0 : Int32)), (.int (2 : Int32)), .null] below meth c T locs cells slots → (meth.sig.returnType = none → v = none) → (∀ fs, (∀ (f : JFrame) (acts : List Action), f.method = m → f.locked = none → f.entered = [] → (doReturn e (T.setTop f) acts v).1 = T.setFrames fs) → Steps p.tables e below (T.setTop g) (T.setFrames fs)) → (Q_rmS4_2 Z a1 a2 k2 c0 c1 h0 n0 zc) v T.heap locs → cells ≤ ({ frames := 2, cells := 1, slots := 2, locals := 35 } : Room).cells → slots ≤ ({ frames := 2, cells := 1, slots := 2, locals := 35 } : Room).slots → G T g := by subst hG; exact fun X h1 h2 h3 h4 h5 => own_out X hlk h1 h2 h3 h4 h5
  show OwnG p e below s ({ frames := 2, cells := 1, slots := 2, locals := 35 } : Room).cells ({ frames := 2, cells := 1, slots := 2, locals := 35 } : Room).slots (Q_rmS4_2 Z a1 a2 k2 c0 c1 h0 n0 zc) s₁ (entryFrame m #[(.ref a1), (.ref a2), (.int (0 : Int32)), (.int (2 : Int32)), .null] 6)
  rw [← hG, ef_rmS4_2 m a1 a2 (0 : Int32) (2 : Int32)]
  clear hG
  show G s₁ (mkF m 0 #[.val (.ref a1), .val (.ref a2), .val (.int (0 : Int32)), .val (.int (2 : Int32)), .val .null, .unset] [])
  refine gb (fun _ k => XS.aloadN X0.here hx rfl (hb hby d3_0) rfl rfl k) ?_
  show G s₁ (mkF m 1 #[rv a1, rv a2, iv 0, iv 2, .val .null, .unset] [.ref a1])
  obtain ⟨T1, X1, e1, st1⟩ := initO X0 hx hZ hown (ow hw 18 rfl) (ow hw 19 rfl) (ow hw 20 rfl) e0 (g := (mkF m 1 #[rv a1, rv a2, iv 0, iv 2, .val .null, .unset] [.ref a1])) rfl (by rw [hml]; rfl) rfl (hb hby d3_1) (by decide) (W := 0) (by show 2 * 0 + _ ≤ _; exact Nat.le_of_eq rfl) (by decide)
  refine gb st1 ?_
  show G T1 (mkF m 4 #[rv a1, rv a2, iv 0, iv 2, .val .null, .unset] [])
  refine gb (fun _ k => XS.iloadN X1.here hx rfl (hb hby d3_4) rfl (XS.ifYes X1.here hx rfl (pc0 := 5) (pc' := 27) rfl (hb hby d3_5) rfl ((if0 _ _).trans (feq (by decide : ¬ ((2 : Int32) = (0 : Int32)))).2) (by decide) (by decide) k)) ?_
  show G T1 (mkF m 27 #[rv a1, rv a2, iv 0, iv 2, .val .null, .unset] [])
  obtain ⟨T2, X2, e2, st2⟩ := getS2 X1 hx hZ hown (host := "") (Or.inl (ow hw 29 rfl)) Via.refl e1 (S_cs.ext O.2) (g := (mkF m 27 #[rv a1, rv a2, iv 0, iv 2, .val .null, .unset] [])) rfl (hb hby d3_27)
  refine gb st2 ?_
  show G T2 (mkF m 30 #[rv a1, rv a2, iv 0, iv 2, .val .null, .unset] [.int zc])
  refine gb (fun _ k => XS.ifNo X2.here hx rfl (hb hby d3_30) rfl ((if0 _ _).trans (feq hzc).1) (XS.aloadN X2.here hx rfl (hb hby d3_33) rfl rfl (XS.iloadN X2.here hx rfl (hb hby d3_34) rfl (XS.iloadN X2.here hx rfl (hb hby d3_35) rfl k)))) ?_
  show G T2 (mkF m 36 #[rv a1, rv a2, iv 0, iv 2, .val .null, .unset] [.int 2, .int 0, .ref a2])
  have lt_a1 := E_a1.lt
  have lt_a2 := V_a2.lt
  have szK := K.1
  obtain ⟨_, _, ⟨T3, Lz3, kz3, nz3⟩, -, X3, ⟨Lc3, hQ3, lq3, yq3, zq3⟩, st3⟩ := Jvm.LawKit.callS X2 hx (y := (⟨"java/lang/StringUTF16", "compress", "([CII)[B"⟩ : MethodName)) hown (mvT hZ (ow hw 30 rfl)) (mvT hZ (ow hw 31 rfl)) (mvT hZ (ow hw 32 rfl)) (mvT hZ (ow hw 33 rfl)) (by decide) (backOf (W := 0) (rmC1_2 l Z a0 hw [] a2 k2 c0 c1 h0 n0 O V_a2 hb0 hb1) hZ (ow hw 33 rfl) (ow hw 32 rfl) (by decide) (by decide)) (g := (mkF m 36 #[rv a1, rv a2, iv 0, iv 2, .val .null, .unset] [.int 2, .int 0, .ref a2])) rfl (by rw [hml]; rfl) (argsL := [(.ref a2), (.int (0 : Int32)), (.int (2 : Int32))]) (rest := []) (lenOf pd_1 rfl) rfl (by show 2 * 0 + _ ≤ _; exact Nat.le_of_eq rfl) (hb hby d3_36) (fun _ _ => ⟨rfl, e2, (by decide : 0 + 1 ≤ _), (by decide : 0 + 2 ≤ _)⟩)
  dsimp only [Pt.U, Pt.locs, Pt.cells, Pt.slots] at X3 lq3 yq3 zq3 st3 hQ3
  subst lq3 yq3 zq3
  obtain ⟨h3, e3⟩ : ∃ z, z = T3.heap := ⟨_, rfl⟩
  rw [← e3] at hQ3
  replace e3 := e3.symm
  obtain ⟨b3, kb3, rfl, Nq3, Kq3, hR3⟩ := hQ3
  have N := Fr.app N Nq3
  have E_a1 := E_a1.keep Kq3
  have F_coder_a1 := F_coder_a1.keep Kq3 nin0
  have F_value_a1 := F_value_a1.keep Kq3 nin0
  have V_a2 := V_a2.keep Kq3 nin0
  obtain ⟨g_b3, sz_b3, V_b3⟩ := hR3
  have O := O.keep Kq3 all0
  have K := K.trans Kq3 all0
  have ne_a1_b3 : a1 ≠ b3 := Nat.ne_of_lt (Nat.lt_of_lt_of_le lt_a1 sz_b3)
  have ne_a2_b3 : a2 ≠ b3 := Nat.ne_of_lt (Nat.lt_of_lt_of_le lt_a2 sz_b3)
  have sz_b3 := Nat.le_trans szK sz_b3
  refine gb st3 ?_
  show G T3 (mkF m 39 #[rv a1, rv a2, iv 0, iv 2, .val .null, .unset] [.ref b3])
  refine gb (fun _ k => XS.astore X3.here hx rfl (hb hby d3_39) rfl rfl (l' := #[rv a1, rv a2, iv 0, iv 2, .val .null, rv b3]) rfl (XS.aloadN X3.here hx rfl (hb hby d3_41) rfl rfl (XS.aload X3.here hx rfl (hb hby d3_42) rfl rfl (XS.iloadN X3.here hx rfl (hb hby d3_44) rfl k)))) ?_
  show G T3 (mkF m 45 #[rv a1, rv a2, iv 0, iv 2, .val .null, rv b3] [.int 2, .ref b3, .ref a1])
  obtain ⟨_, _, ⟨T4, Lz4, kz4, nz4⟩, -, X4, ⟨Lc4, hQ4, lq4, yq4, zq4⟩, st4⟩ := Jvm.LawKit.callS X3 hx (y := (⟨"java/lang/StringUTF16", "coderFromArrayLen", "([BI)B"⟩ : MethodName)) hown (mvT hZ (ow hw 37 rfl)) (mvT hZ (ow hw 38 rfl)) (mvT hZ (ow hw 32 rfl)) (mvT hZ (ow hw 39 rfl)) (by decide) (backOf (W := 1) (rmCo_2 l Z a0 hw [] b3 kb3 _ h3 n0 O V_b3) hZ (ow hw 39 rfl) (ow hw 32 rfl) (by decide) (by decide)) (g := (mkF m 45 #[rv a1, rv a2, iv 0, iv 2, .val .null, rv b3] [.int 2, .ref b3, .ref a1])) rfl (by rw [hml]; rfl) (argsL := [(.ref b3), (.int (2 : Int32))]) (rest := [(.ref a1)]) (lenOf pd_2 rfl) rfl (by show 2 * 0 + _ ≤ _; exact Nat.le_of_eq rfl) (hb hby d3_45) (fun _ _ => ⟨rfl, e3, (by decide : 1 + 0 ≤ _), (by decide : 2 + 0 ≤ _)⟩)
  dsimp only [Pt.U, Pt.locs, Pt.cells, Pt.slots] at X4 lq4 yq4 zq4 st4 hQ4
  subst lq4 yq4 zq4
  obtain ⟨rfl, rfl, e4⟩ := hQ4
  try rw [List.append_nil] at X4
  refine gb st4 ?_
  show G T4 (mkF m 48 #[rv a1, rv a2, iv 0, iv 2, .val .null, rv b3] [.int 0, .ref a1])
  obtain ⟨T5, h5, X5, e5, W5, st5⟩ := putFN X4 hx hZ hown (ow hw 28 rfl) Via.refl e4 F_coder_a1 E_a1 (Or.inr ⟨(ow hw 24 rfl), rfl, hnm⟩) (ow hw 8 rfl) (ty := .byte) (v' := (.int (0 : Int32))) (by decide) rfl (by decide) (g := (mkF m 48 #[rv a1, rv a2, iv 0, iv 2, .val .null, rv b3] [.int 0, .ref a1])) rfl rfl (hb hby d3_48)
  refine gb st5 ?_
  have F_coder_a1 := F_coder_a1.same W5
  have E_a1 := E_a1.wr W5
  have F_value_a1 := F_value_a1.other W5 (Or.inr (slot_ne (Or.inr (ow hw 23 rfl)) (Or.inr (ow hw 24 rfl)) (by decide) (t := (.array .byte)) (t' := .byte) (by decide) (by decide)))
  have V_a2 := V_a2.other W5 ne_a2_a1
  have V_b3 := V_b3.other W5 (Ne.symm ne_a1_b3)
  have O := O.wr W5 g_a1
  have K := K.wr W5 (Or.inl (List.mem_of_getElem? (i := 0) rfl))
  have N := Fr.snoc X5 N g_a1
  show G T5 (mkF m 51 #[rv a1, rv a2, iv 0, iv 2, .val .null, rv b3] [])
  refine gb (fun _ k => XS.aloadN X5.here hx rfl (hb hby d3_51) rfl rfl (XS.aload X5.here hx rfl (hb hby d3_52) rfl rfl k)) ?_
  show G T5 (mkF m 54 #[rv a1, rv a2, iv 0, iv 2, .val .null, rv b3] [.ref b3, .ref a1])
  obtain ⟨T6, h6, X6, e6, W6, st6⟩ := putF X5 hx hZ hown (host := "") (Or.inl (ow hw 27 rfl)) Via.refl e5 F_value_a1 E_a1 (Or.inr ⟨(ow hw 23 rfl), rfl, hnm⟩) (ow hw 8 rfl) (ty := (.array .byte)) (by decide) rfl rfl (g := (mkF m 54 #[rv a1, rv a2, iv 0, iv 2, .val .null, rv b3] [.ref b3, .ref a1])) rfl rfl (hb hby d3_54)
  refine gb st6 ?_
  have F_value_a1 := F_value_a1.same W6
  have E_a1 := E_a1.wr W6
  have V_a2 := V_a2.other W6 ne_a2_a1
  have V_b3 := V_b3.other W6 (Ne.symm ne_a1_b3)
  have F_coder_a1 := F_coder_a1.other W6 (Or.inr (slot_ne (Or.inr (ow hw 24 rfl)) (Or.inr (ow hw 23 rfl)) (by decide) (t := .byte) (t' := (.array .byte)) (by decide) (by decide)))
  have O := O.wr W6 g_a1
  have K := K.wr W6 (Or.inl (List.mem_of_getElem? (i := 0) rfl))
  have N := Fr.snoc X6 N g_a1
  show G T6 (mkF m 57 #[rv a1, rv a2, iv 0, iv 2, .val .null, rv b3] [])
  exact go X6 (v := none) (fun _ => rfl) (fun fs hr => X6.returnOut hx Bd.returns (hb hby d3_57) hr) (by rw [e6]; exact ⟨_, _, rfl, N, K, E_a1, F_coder_a1, F_value_a1, g_b3, sz_b3, V_b3⟩) (by decide) (by decide)
def Q_rmS1_2 (Z : State) (a1 a2 : Addr) (k2 : ClassId) (c0 c1 : Int32) (h0 : Heap) (n0 : Nat) (zc : Int32) : Option Value → Heap → List Loc → Prop := fun v h L => ∃ (b : Addr) (kb : ClassId), v = none ∧ Fr n0 L ∧ Keep h0 h [a1] ∧ Exa Z h a1 "java/lang/String" ∧ Fld Z h a1 "java/lang/String" "coder" "B" (.int (0 : Int32)) ∧ Fld Z h a1 "java/lang/String" "value" "[B" (.ref b) ∧ n0 ≤ b ∧ h0.size ≤ b ∧ Arv Z h b kb .byte (2 : Int32) [(.int (nar .byte (c0.toInt8.toInt32))), (.int (nar .byte (c1.toInt8.toInt32)))] (.int (0 : Int32))
set_option maxRecDepth 65536 in
set_option maxHeartbeats 40000000 in
theorem rmS1_2 (l : Launch) (Z : State) (a0 : Array Value) (hw : ∀ d ∈ tables_1, d.before a0 Z = true) (ws : List Jvm.Cond) (a1 a2 : Addr) (k2 : ClassId) (c0 c1 : Int32) (h0 : Heap) (n0 : Nat) (O : Old Z n0 h0) (E_a1 : Exa Z h0 a1 "java/lang/String") (F_coder_a1 : Fld Z h0 a1 "java/lang/String" "coder" "B" (.int (0 : Int32))) (F_value_a1 : Fld Z h0 a1 "java/lang/String" "value" "[B" .null) (g_a1 : n0 ≤ a1) (V_a2 : Arv Z h0 a2 k2 .char (2 : Int32) [(.int c0), (.int c1)] (.int (0 : Int32))) (ne_a2_a1 : a2 ≠ a1) (hb0 : ¬ ((255 : Int32) < c0)) (hb1 : ¬ ((255 : Int32) < c1)) (zc : Int32) (S_cs : Sta Z Z.heap "java/lang/String" "COMPACT_STRINGS" "Z" (.int zc)) (hzc : ¬ zc = (0 : Int32)) :
    MetFree l (⟨"java/lang/String", "<init>", "([C)V"⟩ : MethodName) (head1 (Jvm.Cond.code (⟨"java/lang/String", "<init>", "([C)V"⟩ : MethodName) jdk_42_method_3_code 2 none :: ws) ({ frames := 3, cells := 1, slots := 2, locals := 52 } : Room)) (fun a U => a = #[(.ref a1), (.ref a2)] ∧ Z.Warmed39 U.vm ∧ U.heap = h0) (fun _ _ _ _ _ => True) (fun _ U o U' => ∃ v L, o = .returned v ∧ (Q_rmS1_2 Z a1 a2 k2 c0 c1 h0 n0 zc) v U'.heap L ∧ FrameEnd U o U' L ({ frames := 3, cells := 1, slots := 2, locals := 52 } : Room).cells ({ frames := 3, cells := 1, slots := 2, locals := 52 } : Room).slots) := by
  refine MetFree.of_bodySF (plainFor_of_name pn_1) hisR ?_
  intro p e s m args below meth c s₁ Bd hml0 hP hK
  obtain ⟨rfl, hZ, hh⟩ := hP
  have hx := Bd.exec
  have hby := Bd.bytes
  have hml : c.maxLocals = 2 := hml0
  have hown : s.vm.findClass "java/lang/String" = some m.cls := findClass_of_methodNamed Bd.named
  have hnm := (name_of_methodNamed Bd.named Bd.method).1
  have hlk := BodyLoose.notSynchronized Bd
  have X0 : Stand p l e ({ frames := 3, cells := 1, slots := 2, locals := 52 } : Room) s m #[(.ref a1), (.ref a2)] below meth c s₁ [] 0 0 := Stand.of_body Bd
  have e0 : s₁.heap = h0 := by rw [← hh, Bd.state]; rfl
  have N := Fr.nil n0
  have K := Keep.refl h0 [a1]
  obtain ⟨G, hG⟩ : ∃ G : State → JFrame → Prop, G = OwnG p e below s ({ frames := 3, cells := 1, slots := 2, locals := 52 } : Room).cells ({ frames := 3, cells := 1, slots := 2, locals := 52 } : Room).slots (Q_rmS1_2 Z a1 a2 k2 c0 c1 h0 n0 zc) := ⟨_, rfl⟩
  have gb : ∀ {T T' : State} {g g' : JFrame}, (∀ t, Steps p.tables e below (T'.setTop g') t → Steps p.tables e below (T.setTop g) t) → G T' g' → G T g := by subst hG; exact fun k h => own_by k h
  have go : ∀ {T : State} {locs : List Loc} {cells slots : Nat} {g : JFrame} {v : Option Value}, Stand p l e ({ frames := 3, cells := 1, slots := 2, locals := 52 } : Room) s m #[(.ref a1), (.ref a2)] below meth c T locs cells slots → (meth.sig.returnType = none → v = none) → (∀ fs, (∀ (f : JFrame) (acts : List Action), f.method = m → f.locked = none → f.entered = [] → (doReturn e (T.setTop f) acts v).1 = T.setFrames fs) → Steps p.tables e below (T.setTop g) (T.setFrames fs)) → (Q_rmS1_2 Z a1 a2 k2 c0 c1 h0 n0 zc) v T.heap locs → cells ≤ ({ frames := 3, cells := 1, slots := 2, locals := 52 } : Room).cells → slots ≤ ({ frames := 3, cells := 1, slots := 2, locals := 52 } : Room).slots → G T g := by subst hG; exact fun X h1 h2 h3 h4 h5 => own_out X hlk h1 h2 h3 h4 h5
  show OwnG p e below s ({ frames := 3, cells := 1, slots := 2, locals := 52 } : Room).cells ({ frames := 3, cells := 1, slots := 2, locals := 52 } : Room).slots (Q_rmS1_2 Z a1 a2 k2 c0 c1 h0 n0 zc) s₁ (entryFrame m #[(.ref a1), (.ref a2)] 2)
  rw [← hG, ef_rmS1_2 m a1 a2]
  clear hG
  show G s₁ (mkF m 0 #[.val (.ref a1), .val (.ref a2)] [])
  refine gb (fun _ k => XS.aloadN X0.here hx rfl (hb hby d2_0) rfl rfl (XS.aloadN X0.here hx rfl (hb hby d2_1) rfl rfl (XS.iconst X0.here hx rfl (hb hby d2_2) (XS.aloadN X0.here hx rfl (hb hby d2_3) rfl rfl k)))) ?_
  show G s₁ (mkF m 4 #[rv a1, rv a2] [.ref a2, .int 0, .ref a2, .ref a1])
  have V'1 := V_a2
  obtain ⟨cl1, Ar1, qk1, sz1, nn1, hs1, ft1⟩ := V'1
  refine gb (X0.arraylength hx (by rw [e0]; exact Ar1.1) (State.isArrayOf_alike hZ.alike Ar1.2.1) (g := (mkF m 4 #[rv a1, rv a2] [.ref a2, .int 0, .ref a2, .ref a1])) rfl rfl (hb hby d2_4)) ?_
  rw [len_of sz1 nn1]
  show G s₁ (mkF m 5 #[rv a1, rv a2] [.int 2, .int 0, .ref a2, .ref a1])
  refine gb (fun _ k => XS.aconstNull X0.here hx rfl (hb hby d2_5) k) ?_
  show G s₁ (mkF m 6 #[rv a1, rv a2] [.null, .int 2, .int 0, .ref a2, .ref a1])
  obtain ⟨_, _, ⟨T2, Lz2, kz2, nz2⟩, -, X2, ⟨Lc2, hQ2, lq2, yq2, zq2⟩, st2⟩ := X0.specialBack hx (y := (⟨"java/lang/String", "<init>", "([CIILjava/lang/Void;)V"⟩ : MethodName)) rfl hown (mvT hZ (ow hw 14 rfl)) (mvT hZ (ow hw 15 rfl)) (mvT hZ (ow hw 17 rfl)) (by decide) (backOf (W := 0) (rmS4_2 l Z a0 hw [] a1 a2 k2 c0 c1 h0 n0 O E_a1 F_coder_a1 F_value_a1 g_a1 V_a2 ne_a2_a1 hb0 hb1 zc S_cs hzc) hZ (ow hw 17 rfl) (ow hw 9 rfl) (by decide) (by decide)) (g := (mkF m 6 #[rv a1, rv a2] [.null, .int 2, .int 0, .ref a2, .ref a1])) rfl (by rw [hml]; rfl) (Steps.refl _) (a := a1) (argsL := [(.ref a2), (.int (0 : Int32)), (.int (2 : Int32)), .null]) (rest := []) (lenOf pd_3 rfl) rfl (by show 2 * 0 + _ ≤ _; exact Nat.le_of_eq rfl) (hb hby d2_6) (fun _ _ => ⟨rfl, e0, (by decide : 0 + 1 ≤ _), (by decide : 0 + 2 ≤ _)⟩)
  dsimp only [Pt.U, Pt.locs, Pt.cells, Pt.slots] at X2 lq2 yq2 zq2 st2 hQ2
  subst lq2 yq2 zq2
  obtain ⟨h2, e2⟩ : ∃ z, z = T2.heap := ⟨_, rfl⟩
  rw [← e2] at hQ2
  replace e2 := e2.symm
  obtain ⟨b2, kb2, rfl, Nq2, Kq2, hR2⟩ := hQ2
  have N := Fr.app N Nq2
  have E_a1 := E_a1.keep Kq2
  have V_a2 := V_a2.keep Kq2 (ninS ne_a2_a1 nin0)
  obtain ⟨E_a1, Fc2, Fv2, gb2, sb2, Vb2⟩ := hR2
  have O := O.keep Kq2 (allS g_a1 all0)
  have K := K.trans Kq2 (allS (Or.inl (List.mem_of_getElem? (i := 0) rfl)) all0)
  refine gb (fun _ k => st2.trans k) ?_
  show G T2 (mkF m 9 #[rv a1, rv a2] [])
  exact go X2 (v := none) (fun _ => rfl) (fun fs hr => X2.returnOut hx Bd.returns (hb hby d2_9) hr) (by rw [e2]; exact ⟨_, _, rfl, N, K, E_a1, Fc2, Fv2, gb2, sb2, Vb2⟩) (by decide) (by decide)
def Q_rmS4_0 (Z : State) (a1 a2 : Addr) (k2 : ClassId) (h0 : Heap) (n0 : Nat) : Option Value → Heap → List Loc → Prop := fun v h L => ∃ (b : Addr) (kb : ClassId), v = none ∧ Fr n0 L ∧ Keep h0 h [a1] ∧ Exa Z h a1 "java/lang/String" ∧ Fld Z h a1 "java/lang/String" "coder" "B" (.int (0 : Int32)) ∧ Fld Z h a1 "java/lang/String" "value" "[B" (.ref b) ∧ Arv Z h b kb .byte (0 : Int32) [] (.int (0 : Int32))
set_option maxRecDepth 65536 in
set_option maxHeartbeats 40000000 in
theorem rmS4_0 (l : Launch) (Z : State) (a0 : Array Value) (hw : ∀ d ∈ tables_1, d.before a0 Z = true) (ws : List Jvm.Cond) (a1 a2 : Addr) (k2 : ClassId) (h0 : Heap) (n0 : Nat) (O : Old Z n0 h0) (hEL : EW Z a0 [("java/lang/String", 7)]) (E_a1 : Exa Z h0 a1 "java/lang/String") (F_coder_a1 : Fld Z h0 a1 "java/lang/String" "coder" "B" (.int (0 : Int32))) (F_value_a1 : Fld Z h0 a1 "java/lang/String" "value" "[B" .null) (g_a1 : n0 ≤ a1) (V_a2 : Arv Z h0 a2 k2 .char (0 : Int32) [] (.int (0 : Int32))) (ne_a2_a1 : a2 ≠ a1) :
    MetFree l (⟨"java/lang/String", "<init>", "([CIILjava/lang/Void;)V"⟩ : MethodName) (head1 (Jvm.Cond.code (⟨"java/lang/String", "<init>", "([CIILjava/lang/Void;)V"⟩ : MethodName) jdk_42_method_149_code 6 none :: ws) ({ frames := 1, cells := 4, slots := 8, locals := 12 } : Room)) (fun a U => a = #[(.ref a1), (.ref a2), (.int (0 : Int32)), (.int (0 : Int32)), .null] ∧ Z.Warmed39 U.vm ∧ U.heap = h0 ∧ CHv Z [("java/lang/String", 7)] U.vm h0) (fun _ _ _ _ _ => True) (fun _ U o U' => ∃ v L, o = .returned v ∧ (Q_rmS4_0 Z a1 a2 k2 h0 n0) v U'.heap L ∧ CHr Z [("java/lang/String", 7)] U.vm U.heap U'.vm U'.heap ∧ ReturnedEndW U o U' L ({ frames := 1, cells := 4, slots := 8, locals := 12 } : Room).cells ({ frames := 1, cells := 4, slots := 8, locals := 12 } : Room).slots) := by
  refine MetFree.of_bodySF (plainFor_of_name pn_1) hisR ?_
  intro p e s m args below meth c s₁ Bd hml0 hP hK
  obtain ⟨rfl, hZ, hh, hHC⟩ := hP
  have hx := Bd.exec
  have hby := Bd.bytes
  have hml : c.maxLocals = 6 := hml0
  have hown : s.vm.findClass "java/lang/String" = some m.cls := findClass_of_methodNamed Bd.named
  have hnm := (name_of_methodNamed Bd.named Bd.method).1
  have hlk := BodyLoose.notSynchronized Bd
  have X0 : Stand p l e ({ frames := 1, cells := 4, slots := 8, locals := 12 } : Room) (s.setVm s.vm) m #[(.ref a1), (.ref a2), (.int (0 : Int32)), (.int (0 : Int32)), .null] below meth c s₁ [] 0 0 := Stand.of_body Bd
  have e0 : s₁.heap = h0 := by rw [← hh, Bd.state]; rfl
  have N := Fr.nil n0
  have hS : s.Since s.vm h0.size := (State.WarmedH.refl s).since _
  have hk := Nat.le_refl h0.size
  have HR : CHr Z [("java/lang/String", 7)] s.vm h0 s.vm h0 := CHr.refl hHC
  have K := Keep.refl h0 [a1]
  obtain ⟨G, hG⟩ : ∃ G : State → JFrame → Prop, G = OwnGH p e below s Z [("java/lang/String", 7)] ({ frames := 1, cells := 4, slots := 8, locals := 12 } : Room).cells ({ frames := 1, cells := 4, slots := 8, locals := 12 } : Room).slots (Q_rmS4_0 Z a1 a2 k2 h0 n0) := ⟨_, rfl⟩
  have gb : ∀ {T T' : State} {g g' : JFrame}, (∀ t, Steps p.tables e below (T'.setTop g') t → Steps p.tables e below (T.setTop g) t) → G T' g' → G T g := by subst hG; exact fun k h => own_byH k h
  have go : ∀ {T : State} {locs : List Loc} {cells slots : Nat} {g : JFrame} {v : Option Value} {vm : Vm} {k : Nat}, Stand p l e ({ frames := 1, cells := 4, slots := 8, locals := 12 } : Room) (s.setVm vm) m #[(.ref a1), (.ref a2), (.int (0 : Int32)), (.int (0 : Int32)), .null] below meth c T locs cells slots → s.Since vm k → k ≤ T.heap.size → CHr Z [("java/lang/String", 7)] s.vm h0 vm T.heap → Z.Warmed39 vm → (meth.sig.returnType = none → v = none) → (∀ fs, (∀ (f : JFrame) (acts : List Action), f.method = m → f.locked = none → f.entered = [] → (doReturn e (T.setTop f) acts v).1 = T.setFrames fs) → Steps p.tables e below (T.setTop g) (T.setFrames fs)) → (Q_rmS4_0 Z a1 a2 k2 h0 n0) v T.heap locs → cells ≤ ({ frames := 1, cells := 4, slots := 8, locals := 12 } : Room).cells → slots ≤ ({ frames := 1, cells := 4, slots := 8, locals := 12 } : Room).slots → G T g := by subst hG; exact fun X a b c' d h1 h2 h3 h4 h5 => own_outH X hh hEL a b c' d hlk h1 h2 h3 h4 h5
  show OwnGH p e below s Z [("java/lang/String", 7)] ({ frames := 1, cells := 4, slots := 8, locals := 12 } : Room).cells ({ frames := 1, cells := 4, slots := 8, locals := 12 } : Room).slots (Q_rmS4_0 Z a1 a2 k2 h0 n0) s₁ (entryFrame m #[(.ref a1), (.ref a2), (.int (0 : Int32)), (.int (0 : Int32)), .null] 6)
  rw [← hG, ef_rmS4_0 m a1 a2 (0 : Int32) (0 : Int32)]
  clear hG
  show G s₁ (mkF m 0 #[.val (.ref a1), .val (.ref a2), .val (.int (0 : Int32)), .val (.int (0 : Int32)), .val .null, .unset] [])
  have Sf_a1 : Safe Z [("java/lang/String", 7)] s.vm h0 a1 := own_safe0 hZ.alike E_a1 F_value_a1
  refine gb (fun _ k => XS.aloadN X0.here hx rfl (hb hby d3_0) rfl rfl k) ?_
  show G s₁ (mkF m 1 #[rv a1, rv a2, iv 0, iv 0, .val .null, .unset] [.ref a1])
  obtain ⟨T1, X1, e1, st1⟩ := initO X0 hx hZ hown (ow hw 18 rfl) (ow hw 19 rfl) (ow hw 20 rfl) e0 (g := (mkF m 1 #[rv a1, rv a2, iv 0, iv 0, .val .null, .unset] [.ref a1])) rfl (by rw [hml]; rfl) rfl (hb hby d3_1) (by decide) (W := 0) (by show 2 * 0 + _ ≤ _; exact Nat.le_of_eq rfl) (by decide)
  refine gb st1 ?_
  show G T1 (mkF m 4 #[rv a1, rv a2, iv 0, iv 0, .val .null, .unset] [])
  refine gb (fun _ k => XS.iloadN X1.here hx rfl (hb hby d3_4) rfl (XS.ifNo X1.here hx rfl (hb hby d3_5) rfl ((if0 _ _).trans (teq (by decide : (0 : Int32) = (0 : Int32))).2) (XS.aloadN X1.here hx rfl (hb hby d3_8) rfl rfl k))) ?_
  show G T1 (mkF m 9 #[rv a1, rv a2, iv 0, iv 0, .val .null, .unset] [.ref a1])
  have lt_a1 := E_a1.lt
  have lt_a2 := V_a2.lt
  obtain ⟨b2, T2, h2, kn2, bb2, kb2, X2, e2, E2, hS, hk2, hZ, hown, E_b2, F_coder_b2, F_value_b2, V_bb2, -, -, hC2, -, hne2, st2⟩ := ldcCH X1 hx hZ hown (ow hw 21 rfl) (own_wS hw) e1 hS hk hEL (List.mem_of_getElem? (i := 0) rfl) HR.1 (z := (0 : Int32)) ⟨by decide, rfl⟩ (by decide) rfl (g := (mkF m 9 #[rv a1, rv a2, iv 0, iv 0, .val .null, .unset] [.ref a1])) rfl (hb hby d3_9) (n := 0) (by decide) (by decide) (by decide) (by decide)
  have Sf_a1 := hC2.safe lt_a1 Sf_a1
  have HR := HR.trans hC2
  have E_a1 := E_a1.ext E2
  have F_coder_a1 := F_coder_a1.ext E2
  have F_value_a1 := F_value_a1.ext E2
  have V_a2 := V_a2.ext E2
  have O := O.ext E2
  have hk := Nat.le_trans hk E2.1
  have K := K.ext E2
  have hk := hk2
  have ne_a1_b2 := (hne2 a1 Sf_a1).1
  have ne_a1_bb2 := (hne2 a1 Sf_a1).2
  have ne_a2_b2 := (hne2 a2 (Safe.arv hZ.alike V_a2 (by decide))).1
  have ne_a2_bb2 := (hne2 a2 (Safe.arv hZ.alike V_a2 (by decide))).2
  have V_bb2 : Arv Z h2 bb2 kb2 .byte (0 : Int32) [] (.int (0 : Int32)) := V_bb2
  refine gb st2 ?_
  show G T2 (mkF m 11 #[rv a1, rv a2, iv 0, iv 0, .val .null, .unset] [.ref b2, .ref a1])
  obtain ⟨T3, X3, e3, st3⟩ := getF X2 hx hZ hown (host := "") (Or.inl (ow hw 27 rfl)) Via.refl e2 F_value_b2 (g := (mkF m 11 #[rv a1, rv a2, iv 0, iv 0, .val .null, .unset] [.ref b2, .ref a1])) rfl rfl (hb hby d3_11)
  refine gb st3 ?_
  show G T3 (mkF m 14 #[rv a1, rv a2, iv 0, iv 0, .val .null, .unset] [.ref bb2, .ref a1])
  have Sw4 : Safe Z [("java/lang/String", 7)] _ _ a1 := Sf_a1
  obtain ⟨T4, h4, X4, e4, W4, st4⟩ := putF X3 hx hZ hown (host := "") (Or.inl (ow hw 27 rfl)) Via.refl e3 F_value_a1 E_a1 (Or.inr ⟨(ow hw 23 rfl), rfl, hnm⟩) (ow hw 8 rfl) (ty := (.array .byte)) (by decide) rfl rfl (g := (mkF m 14 #[rv a1, rv a2, iv 0, iv 0, .val .null, .unset] [.ref bb2, .ref a1])) rfl rfl (hb hby d3_14)
  refine gb st4 ?_
  have F_value_a1 := F_value_a1.same W4
  have Sf_a1 := Safe.wr W4 Sw4 HR.1 Sf_a1
  have HR := HR.trans (CHr.wr W4 Sw4 HR.1)
  have E_a1 := E_a1.wr W4
  have F_coder_a1 := F_coder_a1.other W4 (Or.inr (slot_ne (Or.inr (ow hw 24 rfl)) (Or.inr (ow hw 23 rfl)) (by decide) (t := .byte) (t' := (.array .byte)) (by decide) (by decide)))
  have V_a2 := V_a2.other W4 ne_a2_a1
  have E_b2 := E_b2.wr W4
  have F_coder_b2 := F_coder_b2.other W4 (Or.inl (Ne.symm ne_a1_b2))
  have F_value_b2 := F_value_b2.other W4 (Or.inl (Ne.symm ne_a1_b2))
  have V_bb2 := V_bb2.other W4 (Ne.symm ne_a1_bb2)
  have O := O.wr W4 g_a1
  have hk := Nat.le_trans hk (Keep.of_wr W4).1
  have K := K.wr W4 (Or.inl (List.mem_of_getElem? (i := 0) rfl))
  have N := Fr.snoc X4 N g_a1
  show G T4 (mkF m 17 #[rv a1, rv a2, iv 0, iv 0, .val .null, .unset] [])
  refine gb (fun _ k => XS.aloadN X4.here hx rfl (hb hby d3_17) rfl rfl k) ?_
  show G T4 (mkF m 18 #[rv a1, rv a2, iv 0, iv 0, .val .null, .unset] [.ref a1])
  have lt_a1 := E_a1.lt
  have lt_a2 := V_a2.lt
  have lt_b2 := E_b2.lt
  have lt_bb2 := V_bb2.lt
  obtain ⟨b5, T5, h5, kn5, bb5, kb5, X5, e5, E5, hS, hk5, hZ, hown, E_b5, F_coder_b5, F_value_b5, V_bb5, -, -, hC5, -, hne5, st5⟩ := ldcCH X4 hx hZ hown (ow hw 21 rfl) (own_wS hw) e4 hS hk hEL (List.mem_of_getElem? (i := 0) rfl) HR.1 (z := (0 : Int32)) ⟨by decide, rfl⟩ (by decide) rfl (g := (mkF m 18 #[rv a1, rv a2, iv 0, iv 0, .val .null, .unset] [.ref a1])) rfl (hb hby d3_18) (n := 0) (by decide) (by decide) (by decide) (by decide)
  have Sf_a1 := hC5.safe lt_a1 Sf_a1
  have HR := HR.trans hC5
  have E_a1 := E_a1.ext E5
  have F_coder_a1 := F_coder_a1.ext E5
  have V_a2 := V_a2.ext E5
  have E_b2 := E_b2.ext E5
  have F_coder_b2 := F_coder_b2.ext E5
  have F_value_b2 := F_value_b2.ext E5
  have V_bb2 := V_bb2.ext E5
  have F_value_a1 := F_value_a1.ext E5
  have O := O.ext E5
  have hk := Nat.le_trans hk E5.1
  have K := K.ext E5
  have hk := hk5
  have ne_a1_b5 := (hne5 a1 Sf_a1).1
  have ne_a1_bb5 := (hne5 a1 Sf_a1).2
  have ne_a2_b5 := (hne5 a2 (Safe.arv hZ.alike V_a2 (by decide))).1
  have ne_a2_bb5 := (hne5 a2 (Safe.arv hZ.alike V_a2 (by decide))).2
  have V_bb5 : Arv Z h5 bb5 kb5 .byte (0 : Int32) [] (.int (0 : Int32)) := V_bb5
  refine gb st5 ?_
  show G T5 (mkF m 20 #[rv a1, rv a2, iv 0, iv 0, .val .null, .unset] [.ref b5, .ref a1])
  obtain ⟨T6, X6, e6, st6⟩ := getF X5 hx hZ hown (host := "") (Or.inl (ow hw 28 rfl)) Via.refl e5 F_coder_b5 (g := (mkF m 20 #[rv a1, rv a2, iv 0, iv 0, .val .null, .unset] [.ref b5, .ref a1])) rfl rfl (hb hby d3_20)
  refine gb st6 ?_
  show G T6 (mkF m 23 #[rv a1, rv a2, iv 0, iv 0, .val .null, .unset] [.int 0, .ref a1])
  have Sw7 : Safe Z [("java/lang/String", 7)] _ _ a1 := Sf_a1
  obtain ⟨T7, h7, X7, e7, W7, st7⟩ := putFN X6 hx hZ hown (ow hw 28 rfl) Via.refl e6 F_coder_a1 E_a1 (Or.inr ⟨(ow hw 24 rfl), rfl, hnm⟩) (ow hw 8 rfl) (ty := .byte) (v' := (.int (0 : Int32))) (by decide) rfl (by decide) (g := (mkF m 23 #[rv a1, rv a2, iv 0, iv 0, .val .null, .unset] [.int 0, .ref a1])) rfl rfl (hb hby d3_23)
  refine gb st7 ?_
  have F_coder_a1 := F_coder_a1.same W7
  have Sf_a1 := Safe.wr W7 Sw7 HR.1 Sf_a1
  have HR := HR.trans (CHr.wr W7 Sw7 HR.1)
  have E_a1 := E_a1.wr W7
  have V_a2 := V_a2.other W7 ne_a2_a1
  have E_b2 := E_b2.wr W7
  have F_coder_b2 := F_coder_b2.other W7 (Or.inl (Ne.symm ne_a1_b2))
  have F_value_b2 := F_value_b2.other W7 (Or.inl (Ne.symm ne_a1_b2))
  have V_bb2 := V_bb2.other W7 (Ne.symm ne_a1_bb2)
  have F_value_a1 := F_value_a1.other W7 (Or.inr (slot_ne (Or.inr (ow hw 23 rfl)) (Or.inr (ow hw 24 rfl)) (by decide) (t := (.array .byte)) (t' := .byte) (by decide) (by decide)))
  have E_b5 := E_b5.wr W7
  have F_coder_b5 := F_coder_b5.other W7 (Or.inl (Ne.symm ne_a1_b5))
  have F_value_b5 := F_value_b5.other W7 (Or.inl (Ne.symm ne_a1_b5))
  have V_bb5 := V_bb5.other W7 (Ne.symm ne_a1_bb5)
  have O := O.wr W7 g_a1
  have hk := Nat.le_trans hk (Keep.of_wr W7).1
  have K := K.wr W7 (Or.inl (List.mem_of_getElem? (i := 0) rfl))
  have N := Fr.snoc X7 N g_a1
  show G T7 (mkF m 26 #[rv a1, rv a2, iv 0, iv 0, .val .null, .unset] [])
  exact go X7 hS (Nat.le_trans hk (Nat.le_of_eq (congrArg Array.size e7.symm))) (by rw [e7]; exact HR) hZ (v := none) (fun _ => rfl) (fun fs hr => X7.returnOut hx Bd.returns (hb hby d3_26) hr) (by rw [e7]; exact ⟨_, _, rfl, N, K, E_a1, F_coder_a1, F_value_a1, V_bb2⟩) (by decide) (by decide)
def Q_rmS1_0 (Z : State) (a1 a2 : Addr) (k2 : ClassId) (h0 : Heap) (n0 : Nat) : Option Value → Heap → List Loc → Prop := fun v h L => ∃ (b : Addr) (kb : ClassId), v = none ∧ Fr n0 L ∧ Keep h0 h [a1] ∧ Exa Z h a1 "java/lang/String" ∧ Fld Z h a1 "java/lang/String" "coder" "B" (.int (0 : Int32)) ∧ Fld Z h a1 "java/lang/String" "value" "[B" (.ref b) ∧ Arv Z h b kb .byte (0 : Int32) [] (.int (0 : Int32))
set_option maxRecDepth 65536 in
set_option maxHeartbeats 40000000 in
theorem rmS1_0 (l : Launch) (Z : State) (a0 : Array Value) (hw : ∀ d ∈ tables_1, d.before a0 Z = true) (ws : List Jvm.Cond) (a1 a2 : Addr) (k2 : ClassId) (h0 : Heap) (n0 : Nat) (O : Old Z n0 h0) (hEL : EW Z a0 [("java/lang/String", 7)]) (E_a1 : Exa Z h0 a1 "java/lang/String") (F_coder_a1 : Fld Z h0 a1 "java/lang/String" "coder" "B" (.int (0 : Int32))) (F_value_a1 : Fld Z h0 a1 "java/lang/String" "value" "[B" .null) (g_a1 : n0 ≤ a1) (V_a2 : Arv Z h0 a2 k2 .char (0 : Int32) [] (.int (0 : Int32))) (ne_a2_a1 : a2 ≠ a1) :
    MetFree l (⟨"java/lang/String", "<init>", "([C)V"⟩ : MethodName) (head1 (Jvm.Cond.code (⟨"java/lang/String", "<init>", "([C)V"⟩ : MethodName) jdk_42_method_3_code 2 none :: ws) ({ frames := 2, cells := 4, slots := 8, locals := 29 } : Room)) (fun a U => a = #[(.ref a1), (.ref a2)] ∧ Z.Warmed39 U.vm ∧ U.heap = h0 ∧ CHv Z [("java/lang/String", 7)] U.vm h0) (fun _ _ _ _ _ => True) (fun _ U o U' => ∃ v L, o = .returned v ∧ (Q_rmS1_0 Z a1 a2 k2 h0 n0) v U'.heap L ∧ CHr Z [("java/lang/String", 7)] U.vm U.heap U'.vm U'.heap ∧ ReturnedEndW U o U' L ({ frames := 2, cells := 4, slots := 8, locals := 29 } : Room).cells ({ frames := 2, cells := 4, slots := 8, locals := 29 } : Room).slots) := by
  refine MetFree.of_bodySF (plainFor_of_name pn_1) hisR ?_
  intro p e s m args below meth c s₁ Bd hml0 hP hK
  obtain ⟨rfl, hZ, hh, hHC⟩ := hP
  have hx := Bd.exec
  have hby := Bd.bytes
  have hml : c.maxLocals = 2 := hml0
  have hown : s.vm.findClass "java/lang/String" = some m.cls := findClass_of_methodNamed Bd.named
  have hnm := (name_of_methodNamed Bd.named Bd.method).1
  have hlk := BodyLoose.notSynchronized Bd
  have X0 : Stand p l e ({ frames := 2, cells := 4, slots := 8, locals := 29 } : Room) (s.setVm s.vm) m #[(.ref a1), (.ref a2)] below meth c s₁ [] 0 0 := Stand.of_body Bd
  have e0 : s₁.heap = h0 := by rw [← hh, Bd.state]; rfl
  have N := Fr.nil n0
  have hS : s.Since s.vm h0.size := (State.WarmedH.refl s).since _
  have hk := Nat.le_refl h0.size
  have HR : CHr Z [("java/lang/String", 7)] s.vm h0 s.vm h0 := CHr.refl hHC
  have K := Keep.refl h0 [a1]
  obtain ⟨G, hG⟩ : ∃ G : State → JFrame → Prop, G = OwnGH p e below s Z [("java/lang/String", 7)] ({ frames := 2, cells := 4, slots := 8, locals := 29 } : Room).cells ({ frames := 2, cells := 4, slots := 8, locals := 29 } : Room).slots (Q_rmS1_0 Z a1 a2 k2 h0 n0) := ⟨_, rfl⟩
  have gb : ∀ {T T' : State} {g g' : JFrame}, (∀ t, Steps p.tables e below (T'.setTop g') t → Steps p.tables e below (T.setTop g) t) → G T' g' → G T g := by subst hG; exact fun k h => own_byH k h
  have go : ∀ {T : State} {locs : List Loc} {cells slots : Nat} {g : JFrame} {v : Option Value} {vm : Vm} {k : Nat}, Stand p l e ({ frames := 2, cells := 4, slots := 8, locals := 29 } : Room) (s.setVm vm) m #[(.ref a1), (.ref a2)] below meth c T locs cells slots → s.Since vm k → k ≤ T.heap.size → CHr Z [("java/lang/String", 7)] s.vm h0 vm T.heap → Z.Warmed39 vm → (meth.sig.returnType = none → v = none) → (∀ fs, (∀ (f : JFrame) (acts : List Action), f.method = m → f.locked = none → f.entered = [] → (doReturn e (T.setTop f) acts v).1 = T.setFrames fs) → Steps p.tables e below (T.setTop g) (T.setFrames fs)) → (Q_rmS1_0 Z a1 a2 k2 h0 n0) v T.heap locs → cells ≤ ({ frames := 2, cells := 4, slots := 8, locals := 29 } : Room).cells → slots ≤ ({ frames := 2, cells := 4, slots := 8, locals := 29 } : Room).slots → G T g := by subst hG; exact fun X a b c' d h1 h2 h3 h4 h5 => own_outH X hh hEL a b c' d hlk h1 h2 h3 h4 h5
  show OwnGH p e below s Z [("java/lang/String", 7)] ({ frames := 2, cells := 4, slots := 8, locals := 29 } : Room).cells ({ frames := 2, cells := 4, slots := 8, locals := 29 } : Room).slots (Q_rmS1_0 Z a1 a2 k2 h0 n0) s₁ (entryFrame m #[(.ref a1), (.ref a2)] 2)
  rw [← hG, ef_rmS1_0 m a1 a2]
  clear hG
  show G s₁ (mkF m 0 #[.val (.ref a1), .val (.ref a2)] [])
  have Sf_a1 : Safe Z [("java/lang/String", 7)] s.vm h0 a1 := own_safe0 hZ.alike E_a1 F_value_a1
  refine gb (fun _ k => XS.aloadN X0.here hx rfl (hb hby d2_0) rfl rfl (XS.aloadN X0.here hx rfl (hb hby d2_1) rfl rfl (XS.iconst X0.here hx rfl (hb hby d2_2) (XS.aloadN X0.here hx rfl (hb hby d2_3) rfl rfl k)))) ?_
  show G s₁ (mkF m 4 #[rv a1, rv a2] [.ref a2, .int 0, .ref a2, .ref a1])
  have V'1 := V_a2
  obtain ⟨cl1, Ar1, qk1, sz1, nn1, hs1, ft1⟩ := V'1
  refine gb (X0.arraylength hx (by rw [e0]; exact Ar1.1) (State.isArrayOf_alike hZ.alike Ar1.2.1) (g := (mkF m 4 #[rv a1, rv a2] [.ref a2, .int 0, .ref a2, .ref a1])) rfl rfl (hb hby d2_4)) ?_
  rw [len_of sz1 nn1]
  show G s₁ (mkF m 5 #[rv a1, rv a2] [.int 0, .int 0, .ref a2, .ref a1])
  refine gb (fun _ k => XS.aconstNull X0.here hx rfl (hb hby d2_5) k) ?_
  show G s₁ (mkF m 6 #[rv a1, rv a2] [.null, .int 0, .int 0, .ref a2, .ref a1])
  have ltS_a1 := E_a1.lt
  obtain ⟨_, _, ⟨T2, Lz2, kz2, nz2⟩, -, X2, hS2, hg2, ⟨Lc2, hQ2, lq2, yq2, zq2, hC2⟩, st2⟩ := X0.specialBackS hx (y := (⟨"java/lang/String", "<init>", "([CIILjava/lang/Void;)V"⟩ : MethodName)) rfl hown (mvT hZ (ow hw 14 rfl)) (mvT hZ (ow hw 15 rfl)) (mvT hZ (ow hw 17 rfl)) (by decide) (backOfSH (W := 0) (rmS4_0 l Z a0 hw [] a1 a2 k2 h0 n0 O hEL E_a1 F_coder_a1 F_value_a1 g_a1 V_a2 ne_a2_a1) hZ (ow hw 17 rfl) (ow hw 9 rfl) (by decide) (by decide) hEL HR.1) (g := (mkF m 6 #[rv a1, rv a2] [.null, .int 0, .int 0, .ref a2, .ref a1])) rfl (by rw [hml]; rfl) (Steps.refl _) (a := a1) (argsL := [(.ref a2), (.int (0 : Int32)), (.int (0 : Int32)), .null]) (rest := []) (lenOf pd_3 rfl) rfl (by show 2 * 0 + _ ≤ _; exact Nat.le_of_eq rfl) (hb hby d2_6) (fun _ _ => ⟨rfl, e0, (by decide : 0 + 4 ≤ _), (by decide : 0 + 8 ≤ _)⟩)
  dsimp only [Pt.U, Pt.locs, Pt.cells, Pt.slots] at X2 lq2 yq2 zq2 st2 hQ2 hS2 hg2 hC2
  subst lq2 yq2 zq2
  obtain ⟨X2, hS, hZ, hown⟩ := rebS hS (Nat.le_trans hk (Nat.le_of_eq (congrArg Array.size e0.symm))) X2 hS2 hg2 hZ hown
  obtain ⟨h2, e2⟩ : ∃ z, z = T2.heap := ⟨_, rfl⟩
  rw [← e2] at hQ2 hC2
  replace e2 := e2.symm
  obtain ⟨b2, kb2, rfl, Nq2, Kq2, hR2⟩ := hQ2
  have N := Fr.app N Nq2
  have Sf_a1 := hC2.safe ltS_a1 Sf_a1
  have HR := HR.trans hC2
  have E_a1 := E_a1.keep Kq2
  have V_a2 := V_a2.keep Kq2 (ninS ne_a2_a1 nin0)
  have hk := Nat.le_trans hk Kq2.1
  have hk : T2.heap.size ≤ h2.size := by rw [e2]; exact Nat.le_refl _
  obtain ⟨E_a1, Fc2, Fv2, Vb2⟩ := hR2
  have O := O.keep Kq2 (allS g_a1 all0)
  have K := K.trans Kq2 (allS (Or.inl (List.mem_of_getElem? (i := 0) rfl)) all0)
  refine gb (fun _ k => st2.trans k) ?_
  show G T2 (mkF m 9 #[rv a1, rv a2] [])
  exact go X2 hS (Nat.le_trans hk (Nat.le_of_eq (congrArg Array.size e2.symm))) (by rw [e2]; exact HR) hZ (v := none) (fun _ => rfl) (fun fs hr => X2.returnOut hx Bd.returns (hb hby d2_9) hr) (by rw [e2]; exact ⟨_, _, rfl, N, K, E_a1, Fc2, Fv2, Vb2⟩) (by decide) (by decide)
def Q_rmLE (Z : State) (a3 a4 : Addr) (k3 k4 : ClassId) (z3 z4 : Int32) (xs ys : List Int32) (h0 : Heap) (n0 : Nat) : Option Value → Heap → List Loc → Prop := fun v h L => v = some (.int (if xs = ys then (1 : Int32) else (0 : Int32))) ∧ L = [] ∧ h = h0
set_option maxRecDepth 65536 in
set_option maxHeartbeats 40000000 in
theorem rmLE (l : Launch) (Z : State) (a0 : Array Value) (hw : ∀ d ∈ tables_1, d.before a0 Z = true) (ws : List Jvm.Cond) (a3 a4 : Addr) (k3 k4 : ClassId) (z3 z4 : Int32) (xs ys : List Int32) (h0 : Heap) (n0 : Nat) (O : Old Z n0 h0) (V_a3 : Arv Z h0 a3 k3 .byte z3 (xs.map Value.int) (.int (0 : Int32))) (V_a4 : Arv Z h0 a4 k4 .byte z4 (ys.map Value.int) (.int (0 : Int32))) (hz3 : z3.toNatClampNeg = xs.length) (hz4 : z4.toNatClampNeg = ys.length) :
    MetFree l (⟨"java/lang/StringLatin1", "equals", "([B[B)Z"⟩ : MethodName) (head1 (Jvm.Cond.code (⟨"java/lang/StringLatin1", "equals", "([B[B)Z"⟩ : MethodName) jdk_43_method_13_code 3 (some .boolean) :: ws) ({ frames := 0, cells := 0, slots := 0, locals := 0 } : Room)) (fun a U => a = #[(.ref a3), (.ref a4)] ∧ Z.Warmed39 U.vm ∧ U.heap = h0) (fun _ _ _ _ _ => True) (fun _ U o U' => ∃ v L, o = .returned v ∧ (Q_rmLE Z a3 a4 k3 k4 z3 z4 xs ys h0 n0) v U'.heap L ∧ FrameEnd U o U' L ({ frames := 0, cells := 0, slots := 0, locals := 0 } : Room).cells ({ frames := 0, cells := 0, slots := 0, locals := 0 } : Room).slots) := by
  refine MetFree.of_bodySF (plainFor_of_name pn_2) hisR ?_
  intro p e s m args below meth c s₁ Bd hml0 hP hK
  obtain ⟨rfl, hZ, hh⟩ := hP
  have hx := Bd.exec
  have hby := Bd.bytes
  have hml : c.maxLocals = 3 := hml0
  have hown : s.vm.findClass "java/lang/StringLatin1" = some m.cls := findClass_of_methodNamed Bd.named
  have hnm := (name_of_methodNamed Bd.named Bd.method).1
  have hlk := BodyLoose.notSynchronized Bd
  have X0 : Stand p l e ({ frames := 0, cells := 0, slots := 0, locals := 0 } : Room) s m #[(.ref a3), (.ref a4)] below meth c s₁ [] 0 0 := Stand.of_body Bd
  have e0 : s₁.heap = h0 := by rw [← hh, Bd.state]; rfl
  have N := Fr.nil n0
  obtain ⟨G, hG⟩ : ∃ G : State → JFrame → Prop, G = OwnG p e below s ({ frames := 0, cells := 0, slots := 0, locals := 0 } : Room).cells ({ frames := 0, cells := 0, slots := 0, locals := 0 } : Room).slots (Q_rmLE Z a3 a4 k3 k4 z3 z4 xs ys h0 n0) := ⟨_, rfl⟩
  have gb : ∀ {T T' : State} {g g' : JFrame}, (∀ t, Steps p.tables e below (T'.setTop g') t → Steps p.tables e below (T.setTop g) t) → G T' g' → G T g := by subst hG; exact fun k h => own_by k h
  have go : ∀ {T : State} {locs : List Loc} {cells slots : Nat} {g : JFrame} {v : Option Value}, Stand p l e ({ frames := 0, cells := 0, slots := 0, locals := 0 } : Room) s m #[(.ref a3), (.ref a4)] below meth c T locs cells slots → (meth.sig.returnType = none → v = none) → (∀ fs, (∀ (f : JFrame) (acts : List Action), f.method = m → f.locked = none → f.entered = [] → (doReturn e (T.setTop f) acts v).1 = T.setFrames fs) → Steps p.tables e below (T.setTop g) (T.setFrames fs)) → (Q_rmLE Z a3 a4 k3 k4 z3 z4 xs ys h0 n0) v T.heap locs → cells ≤ ({ frames := 0, cells := 0, slots := 0, locals := 0 } : Room).cells → slots ≤ ({ frames := 0, cells := 0, slots := 0, locals := 0 } : Room).slots → G T g := by subst hG; exact fun X h1 h2 h3 h4 h5 => own_out X hlk h1 h2 h3 h4 h5
  show OwnG p e below s ({ frames := 0, cells := 0, slots := 0, locals := 0 } : Room).cells ({ frames := 0, cells := 0, slots := 0, locals := 0 } : Room).slots (Q_rmLE Z a3 a4 k3 k4 z3 z4 xs ys h0 n0) s₁ (entryFrame m #[(.ref a3), (.ref a4)] 3)
  rw [← hG, ef_rmLE m a3 a4]
  clear hG
  show G s₁ (mkF m 0 #[.val (.ref a3), .val (.ref a4), .unset] [])
  have hn3 : ¬ z3 < 0 := by obtain ⟨_, _, _, _, q, _⟩ := V_a3; exact q
  have hn4 : ¬ z4 < 0 := by obtain ⟨_, _, _, _, q, _⟩ := V_a4; exact q
  refine gb (fun _ k => XS.aloadN X0.here hx rfl (hb hby d12_0) rfl rfl k) ?_
  show G s₁ (mkF m 1 #[rv a3, rv a4, .unset] [.ref a3])
  have V'1 := V_a3
  obtain ⟨cl1, Ar1, qk1, sz1, nn1, hs1, ft1⟩ := V'1
  refine gb (X0.arraylength hx (by rw [e0]; exact Ar1.1) (State.isArrayOf_alike hZ.alike Ar1.2.1) (g := (mkF m 1 #[rv a3, rv a4, .unset] [.ref a3])) rfl rfl (hb hby d12_1)) ?_
  rw [len_of sz1 nn1]
  show G s₁ (mkF m 2 #[rv a3, rv a4, .unset] [.int z3])
  refine gb (fun _ k => XS.aloadN X0.here hx rfl (hb hby d12_2) rfl rfl k) ?_
  show G s₁ (mkF m 3 #[rv a3, rv a4, .unset] [.ref a4, .int z3])
  have V'2 := V_a4
  obtain ⟨cl2, Ar2, qk2, sz2, nn2, hs2, ft2⟩ := V'2
  refine gb (X0.arraylength hx (by rw [e0]; exact Ar2.1) (State.isArrayOf_alike hZ.alike Ar2.2.1) (g := (mkF m 3 #[rv a3, rv a4, .unset] [.ref a4, .int z3])) rfl rfl (hb hby d12_3)) ?_
  rw [len_of sz2 nn2]
  show G s₁ (mkF m 4 #[rv a3, rv a4, .unset] [.int z4, .int z3])
  by_cases hc4 : z3 = z4
  · skip
    refine gb (fun _ k => XS.icmpNo X0.here hx rfl (hb hby d12_4) rfl (teq hc4).2 (XS.iconst X0.here hx rfl (hb hby d12_7) (XS.istoreN X0.here hx rfl (hb hby d12_8) rfl (l' := #[rv a3, rv a4, iv 0]) rfl k))) ?_
    show G s₁ (mkF m 9 #[rv a3, rv a4, iv 0] [])
    have hl : xs.length = ys.length := (own_zeq hz3 hz4 hn3 hn4).mp hc4
    have L9 : ∀ (k i : Nat), i + k = xs.length → (∀ j, j < i → xs.getD j 0 = ys.getD j 0) → G s₁ (mkF m 9 #[rv a3, rv a4, iv (Int32.ofNat i)] []) := by
      intro k
      induction k with
      | zero =>
        intro i hi hp
        show G s₁ (mkF m 9 #[rv a3, rv a4, iv (Int32.ofNat i)] [])
        refine gb (fun _ k => XS.iloadN X0.here hx rfl (hb hby d12_9) rfl (XS.aloadN X0.here hx rfl (hb hby d12_10) rfl rfl k)) ?_
        show G s₁ (mkF m 11 #[rv a3, rv a4, iv (Int32.ofNat i)] [.ref a3, .int (Int32.ofNat i)])
        have V'3 := V_a3
        obtain ⟨cl3, Ar3, qk3, sz3, nn3, hs3, ft3⟩ := V'3
        refine gb (X0.arraylength hx (by rw [e0]; exact Ar3.1) (State.isArrayOf_alike hZ.alike Ar3.2.1) (g := (mkF m 11 #[rv a3, rv a4, iv (Int32.ofNat i)] [.ref a3, .int (Int32.ofNat i)])) rfl rfl (hb hby d12_11)) ?_
        rw [len_of sz3 nn3]
        show G s₁ (mkF m 12 #[rv a3, rv a4, iv (Int32.ofNat i)] [.int z3, .int (Int32.ofNat i)])
        refine gb (fun _ k => XS.icmpYes X0.here hx rfl (pc0 := 12) (pc' := 32) rfl (hb hby d12_12) rfl (flt (own_ofNatG hz3 hn3 (by omega))).2.1 (by decide) (by decide) (XS.iconst X0.here hx rfl (hb hby d12_32) k)) ?_
        show G s₁ (mkF m 33 #[rv a3, rv a4, iv (Int32.ofNat i)] [.int 1])
        exact go X0 (v := (some (.int (1 : Int32)))) (fun h => by rw [Bd.returns] at h; cases h) (fun fs hr => retOut X0 hx Bd.returns rfl (Or.inl ⟨rfl, by simp, _, rfl⟩) (hb hby d12_33) hr) (⟨by rw [if_pos (own_lists hl (fun j hj => hp j (by omega)))], rfl, e0⟩) (by decide) (by decide)
      | succ k ih =>
        intro i hi hp
        show G s₁ (mkF m 9 #[rv a3, rv a4, iv (Int32.ofNat i)] [])
        obtain ⟨hi1, hi2, hi3⟩ := own_ofNat hz3 (show i < xs.length by omega)
        obtain ⟨hj1, hj2, hj3⟩ := own_ofNat hz4 (show i < ys.length by omega)
        refine gb (fun _ k => XS.iloadN X0.here hx rfl (hb hby d12_9) rfl (XS.aloadN X0.here hx rfl (hb hby d12_10) rfl rfl k)) ?_
        show G s₁ (mkF m 11 #[rv a3, rv a4, iv (Int32.ofNat i)] [.ref a3, .int (Int32.ofNat i)])
        have V'4 := V_a3
        obtain ⟨cl4, Ar4, qk4, sz4, nn4, hs4, ft4⟩ := V'4
        refine gb (X0.arraylength hx (by rw [e0]; exact Ar4.1) (State.isArrayOf_alike hZ.alike Ar4.2.1) (g := (mkF m 11 #[rv a3, rv a4, iv (Int32.ofNat i)] [.ref a3, .int (Int32.ofNat i)])) rfl rfl (hb hby d12_11)) ?_
        rw [len_of sz4 nn4]
        show G s₁ (mkF m 12 #[rv a3, rv a4, iv (Int32.ofNat i)] [.int z3, .int (Int32.ofNat i)])
        refine gb (fun _ k => XS.icmpNo X0.here hx rfl (hb hby d12_12) rfl (tlt hi1).2.1 (XS.aloadN X0.here hx rfl (hb hby d12_15) rfl rfl (XS.iloadN X0.here hx rfl (hb hby d12_16) rfl k))) ?_
        show G s₁ (mkF m 17 #[rv a3, rv a4, iv (Int32.ofNat i)] [.int (Int32.ofNat i), .ref a3])
        have V'5 := V_a3
        obtain ⟨cl5, Ar5, qk5, sz5, nn5, hs5, ft5⟩ := V'5
        have hin5 : ¬ ((Int32.ofNat i) < 0 ∨ cl5.slots.size ≤ ((Int32.ofNat i)).toNatClampNeg) := inb_of sz5 ⟨hi2, hi1⟩
        have hat5 : cl5.slots[((Int32.ofNat i)).toNatClampNeg]? = some (.int (xs.getD i 0)) := hs5.at hin5 (by rw [hi3]; exact own_getD xs i)
        refine gb (X0.baloadBytes hx (j := (Int32.ofNat i)) (v := (.int (xs.getD i 0))) (by rw [e0]; exact Ar5.1) (State.isArrayOf_alike hZ.alike Ar5.2.1) Ar5.2.2 hin5 hat5 (g := (mkF m 17 #[rv a3, rv a4, iv (Int32.ofNat i)] [.int (Int32.ofNat i), .ref a3])) rfl rfl (hb hby d12_17)) ?_
        show G s₁ (mkF m 18 #[rv a3, rv a4, iv (Int32.ofNat i)] [.int (xs.getD i 0)])
        refine gb (fun _ k => XS.aloadN X0.here hx rfl (hb hby d12_18) rfl rfl (XS.iloadN X0.here hx rfl (hb hby d12_19) rfl k)) ?_
        show G s₁ (mkF m 20 #[rv a3, rv a4, iv (Int32.ofNat i)] [.int (Int32.ofNat i), .ref a4, .int (xs.getD i 0)])
        have V'6 := V_a4
        obtain ⟨cl6, Ar6, qk6, sz6, nn6, hs6, ft6⟩ := V'6
        have hin6 : ¬ ((Int32.ofNat i) < 0 ∨ cl6.slots.size ≤ ((Int32.ofNat i)).toNatClampNeg) := inb_of sz6 ⟨hj2, hj1⟩
        have hat6 : cl6.slots[((Int32.ofNat i)).toNatClampNeg]? = some (.int (ys.getD i 0)) := hs6.at hin6 (by rw [hj3]; exact own_getD ys i)
        refine gb (X0.baloadBytes hx (j := (Int32.ofNat i)) (v := (.int (ys.getD i 0))) (by rw [e0]; exact Ar6.1) (State.isArrayOf_alike hZ.alike Ar6.2.1) Ar6.2.2 hin6 hat6 (g := (mkF m 20 #[rv a3, rv a4, iv (Int32.ofNat i)] [.int (Int32.ofNat i), .ref a4, .int (xs.getD i 0)])) rfl rfl (hb hby d12_20)) ?_
        show G s₁ (mkF m 21 #[rv a3, rv a4, iv (Int32.ofNat i)] [.int (ys.getD i 0), .int (xs.getD i 0)])
        by_cases hc21 : (xs.getD i 0) = (ys.getD i 0)
        · skip
          refine gb (fun _ k => XS.icmpYes X0.here hx rfl (pc0 := 21) (pc' := 26) rfl (hb hby d12_21) rfl (teq hc21).1 (by decide) (by decide) (XS.iinc X0.here hx rfl (hb hby d12_26) rfl (l' := #[rv a3, rv a4, iv ((Int32.ofNat i) + (1 : Int32))]) rfl (XS.goto X0.here hx rfl (pc0 := 29) (pc' := 9) rfl (hb hby d12_29) (by decide) (by decide) k))) ?_
          show G s₁ (mkF m 9 #[rv a3, rv a4, iv ((Int32.ofNat i) + (1 : Int32))] [])
          rw [own_succ32]
          exact ih (i + 1) (by omega) (fun j hj => by rcases Nat.lt_succ_iff_lt_or_eq.mp hj with q | q; exact hp j q; rw [q]; exact hc21)
        · skip
          refine gb (fun _ k => XS.icmpNo X0.here hx rfl (hb hby d12_21) rfl (feq hc21).1 (XS.iconst X0.here hx rfl (hb hby d12_24) k)) ?_
          show G s₁ (mkF m 25 #[rv a3, rv a4, iv (Int32.ofNat i)] [.int 0])
          exact go X0 (v := (some (.int (0 : Int32)))) (fun h => by rw [Bd.returns] at h; cases h) (fun fs hr => retOut X0 hx Bd.returns rfl (Or.inl ⟨rfl, by simp, _, rfl⟩) (hb hby d12_25) hr) (⟨by rw [if_neg (fun q => hc21 (by rw [q]))], rfl, e0⟩) (by decide) (by decide)
    exact L9 xs.length 0 (Nat.zero_add _) (fun _ q => absurd q (Nat.not_lt_zero _))
  · skip
    refine gb (fun _ k => XS.icmpYes X0.here hx rfl (pc0 := 4) (pc' := 34) rfl (hb hby d12_4) rfl (feq hc4).2 (by decide) (by decide) (XS.iconst X0.here hx rfl (hb hby d12_34) k)) ?_
    show G s₁ (mkF m 35 #[rv a3, rv a4, .unset] [.int 0])
    exact go X0 (v := (some (.int (0 : Int32)))) (fun h => by rw [Bd.returns] at h; cases h) (fun fs hr => retOut X0 hx Bd.returns rfl (Or.inl ⟨rfl, by simp, _, rfl⟩) (hb hby d12_35) hr) (⟨by rw [if_neg (fun q => hc4 ((own_zeq hz3 hz4 hn3 hn4).mpr (by rw [q])))], rfl, e0⟩) (by decide) (by decide)
def Q_rmEq (Z : State) (a1 a2 : Addr) (a3 a4 : Addr) (k3 k4 : ClassId) (z3 z4 : Int32) (xs ys : List Int32) (h0 : Heap) (n0 : Nat) (zc : Int32) : Option Value → Heap → List Loc → Prop := fun v h L => v = some (.int (if xs = ys then (1 : Int32) else (0 : Int32))) ∧ L = [] ∧ h = h0
set_option maxRecDepth 65536 in
set_option maxHeartbeats 40000000 in
theorem rmEq (l : Launch) (Z : State) (a0 : Array Value) (hw : ∀ d ∈ tables_1, d.before a0 Z = true) (ws : List Jvm.Cond) (a1 a2 : Addr) (a3 a4 : Addr) (k3 k4 : ClassId) (z3 z4 : Int32) (xs ys : List Int32) (h0 : Heap) (n0 : Nat) (O : Old Z n0 h0) (E_a1 : Exa Z h0 a1 "java/lang/String") (E_a2 : Exa Z h0 a2 "java/lang/String") (F_c1 : Fld Z h0 a1 "java/lang/String" "coder" "B" (.int (0 : Int32))) (F_v1 : Fld Z h0 a1 "java/lang/String" "value" "[B" (.ref a3)) (F_c2 : Fld Z h0 a2 "java/lang/String" "coder" "B" (.int (0 : Int32))) (F_v2 : Fld Z h0 a2 "java/lang/String" "value" "[B" (.ref a4)) (V_a3 : Arv Z h0 a3 k3 .byte z3 (xs.map Value.int) (.int (0 : Int32))) (V_a4 : Arv Z h0 a4 k4 .byte z4 (ys.map Value.int) (.int (0 : Int32))) (hz3 : z3.toNatClampNeg = xs.length) (hz4 : z4.toNatClampNeg = ys.length) (zc : Int32) (S_cs : Sta Z Z.heap "java/lang/String" "COMPACT_STRINGS" "Z" (.int zc)) (hzc : ¬ zc = (0 : Int32)) (hne : ¬ a1 = a2) :
    MetFree l (⟨"java/lang/String", "equals", "(Ljava/lang/Object;)Z"⟩ : MethodName) (head1 (Jvm.Cond.code (⟨"java/lang/String", "equals", "(Ljava/lang/Object;)Z"⟩ : MethodName) jdk_42_method_66_code 3 (some .boolean) :: ws) ({ frames := 1, cells := 0, slots := 0, locals := 14 } : Room)) (fun a U => a = #[(.ref a1), (.ref a2)] ∧ Z.Warmed39 U.vm ∧ U.heap = h0) (fun _ _ _ _ _ => True) (fun _ U o U' => ∃ v L, o = .returned v ∧ (Q_rmEq Z a1 a2 a3 a4 k3 k4 z3 z4 xs ys h0 n0 zc) v U'.heap L ∧ FrameEnd U o U' L ({ frames := 1, cells := 0, slots := 0, locals := 14 } : Room).cells ({ frames := 1, cells := 0, slots := 0, locals := 14 } : Room).slots) := by
  refine MetFree.of_bodySF (plainFor_of_name pn_1) hisR ?_
  intro p e s m args below meth c s₁ Bd hml0 hP hK
  obtain ⟨rfl, hZ, hh⟩ := hP
  have hx := Bd.exec
  have hby := Bd.bytes
  have hml : c.maxLocals = 3 := hml0
  have hown : s.vm.findClass "java/lang/String" = some m.cls := findClass_of_methodNamed Bd.named
  have hnm := (name_of_methodNamed Bd.named Bd.method).1
  have hlk := BodyLoose.notSynchronized Bd
  have X0 : Stand p l e ({ frames := 1, cells := 0, slots := 0, locals := 14 } : Room) s m #[(.ref a1), (.ref a2)] below meth c s₁ [] 0 0 := Stand.of_body Bd
  have e0 : s₁.heap = h0 := by rw [← hh, Bd.state]; rfl
  have N := Fr.nil n0
  obtain ⟨G, hG⟩ : ∃ G : State → JFrame → Prop, G = OwnG p e below s ({ frames := 1, cells := 0, slots := 0, locals := 14 } : Room).cells ({ frames := 1, cells := 0, slots := 0, locals := 14 } : Room).slots (Q_rmEq Z a1 a2 a3 a4 k3 k4 z3 z4 xs ys h0 n0 zc) := ⟨_, rfl⟩
  have gb : ∀ {T T' : State} {g g' : JFrame}, (∀ t, Steps p.tables e below (T'.setTop g') t → Steps p.tables e below (T.setTop g) t) → G T' g' → G T g := by subst hG; exact fun k h => own_by k h
  have go : ∀ {T : State} {locs : List Loc} {cells slots : Nat} {g : JFrame} {v : Option Value}, Stand p l e ({ frames := 1, cells := 0, slots := 0, locals := 14 } : Room) s m #[(.ref a1), (.ref a2)] below meth c T locs cells slots → (meth.sig.returnType = none → v = none) → (∀ fs, (∀ (f : JFrame) (acts : List Action), f.method = m → f.locked = none → f.entered = [] → (doReturn e (T.setTop f) acts v).1 = T.setFrames fs) → Steps p.tables e below (T.setTop g) (T.setFrames fs)) → (Q_rmEq Z a1 a2 a3 a4 k3 k4 z3 z4 xs ys h0 n0 zc) v T.heap locs → cells ≤ ({ frames := 1, cells := 0, slots := 0, locals := 14 } : Room).cells → slots ≤ ({ frames := 1, cells := 0, slots := 0, locals := 14 } : Room).slots → G T g := by subst hG; exact fun X h1 h2 h3 h4 h5 => own_out X hlk h1 h2 h3 h4 h5
  show OwnG p e below s ({ frames := 1, cells := 0, slots := 0, locals := 14 } : Room).cells ({ frames := 1, cells := 0, slots := 0, locals := 14 } : Room).slots (Q_rmEq Z a1 a2 a3 a4 k3 k4 z3 z4 xs ys h0 n0 zc) s₁ (entryFrame m #[(.ref a1), (.ref a2)] 3)
  rw [← hG, ef_rmEq m a1 a2]
  clear hG
  show G s₁ (mkF m 0 #[.val (.ref a1), .val (.ref a2), .unset] [])
  refine gb (fun _ k => XS.aloadN X0.here hx rfl (hb hby d11_0) rfl rfl (XS.aloadN X0.here hx rfl (hb hby d11_1) rfl rfl (Jvm.RoadKit.acmp (g := (mkF m 2 #[rv a1, rv a2, .unset] [.ref a2, .ref a1])) X0 hx rfl rfl rfl (pc0 := 2) (pc' := 7) (same := false) rfl (hb hby d11_2) rfl (decide_eq_false fun q => hne (Value.ref.inj q)) (by decide) (by decide) (XS.aloadN X0.here hx rfl (hb hby d11_7) rfl rfl k)))) ?_
  show G s₁ (mkF m 8 #[rv a1, rv a2, .unset] [.ref a2])
  obtain ⟨T1, X1, e1, st1⟩ := instY X0 hx hZ hown (ow hw 72 rfl) e0 (Ins.self E_a2) (g := (mkF m 8 #[rv a1, rv a2, .unset] [.ref a2])) rfl rfl (hb hby d11_8)
  refine gb st1 ?_
  show G T1 (mkF m 11 #[rv a1, rv a2, .unset] [.int 1])
  refine gb (fun _ k => XS.ifNo X1.here hx rfl (hb hby d11_11) rfl ((if0 _ _).trans (feq (by decide : ¬ ((1 : Int32) = (0 : Int32)))).1) (XS.aloadN X1.here hx rfl (hb hby d11_14) rfl rfl k)) ?_
  show G T1 (mkF m 15 #[rv a1, rv a2, .unset] [.ref a2])
  obtain ⟨T2, X2, e2, st2⟩ := castY X1 hx hZ hown (ow hw 72 rfl) e1 (Ins.self E_a2) (g := (mkF m 15 #[rv a1, rv a2, .unset] [.ref a2])) rfl rfl (hb hby d11_15)
  refine gb st2 ?_
  show G T2 (mkF m 18 #[rv a1, rv a2, .unset] [.ref a2])
  refine gb (fun _ k => XS.astoreN X2.here hx rfl (hb hby d11_18) rfl rfl (l' := #[rv a1, rv a2, rv a2]) rfl k) ?_
  show G T2 (mkF m 19 #[rv a1, rv a2, rv a2] [])
  obtain ⟨T3, X3, e3, st3⟩ := getS2 X2 hx hZ hown (host := "") (Or.inl (ow hw 29 rfl)) Via.refl e2 (S_cs.ext O.2) (g := (mkF m 19 #[rv a1, rv a2, rv a2] [])) rfl (hb hby d11_19)
  refine gb st3 ?_
  show G T3 (mkF m 22 #[rv a1, rv a2, rv a2] [.int zc])
  refine gb (fun _ k => XS.ifNo X3.here hx rfl (hb hby d11_22) rfl ((if0 _ _).trans (feq hzc).1) (XS.aloadN X3.here hx rfl (hb hby d11_25) rfl rfl k)) ?_
  show G T3 (mkF m 26 #[rv a1, rv a2, rv a2] [.ref a1])
  obtain ⟨T4, X4, e4, st4⟩ := getF X3 hx hZ hown (host := "") (Or.inl (ow hw 28 rfl)) Via.refl e3 F_c1 (g := (mkF m 26 #[rv a1, rv a2, rv a2] [.ref a1])) rfl rfl (hb hby d11_26)
  refine gb st4 ?_
  show G T4 (mkF m 29 #[rv a1, rv a2, rv a2] [.int 0])
  refine gb (fun _ k => XS.aloadN X4.here hx rfl (hb hby d11_29) rfl rfl k) ?_
  show G T4 (mkF m 30 #[rv a1, rv a2, rv a2] [.ref a2, .int 0])
  obtain ⟨T5, X5, e5, st5⟩ := getF X4 hx hZ hown (host := "") (Or.inl (ow hw 28 rfl)) Via.refl e4 F_c2 (g := (mkF m 30 #[rv a1, rv a2, rv a2] [.ref a2, .int 0])) rfl rfl (hb hby d11_30)
  refine gb st5 ?_
  show G T5 (mkF m 33 #[rv a1, rv a2, rv a2] [.int 0, .int 0])
  refine gb (fun _ k => XS.icmpNo X5.here hx rfl (hb hby d11_33) rfl (teq (by decide : (0 : Int32) = (0 : Int32))).2 (XS.aloadN X5.here hx rfl (hb hby d11_36) rfl rfl k)) ?_
  show G T5 (mkF m 37 #[rv a1, rv a2, rv a2] [.ref a1])
  obtain ⟨T6, X6, e6, st6⟩ := getF X5 hx hZ hown (host := "") (Or.inl (ow hw 27 rfl)) Via.refl e5 F_v1 (g := (mkF m 37 #[rv a1, rv a2, rv a2] [.ref a1])) rfl rfl (hb hby d11_37)
  refine gb st6 ?_
  show G T6 (mkF m 40 #[rv a1, rv a2, rv a2] [.ref a3])
  refine gb (fun _ k => XS.aloadN X6.here hx rfl (hb hby d11_40) rfl rfl k) ?_
  show G T6 (mkF m 41 #[rv a1, rv a2, rv a2] [.ref a2, .ref a3])
  obtain ⟨T7, X7, e7, st7⟩ := getF X6 hx hZ hown (host := "") (Or.inl (ow hw 27 rfl)) Via.refl e6 F_v2 (g := (mkF m 41 #[rv a1, rv a2, rv a2] [.ref a2, .ref a3])) rfl rfl (hb hby d11_41)
  refine gb st7 ?_
  show G T7 (mkF m 44 #[rv a1, rv a2, rv a2] [.ref a4, .ref a3])
  obtain ⟨_, _, ⟨T8, Lz8, kz8, nz8⟩, -, X8, ⟨Lc8, hQ8, lq8, yq8, zq8⟩, st8⟩ := Jvm.LawKit.callS X7 hx (y := (⟨"java/lang/StringLatin1", "equals", "([B[B)Z"⟩ : MethodName)) hown (mvT hZ (ow hw 73 rfl)) (mvT hZ (ow hw 74 rfl)) (mvT hZ (ow hw 75 rfl)) (mvT hZ (ow hw 76 rfl)) (by decide) (backOf (W := 0) (rmLE l Z a0 hw [] a3 a4 k3 k4 z3 z4 xs ys h0 n0 O V_a3 V_a4 hz3 hz4) hZ (ow hw 76 rfl) (ow hw 75 rfl) (by decide) (by decide)) (g := (mkF m 44 #[rv a1, rv a2, rv a2] [.ref a4, .ref a3])) rfl (by rw [hml]; rfl) (argsL := [(.ref a3), (.ref a4)]) (rest := []) (lenOf pd_4 rfl) rfl (by show 2 * 0 + _ ≤ _; exact Nat.le_of_eq rfl) (hb hby d11_44) (fun _ _ => ⟨rfl, e7, (by decide : 0 + 0 ≤ _), (by decide : 0 + 0 ≤ _)⟩)
  dsimp only [Pt.U, Pt.locs, Pt.cells, Pt.slots] at X8 lq8 yq8 zq8 st8 hQ8
  subst lq8 yq8 zq8
  obtain ⟨rfl, rfl, e8⟩ := hQ8
  try rw [List.append_nil] at X8
  refine gb st8 ?_
  show G T8 (mkF m 47 #[rv a1, rv a2, rv a2] [.int (if xs = ys then (1 : Int32) else (0 : Int32))])
  by_cases hc47 : (if xs = ys then (1 : Int32) else (0 : Int32)) = (0 : Int32)
  · skip
    refine gb (fun _ k => XS.ifYes X8.here hx rfl (pc0 := 47) (pc' := 54) rfl (hb hby d11_47) rfl ((if0 _ _).trans (teq hc47).1) (by decide) (by decide) (XS.iconst X8.here hx rfl (hb hby d11_54) k)) ?_
    show G T8 (mkF m 55 #[rv a1, rv a2, rv a2] [.int 0])
    exact go X8 (v := (some (.int (0 : Int32)))) (fun h => by rw [Bd.returns] at h; cases h) (fun fs hr => retOut X8 hx Bd.returns rfl (Or.inl ⟨rfl, by simp, _, rfl⟩) (hb hby d11_55) hr) (⟨by rw [hc47], rfl, e8⟩) (by decide) (by decide)
  · skip
    refine gb (fun _ k => XS.ifNo X8.here hx rfl (hb hby d11_47) rfl ((if0 _ _).trans (feq hc47).1) (XS.iconst X8.here hx rfl (hb hby d11_50) (XS.goto X8.here hx rfl (pc0 := 51) (pc' := 55) rfl (hb hby d11_51) (by decide) (by decide) k))) ?_
    show G T8 (mkF m 55 #[rv a1, rv a2, rv a2] [.int 1])
    exact go X8 (v := (some (.int (1 : Int32)))) (fun h => by rw [Bd.returns] at h; cases h) (fun fs hr => retOut X8 hx Bd.returns rfl (Or.inl ⟨rfl, by simp, _, rfl⟩) (hb hby d11_55) hr) (⟨by rw [if_pos (own_e1 hc47)], rfl, e8⟩) (by decide) (by decide)
def Q_rmEqS (Z : State) (a1 : Addr) (h0 : Heap) (n0 : Nat) : Option Value → Heap → List Loc → Prop := fun v h L => v = some (.int (1 : Int32)) ∧ L = [] ∧ h = h0
set_option maxRecDepth 65536 in
set_option maxHeartbeats 40000000 in
theorem rmEqS (l : Launch) (Z : State) (a0 : Array Value) (hw : ∀ d ∈ tables_1, d.before a0 Z = true) (ws : List Jvm.Cond) (a1 : Addr) (h0 : Heap) (n0 : Nat) (O : Old Z n0 h0) :
    MetFree l (⟨"java/lang/String", "equals", "(Ljava/lang/Object;)Z"⟩ : MethodName) (head1 (Jvm.Cond.code (⟨"java/lang/String", "equals", "(Ljava/lang/Object;)Z"⟩ : MethodName) jdk_42_method_66_code 3 (some .boolean) :: ws) ({ frames := 0, cells := 0, slots := 0, locals := 0 } : Room)) (fun a U => a = #[(.ref a1), (.ref a1)] ∧ Z.Warmed39 U.vm ∧ U.heap = h0) (fun _ _ _ _ _ => True) (fun _ U o U' => ∃ v L, o = .returned v ∧ (Q_rmEqS Z a1 h0 n0) v U'.heap L ∧ FrameEnd U o U' L ({ frames := 0, cells := 0, slots := 0, locals := 0 } : Room).cells ({ frames := 0, cells := 0, slots := 0, locals := 0 } : Room).slots) := by
  refine MetFree.of_bodySF (plainFor_of_name pn_1) hisR ?_
  intro p e s m args below meth c s₁ Bd hml0 hP hK
  obtain ⟨rfl, hZ, hh⟩ := hP
  have hx := Bd.exec
  have hby := Bd.bytes
  have hml : c.maxLocals = 3 := hml0
  have hown : s.vm.findClass "java/lang/String" = some m.cls := findClass_of_methodNamed Bd.named
  have hnm := (name_of_methodNamed Bd.named Bd.method).1
  have hlk := BodyLoose.notSynchronized Bd
  have X0 : Stand p l e ({ frames := 0, cells := 0, slots := 0, locals := 0 } : Room) s m #[(.ref a1), (.ref a1)] below meth c s₁ [] 0 0 := Stand.of_body Bd
  have e0 : s₁.heap = h0 := by rw [← hh, Bd.state]; rfl
  have N := Fr.nil n0
  obtain ⟨G, hG⟩ : ∃ G : State → JFrame → Prop, G = OwnG p e below s ({ frames := 0, cells := 0, slots := 0, locals := 0 } : Room).cells ({ frames := 0, cells := 0, slots := 0, locals := 0 } : Room).slots (Q_rmEqS Z a1 h0 n0) := ⟨_, rfl⟩
  have gb : ∀ {T T' : State} {g g' : JFrame}, (∀ t, Steps p.tables e below (T'.setTop g') t → Steps p.tables e below (T.setTop g) t) → G T' g' → G T g := by subst hG; exact fun k h => own_by k h
  have go : ∀ {T : State} {locs : List Loc} {cells slots : Nat} {g : JFrame} {v : Option Value}, Stand p l e ({ frames := 0, cells := 0, slots := 0, locals := 0 } : Room) s m #[(.ref a1), (.ref a1)] below meth c T locs cells slots → (meth.sig.returnType = none → v = none) → (∀ fs, (∀ (f : JFrame) (acts : List Action), f.method = m → f.locked = none → f.entered = [] → (doReturn e (T.setTop f) acts v).1 = T.setFrames fs) → Steps p.tables e below (T.setTop g) (T.setFrames fs)) → (Q_rmEqS Z a1 h0 n0) v T.heap locs → cells ≤ ({ frames := 0, cells := 0, slots := 0, locals := 0 } : Room).cells → slots ≤ ({ frames := 0, cells := 0, slots := 0, locals := 0 } : Room).slots → G T g := by subst hG; exact fun X h1 h2 h3 h4 h5 => own_out X hlk h1 h2 h3 h4 h5
  show OwnG p e below s ({ frames := 0, cells := 0, slots := 0, locals := 0 } : Room).cells ({ frames := 0, cells := 0, slots := 0, locals := 0 } : Room).slots (Q_rmEqS Z a1 h0 n0) s₁ (entryFrame m #[(.ref a1), (.ref a1)] 3)
  rw [← hG, ef_rmEqS m a1 a1]
  clear hG
  show G s₁ (mkF m 0 #[.val (.ref a1), .val (.ref a1), .unset] [])
  refine gb (fun _ k => XS.aloadN X0.here hx rfl (hb hby d11_0) rfl rfl (XS.aloadN X0.here hx rfl (hb hby d11_1) rfl rfl (Jvm.RoadKit.acmp (g := (mkF m 2 #[rv a1, rv a1, .unset] [.ref a1, .ref a1])) X0 hx rfl rfl rfl (pc0 := 2) (pc' := 5) (same := true) rfl (hb hby d11_2) rfl (decide_eq_true rfl) (by decide) (by decide) (XS.iconst X0.here hx rfl (hb hby d11_5) k)))) ?_
  show G s₁ (mkF m 6 #[rv a1, rv a1, .unset] [.int 1])
  exact go X0 (v := (some (.int (1 : Int32)))) (fun h => by rw [Bd.returns] at h; cases h) (fun fs hr => retOut X0 hx Bd.returns rfl (Or.inl ⟨rfl, by simp, _, rfl⟩) (hb hby d11_6) hr) (⟨rfl, rfl, e0⟩) (by decide) (by decide)
def Q_rmM (Z : State) (p0 c0 c1 : Int32) (h0 : Heap) (n0 : Nat) (zc : Int32) : Option Value → Heap → List Loc → Prop := fun v h L => ∃ (x b : Addr) (kb : ClassId) (z : Int32) (xs : List Int32), v = some (.ref x) ∧ Fr n0 L ∧ Keep h0 h [] ∧ Exa Z h x "java/lang/String" ∧ Fld Z h x "java/lang/String" "coder" "B" (.int (0 : Int32)) ∧ Fld Z h x "java/lang/String" "value" "[B" (.ref b) ∧ n0 ≤ x ∧ h0.size ≤ x ∧ Arv Z h b kb .byte z (xs.map Value.int) (.int (0 : Int32)) ∧ z.toNatClampNeg = xs.length ∧ xs = own_bs p0 c0 c1
set_option maxRecDepth 65536 in
set_option maxHeartbeats 40000000 in
theorem rmM (l : Launch) (Z : State) (a0 : Array Value) (hw : ∀ d ∈ tables_1, d.before a0 Z = true) (ws : List Jvm.Cond) (p0 c0 c1 : Int32) (h0 : Heap) (n0 : Nat) (O : Old Z n0 h0) (zc : Int32) (S_cs : Sta Z Z.heap "java/lang/String" "COMPACT_STRINGS" "Z" (.int zc)) (hzc : ¬ zc = (0 : Int32)) (hEL : EW Z a0 [("java/lang/String", 7)]) (hb0 : ¬ ((255 : Int32) < c0)) (hg0 : ¬ (c0 < (0 : Int32))) (hb1 : ¬ ((255 : Int32) < c1)) (hg1 : ¬ (c1 < (0 : Int32))) :
    MetFree l (⟨"com/example/equipe/equipe/JobResultEqualsPinLaw", "mk", "(ICC)Ljava/lang/String;"⟩ : MethodName) (head1 (Jvm.Cond.code (⟨"com/example/equipe/equipe/JobResultEqualsPinLaw", "mk", "(ICC)Ljava/lang/String;"⟩ : MethodName) method_2_code 3 (some (.object "java/lang/String")) :: ws) ({ frames := 4, cells := 6, slots := 12, locals := 66 } : Room)) (fun a U => a = #[(.int p0), (.int c0), (.int c1)] ∧ Z.Warmed39 U.vm ∧ U.heap = h0 ∧ CHv Z [("java/lang/String", 7)] U.vm h0) (fun _ _ _ _ _ => True) (fun _ U o U' => ∃ v L, o = .returned v ∧ (Q_rmM Z p0 c0 c1 h0 n0 zc) v U'.heap L ∧ CHr Z [("java/lang/String", 7)] U.vm U.heap U'.vm U'.heap ∧ ReturnedEndW U o U' L ({ frames := 4, cells := 6, slots := 12, locals := 66 } : Room).cells ({ frames := 4, cells := 6, slots := 12, locals := 66 } : Room).slots) := by
  refine MetFree.of_bodySF (plainFor_of_name pn_3) hisR ?_
  intro p e s m args below meth c s₁ Bd hml0 hP hK
  obtain ⟨rfl, hZ, hh, hHC⟩ := hP
  have hx := Bd.exec
  have hby := Bd.bytes
  have hml : c.maxLocals = 3 := hml0
  have hown : s.vm.findClass "com/example/equipe/equipe/JobResultEqualsPinLaw" = some m.cls := findClass_of_methodNamed Bd.named
  have hnm := (name_of_methodNamed Bd.named Bd.method).1
  have hlk := BodyLoose.notSynchronized Bd
  have X0 : Stand p l e ({ frames := 4, cells := 6, slots := 12, locals := 66 } : Room) (s.setVm s.vm) m #[(.int p0), (.int c0), (.int c1)] below meth c s₁ [] 0 0 := Stand.of_body Bd
  have e0 : s₁.heap = h0 := by rw [← hh, Bd.state]; rfl
  have N := Fr.nil n0
  have hS : s.Since s.vm h0.size := (State.WarmedH.refl s).since _
  have hk := Nat.le_refl h0.size
  have HR : CHr Z [("java/lang/String", 7)] s.vm h0 s.vm h0 := CHr.refl hHC
  have K := Keep.refl h0 []
  obtain ⟨G, hG⟩ : ∃ G : State → JFrame → Prop, G = OwnGH p e below s Z [("java/lang/String", 7)] ({ frames := 4, cells := 6, slots := 12, locals := 66 } : Room).cells ({ frames := 4, cells := 6, slots := 12, locals := 66 } : Room).slots (Q_rmM Z p0 c0 c1 h0 n0 zc) := ⟨_, rfl⟩
  have gb : ∀ {T T' : State} {g g' : JFrame}, (∀ t, Steps p.tables e below (T'.setTop g') t → Steps p.tables e below (T.setTop g) t) → G T' g' → G T g := by subst hG; exact fun k h => own_byH k h
  have go : ∀ {T : State} {locs : List Loc} {cells slots : Nat} {g : JFrame} {v : Option Value} {vm : Vm} {k : Nat}, Stand p l e ({ frames := 4, cells := 6, slots := 12, locals := 66 } : Room) (s.setVm vm) m #[(.int p0), (.int c0), (.int c1)] below meth c T locs cells slots → s.Since vm k → k ≤ T.heap.size → CHr Z [("java/lang/String", 7)] s.vm h0 vm T.heap → Z.Warmed39 vm → (meth.sig.returnType = none → v = none) → (∀ fs, (∀ (f : JFrame) (acts : List Action), f.method = m → f.locked = none → f.entered = [] → (doReturn e (T.setTop f) acts v).1 = T.setFrames fs) → Steps p.tables e below (T.setTop g) (T.setFrames fs)) → (Q_rmM Z p0 c0 c1 h0 n0 zc) v T.heap locs → cells ≤ ({ frames := 4, cells := 6, slots := 12, locals := 66 } : Room).cells → slots ≤ ({ frames := 4, cells := 6, slots := 12, locals := 66 } : Room).slots → G T g := by subst hG; exact fun X a b c' d h1 h2 h3 h4 h5 => own_outH X hh hEL a b c' d hlk h1 h2 h3 h4 h5
  show OwnGH p e below s Z [("java/lang/String", 7)] ({ frames := 4, cells := 6, slots := 12, locals := 66 } : Room).cells ({ frames := 4, cells := 6, slots := 12, locals := 66 } : Room).slots (Q_rmM Z p0 c0 c1 h0 n0 zc) s₁ (entryFrame m #[(.int p0), (.int c0), (.int c1)] 3)
  rw [← hG, ef_rmM m p0 c0 c1]
  clear hG
  show G s₁ (mkF m 0 #[.val (.int p0), .val (.int c0), .val (.int c1)] [])
  refine gb (fun _ k => XS.iloadN X0.here hx rfl (hb hby d1_0) rfl k) ?_
  show G s₁ (mkF m 1 #[iv p0, iv c0, iv c1] [.int p0])
  by_cases hc1 : p0 = (0 : Int32)
  · skip
    refine gb (fun _ k => XS.ifNo X0.here hx rfl (hb hby d1_1) rfl ((if0 _ _).trans (teq hc1).2) k) ?_
    show G s₁ (mkF m 4 #[iv p0, iv c0, iv c1] [])
    obtain ⟨T1, h1, X1, e1, E1, A1, D1, U1, st1⟩ := newO X0 hx hZ hown (ow hw 7 rfl) (ow hw 8 rfl) (ow hw 9 rfl) e0 (g := (mkF m 4 #[iv p0, iv c0, iv c1] [])) rfl (hb hby d1_4) (by decide) (by decide)
    obtain ⟨b1, g1⟩ : ∃ z, z = h0.size := ⟨_, rfl⟩
    rw [← g1] at A1 D1 U1 st1
    have g_b1 : n0 ≤ b1 := Nat.le_trans (by have := O.2.1; rw [O.1] at this; exact this) (Nat.le_of_eq g1.symm)
    have sz_b1 : h0.size ≤ b1 := Nat.le_trans K.1 (Nat.le_of_eq g1.symm)
    have Sf_b1 := Safe.ext E1 HR.1 (Safe.new (x := b1) (Nat.le_of_eq g1.symm))
    have HR := HR.trans (CHr.ext E1 HR.1)
    have O := O.ext E1
    have hk := Nat.le_trans hk E1.1
    have K := K.ext E1
    have E_b1 := A1
    have F_value_b1 : Fld Z h1 b1 "java/lang/String" "value" "[B" .null := D1 (Or.inr (ow hw 23 rfl)) (ty := (.array .byte)) (by decide)
    have F_coder_b1 : Fld Z h1 b1 "java/lang/String" "coder" "B" (.int (0 : Int32)) := D1 (Or.inr (ow hw 24 rfl)) (ty := .byte) (by decide)
    refine gb st1 ?_
    show G T1 (mkF m 7 #[iv p0, iv c0, iv c1] [.ref b1])
    refine gb (fun _ k => XS.dup X1.here hx rfl (hb hby d1_7) rfl rfl (XS.iconst X1.here hx rfl (hb hby d1_8) k)) ?_
    show G T1 (mkF m 9 #[iv p0, iv c0, iv c1] [.int 0, .ref b1, .ref b1])
    obtain ⟨T2, h2, kA2, X2, e2, E2, A2, st2⟩ := newP X1 hx hZ (ow hw 10 rfl) e1 (g := (mkF m 9 #[iv p0, iv c0, iv c1] [.int 0, .ref b1, .ref b1])) rfl (hb hby d1_9) rfl (by decide) (cap := 0) (by decide) (by decide) (by decide) (by decide)
    obtain ⟨b2, g2⟩ : ∃ z, z = h1.size := ⟨_, rfl⟩
    rw [← g2] at A2 st2
    have g_b2 : n0 ≤ b2 := Nat.le_trans (by have := O.2.1; rw [O.1] at this; exact this) (Nat.le_of_eq g2.symm)
    have sz_b2 : h0.size ≤ b2 := Nat.le_trans K.1 (Nat.le_of_eq g2.symm)
    have ne_b1_b2 : b1 ≠ b2 := Nat.ne_of_lt (Nat.lt_of_lt_of_le E_b1.lt (Nat.le_of_eq g2.symm))
    have Sf_b1 := Safe.ext E2 HR.1 Sf_b1
    have HR := HR.trans (CHr.ext E2 HR.1)
    have E_b1 := E_b1.ext E2
    have F_value_b1 := F_value_b1.ext E2
    have F_coder_b1 := F_coder_b1.ext E2
    have O := O.ext E2
    have hk := Nat.le_trans hk E2.1
    have K := K.ext E2
    have V_b2 : Arv Z h2 b2 kA2 .char (0 : Int32) [] (.int (0 : Int32)) := (Arv.new A2 (by decide)).pad (pad_rep [] (.int (0 : Int32)) 0)
    refine gb st2 ?_
    show G T2 (mkF m 11 #[iv p0, iv c0, iv c1] [.ref b2, .ref b1, .ref b1])
    have ltS_b1 := E_b1.lt
    obtain ⟨_, _, ⟨T3, Lz3, kz3, nz3⟩, -, X3, hS3, hg3, ⟨Lc3, hQ3, lq3, yq3, zq3, hC3⟩, st3⟩ := X2.specialBackS hx (y := (⟨"java/lang/String", "<init>", "([C)V"⟩ : MethodName)) rfl hown (mvT hZ (ow hw 11 rfl)) (mvT hZ (ow hw 12 rfl)) (mvT hZ (ow hw 13 rfl)) (by decide) (backOfSH (W := 1) (rmS1_0 l Z a0 hw [] b1 b2 kA2 h2 n0 O hEL E_b1 F_coder_b1 F_value_b1 g_b1 V_b2 (Ne.symm ne_b1_b2)) hZ (ow hw 13 rfl) (ow hw 9 rfl) (by decide) (by decide) hEL HR.1) (g := (mkF m 11 #[iv p0, iv c0, iv c1] [.ref b2, .ref b1, .ref b1])) rfl (by rw [hml]; rfl) (Steps.refl _) (a := b1) (argsL := [(.ref b2)]) (rest := [(.ref b1)]) (lenOf pd_5 rfl) rfl (by show 2 * 0 + _ ≤ _; exact Nat.le_of_eq rfl) (hb hby d1_11) (fun _ _ => ⟨rfl, e2, (by decide : 2 + 4 ≤ _), (by decide : 4 + 8 ≤ _)⟩)
    dsimp only [Pt.U, Pt.locs, Pt.cells, Pt.slots] at X3 lq3 yq3 zq3 st3 hQ3 hS3 hg3 hC3
    subst lq3 yq3 zq3
    obtain ⟨X3, hS, hZ, hown⟩ := rebS hS (Nat.le_trans hk (Nat.le_of_eq (congrArg Array.size e2.symm))) X3 hS3 hg3 hZ hown
    obtain ⟨h3, e3⟩ : ∃ z, z = T3.heap := ⟨_, rfl⟩
    rw [← e3] at hQ3 hC3
    replace e3 := e3.symm
    obtain ⟨b3, kb3, rfl, Nq3, Kq3, hR3⟩ := hQ3
    have N := Fr.app N Nq3
    have Sf_b1 := hC3.safe ltS_b1 Sf_b1
    have HR := HR.trans hC3
    have E_b1 := E_b1.keep Kq3
    have V_b2 := V_b2.keep Kq3 (ninS (Ne.symm ne_b1_b2) nin0)
    have hk := Nat.le_trans hk Kq3.1
    have hk : T3.heap.size ≤ h3.size := by rw [e3]; exact Nat.le_refl _
    obtain ⟨E_b1, F_coder_b1, F_value_b1, V_b3⟩ := hR3
    have O := O.keep Kq3 (allS g_b1 all0)
    have K := K.trans Kq3 (allS (Or.inr sz_b1) all0)
    refine gb (fun _ k => st3.trans k) ?_
    show G T3 (mkF m 14 #[iv p0, iv c0, iv c1] [.ref b1])
    exact go X3 hS (Nat.le_trans hk (Nat.le_of_eq (congrArg Array.size e3.symm))) (by rw [e3]; exact HR) hZ (v := (some (.ref b1))) (fun h => by rw [Bd.returns] at h; cases h) (fun fs hr => retOut X3 hx Bd.returns rfl (Or.inr (Or.inr (Or.inr (Or.inr ⟨rfl, rfl, rfl⟩)))) (hb hby d1_14) hr) (by rw [e3]; exact ⟨b1, b3, kb3, (0 : Int32), [], rfl, N, K, E_b1, F_coder_b1, F_value_b1, g_b1, sz_b1, V_b3, rfl, by unfold own_bs; rw [if_pos hc1]⟩) (by decide) (by decide)
  · skip
    refine gb (fun _ k => XS.ifYes X0.here hx rfl (pc0 := 1) (pc' := 15) rfl (hb hby d1_1) rfl ((if0 _ _).trans (feq hc1).2) (by decide) (by decide) (XS.iloadN X0.here hx rfl (hb hby d1_15) rfl (XS.iconst X0.here hx rfl (hb hby d1_16) k))) ?_
    show G s₁ (mkF m 17 #[iv p0, iv c0, iv c1] [.int 1, .int p0])
    by_cases hc17 : p0 = (1 : Int32)
    · skip
      refine gb (fun _ k => XS.icmpNo X0.here hx rfl (hb hby d1_17) rfl (teq hc17).2 k) ?_
      show G s₁ (mkF m 20 #[iv p0, iv c0, iv c1] [])
      obtain ⟨T4, h4, X4, e4, E4, A4, D4, U4, st4⟩ := newO X0 hx hZ hown (ow hw 7 rfl) (ow hw 8 rfl) (ow hw 9 rfl) e0 (g := (mkF m 20 #[iv p0, iv c0, iv c1] [])) rfl (hb hby d1_20) (by decide) (by decide)
      obtain ⟨b4, g4⟩ : ∃ z, z = h0.size := ⟨_, rfl⟩
      rw [← g4] at A4 D4 U4 st4
      have g_b4 : n0 ≤ b4 := Nat.le_trans (by have := O.2.1; rw [O.1] at this; exact this) (Nat.le_of_eq g4.symm)
      have sz_b4 : h0.size ≤ b4 := Nat.le_trans K.1 (Nat.le_of_eq g4.symm)
      have Sf_b4 := Safe.ext E4 HR.1 (Safe.new (x := b4) (Nat.le_of_eq g4.symm))
      have HR := HR.trans (CHr.ext E4 HR.1)
      have O := O.ext E4
      have hk := Nat.le_trans hk E4.1
      have K := K.ext E4
      have E_b4 := A4
      have F_value_b4 : Fld Z h4 b4 "java/lang/String" "value" "[B" .null := D4 (Or.inr (ow hw 23 rfl)) (ty := (.array .byte)) (by decide)
      have F_coder_b4 : Fld Z h4 b4 "java/lang/String" "coder" "B" (.int (0 : Int32)) := D4 (Or.inr (ow hw 24 rfl)) (ty := .byte) (by decide)
      refine gb st4 ?_
      show G T4 (mkF m 23 #[iv p0, iv c0, iv c1] [.ref b4])
      refine gb (fun _ k => XS.dup X4.here hx rfl (hb hby d1_23) rfl rfl (XS.iconst X4.here hx rfl (hb hby d1_24) k)) ?_
      show G T4 (mkF m 25 #[iv p0, iv c0, iv c1] [.int 1, .ref b4, .ref b4])
      obtain ⟨T5, h5, kA5, X5, e5, E5, A5, st5⟩ := newP X4 hx hZ (ow hw 10 rfl) e4 (g := (mkF m 25 #[iv p0, iv c0, iv c1] [.int 1, .ref b4, .ref b4])) rfl (hb hby d1_25) rfl (by decide) (cap := 1) (by decide) (by decide) (by decide) (by decide)
      obtain ⟨b5, g5⟩ : ∃ z, z = h4.size := ⟨_, rfl⟩
      rw [← g5] at A5 st5
      have g_b5 : n0 ≤ b5 := Nat.le_trans (by have := O.2.1; rw [O.1] at this; exact this) (Nat.le_of_eq g5.symm)
      have sz_b5 : h0.size ≤ b5 := Nat.le_trans K.1 (Nat.le_of_eq g5.symm)
      have ne_b4_b5 : b4 ≠ b5 := Nat.ne_of_lt (Nat.lt_of_lt_of_le E_b4.lt (Nat.le_of_eq g5.symm))
      have Sf_b4 := Safe.ext E5 HR.1 Sf_b4
      have HR := HR.trans (CHr.ext E5 HR.1)
      have E_b4 := E_b4.ext E5
      have F_value_b4 := F_value_b4.ext E5
      have F_coder_b4 := F_coder_b4.ext E5
      have O := O.ext E5
      have hk := Nat.le_trans hk E5.1
      have K := K.ext E5
      have V_b5 : Arv Z h5 b5 kA5 .char (1 : Int32) [(.int (0 : Int32))] (.int (0 : Int32)) := (Arv.new A5 (by decide)).pad (pad_rep [] (.int (0 : Int32)) 1)
      refine gb st5 ?_
      show G T5 (mkF m 27 #[iv p0, iv c0, iv c1] [.ref b5, .ref b4, .ref b4])
      refine gb (fun _ k => XS.dup X5.here hx rfl (hb hby d1_27) rfl rfl (XS.iconst X5.here hx rfl (hb hby d1_28) (XS.iloadN X5.here hx rfl (hb hby d1_29) rfl k))) ?_
      show G T5 (mkF m 30 #[iv p0, iv c0, iv c1] [.int c0, .int 0, .ref b5, .ref b5, .ref b4, .ref b4])
      have V'6 := V_b5
      obtain ⟨cl6, Ar6, qk6, sz6, nn6, hs6, ft6⟩ := V'6
      have hin6 : ¬ ((0 : Int32) < 0 ∨ cl6.slots.size ≤ ((0 : Int32)).toNatClampNeg) := inb_of sz6 ⟨by decide, by decide⟩
      have Sw7 : Safe Z [("java/lang/String", 7)] _ _ b5 := (Safe.arv hZ.alike V_b5 (by decide))
      obtain ⟨T7, h7, X7, e7, W7, st7⟩ := stC X5 hx hZ e5 Ar6 (j := (0 : Int32)) hin6 (g := (mkF m 30 #[iv p0, iv c0, iv c1] [.int c0, .int 0, .ref b5, .ref b5, .ref b4, .ref b4])) rfl rfl (hb hby d1_30)
      have V_b5 : Arv Z h7 b5 kA5 .char (1 : Int32) [(.int (nar .char c0))] (.int (0 : Int32)) := Arv.set Ar6 qk6 sz6 nn6 hs6 ft6 (fits_nar_char _) W7 0 rfl (Nat.le_of_ble_eq_true rfl)
      rw [own_nc hg0 hb0] at V_b5
      have Sf_b4 := Safe.wr W7 Sw7 HR.1 Sf_b4
      have HR := HR.trans (CHr.wr W7 Sw7 HR.1)
      have E_b4 := E_b4.wr W7
      have F_value_b4 := F_value_b4.other W7 (Or.inl ne_b4_b5)
      have F_coder_b4 := F_coder_b4.other W7 (Or.inl ne_b4_b5)
      have O := O.wr W7 g_b5
      have hk := Nat.le_trans hk (Keep.of_wr W7).1
      have K := K.wr W7 (Or.inr sz_b5)
      have N := Fr.snoc X7 N g_b5
      refine gb st7 ?_
      show G T7 (mkF m 31 #[iv p0, iv c0, iv c1] [.ref b5, .ref b4, .ref b4])
      have lt_b4 := E_b4.lt
      have lt_b5 := V_b5.lt
      have szK := K.1
      have Sk8 : ∀ x ∈ [b4], Safe Z [("java/lang/String", 7)] _ _ x := (sfS Sf_b4 sf0)
      obtain ⟨_, _, ⟨T8, Lz8, kz8, nz8⟩, -, X8, ⟨Lc8, hQ8, lq8, yq8, zq8⟩, st8⟩ := X7.specialBack hx (y := (⟨"java/lang/String", "<init>", "([C)V"⟩ : MethodName)) rfl hown (mvT hZ (ow hw 11 rfl)) (mvT hZ (ow hw 12 rfl)) (mvT hZ (ow hw 13 rfl)) (by decide) (backOf (W := 1) (rmS1_1 l Z a0 hw [] b4 b5 kA5 c0 h7 n0 O E_b4 F_coder_b4 F_value_b4 g_b4 V_b5 (Ne.symm ne_b4_b5) hb0 zc S_cs hzc) hZ (ow hw 13 rfl) (ow hw 9 rfl) (by decide) (by decide)) (g := (mkF m 31 #[iv p0, iv c0, iv c1] [.ref b5, .ref b4, .ref b4])) rfl (by rw [hml]; rfl) (Steps.refl _) (a := b4) (argsL := [(.ref b5)]) (rest := [(.ref b4)]) (lenOf pd_5 rfl) rfl (by show 2 * 0 + _ ≤ _; exact Nat.le_of_eq rfl) (hb hby d1_31) (fun _ _ => ⟨rfl, e7, (by decide : 2 + 1 ≤ _), (by decide : 5 + 1 ≤ _)⟩)
      dsimp only [Pt.U, Pt.locs, Pt.cells, Pt.slots] at X8 lq8 yq8 zq8 st8 hQ8
      subst lq8 yq8 zq8
      obtain ⟨h8, e8⟩ : ∃ z, z = T8.heap := ⟨_, rfl⟩
      rw [← e8] at hQ8
      replace e8 := e8.symm
      obtain ⟨b8, kb8, rfl, Nq8, Kq8, hR8⟩ := hQ8
      have N := Fr.app N Nq8
      have Sf_b4 := Safe.keep Kq8 Sk8 HR.1 Sf_b4
      have HR := HR.trans (CHr.keep Kq8 Sk8 HR.1)
      have E_b4 := E_b4.keep Kq8
      have V_b5 := V_b5.keep Kq8 (ninS (Ne.symm ne_b4_b5) nin0)
      have hk := Nat.le_trans hk Kq8.1
      obtain ⟨E_b4, F_coder_b4, F_value_b4, g_b8, sz_b8, V_b8⟩ := hR8
      have O := O.keep Kq8 (allS g_b4 all0)
      have K := K.trans Kq8 (allS (Or.inr sz_b4) all0)
      have ne_b4_b8 : b4 ≠ b8 := Nat.ne_of_lt (Nat.lt_of_lt_of_le lt_b4 sz_b8)
      have ne_b5_b8 : b5 ≠ b8 := Nat.ne_of_lt (Nat.lt_of_lt_of_le lt_b5 sz_b8)
      have sz_b8 := Nat.le_trans szK sz_b8
      refine gb (fun _ k => st8.trans k) ?_
      show G T8 (mkF m 34 #[iv p0, iv c0, iv c1] [.ref b4])
      exact go X8 hS (Nat.le_trans hk (Nat.le_of_eq (congrArg Array.size e8.symm))) (by rw [e8]; exact HR) hZ (v := (some (.ref b4))) (fun h => by rw [Bd.returns] at h; cases h) (fun fs hr => retOut X8 hx Bd.returns rfl (Or.inr (Or.inr (Or.inr (Or.inr ⟨rfl, rfl, rfl⟩)))) (hb hby d1_34) hr) (by rw [e8]; exact ⟨b4, b8, kb8, (1 : Int32), [(nar .byte (c0.toInt8.toInt32))], rfl, N, K, E_b4, F_coder_b4, F_value_b4, g_b4, sz_b4, V_b8, rfl, by unfold own_bs; rw [if_neg hc1, if_pos hc17]⟩) (by decide) (by decide)
    · skip
      refine gb (fun _ k => XS.icmpYes X0.here hx rfl (pc0 := 17) (pc' := 35) rfl (hb hby d1_17) rfl (feq hc17).2 (by decide) (by decide) k) ?_
      show G s₁ (mkF m 35 #[iv p0, iv c0, iv c1] [])
      obtain ⟨T9, h9, X9, e9, E9, A9, D9, U9, st9⟩ := newO X0 hx hZ hown (ow hw 7 rfl) (ow hw 8 rfl) (ow hw 9 rfl) e0 (g := (mkF m 35 #[iv p0, iv c0, iv c1] [])) rfl (hb hby d1_35) (by decide) (by decide)
      obtain ⟨b9, g9⟩ : ∃ z, z = h0.size := ⟨_, rfl⟩
      rw [← g9] at A9 D9 U9 st9
      have g_b9 : n0 ≤ b9 := Nat.le_trans (by have := O.2.1; rw [O.1] at this; exact this) (Nat.le_of_eq g9.symm)
      have sz_b9 : h0.size ≤ b9 := Nat.le_trans K.1 (Nat.le_of_eq g9.symm)
      have Sf_b9 := Safe.ext E9 HR.1 (Safe.new (x := b9) (Nat.le_of_eq g9.symm))
      have HR := HR.trans (CHr.ext E9 HR.1)
      have O := O.ext E9
      have hk := Nat.le_trans hk E9.1
      have K := K.ext E9
      have E_b9 := A9
      have F_value_b9 : Fld Z h9 b9 "java/lang/String" "value" "[B" .null := D9 (Or.inr (ow hw 23 rfl)) (ty := (.array .byte)) (by decide)
      have F_coder_b9 : Fld Z h9 b9 "java/lang/String" "coder" "B" (.int (0 : Int32)) := D9 (Or.inr (ow hw 24 rfl)) (ty := .byte) (by decide)
      refine gb st9 ?_
      show G T9 (mkF m 38 #[iv p0, iv c0, iv c1] [.ref b9])
      refine gb (fun _ k => XS.dup X9.here hx rfl (hb hby d1_38) rfl rfl (XS.iconst X9.here hx rfl (hb hby d1_39) k)) ?_
      show G T9 (mkF m 40 #[iv p0, iv c0, iv c1] [.int 2, .ref b9, .ref b9])
      obtain ⟨T10, h10, kA10, X10, e10, E10, A10, st10⟩ := newP X9 hx hZ (ow hw 10 rfl) e9 (g := (mkF m 40 #[iv p0, iv c0, iv c1] [.int 2, .ref b9, .ref b9])) rfl (hb hby d1_40) rfl (by decide) (cap := 2) (by decide) (by decide) (by decide) (by decide)
      obtain ⟨b10, g10⟩ : ∃ z, z = h9.size := ⟨_, rfl⟩
      rw [← g10] at A10 st10
      have g_b10 : n0 ≤ b10 := Nat.le_trans (by have := O.2.1; rw [O.1] at this; exact this) (Nat.le_of_eq g10.symm)
      have sz_b10 : h0.size ≤ b10 := Nat.le_trans K.1 (Nat.le_of_eq g10.symm)
      have ne_b9_b10 : b9 ≠ b10 := Nat.ne_of_lt (Nat.lt_of_lt_of_le E_b9.lt (Nat.le_of_eq g10.symm))
      have Sf_b9 := Safe.ext E10 HR.1 Sf_b9
      have HR := HR.trans (CHr.ext E10 HR.1)
      have E_b9 := E_b9.ext E10
      have F_value_b9 := F_value_b9.ext E10
      have F_coder_b9 := F_coder_b9.ext E10
      have O := O.ext E10
      have hk := Nat.le_trans hk E10.1
      have K := K.ext E10
      have V_b10 : Arv Z h10 b10 kA10 .char (2 : Int32) [(.int (0 : Int32)), (.int (0 : Int32))] (.int (0 : Int32)) := (Arv.new A10 (by decide)).pad (pad_rep [] (.int (0 : Int32)) 2)
      refine gb st10 ?_
      show G T10 (mkF m 42 #[iv p0, iv c0, iv c1] [.ref b10, .ref b9, .ref b9])
      refine gb (fun _ k => XS.dup X10.here hx rfl (hb hby d1_42) rfl rfl (XS.iconst X10.here hx rfl (hb hby d1_43) (XS.iloadN X10.here hx rfl (hb hby d1_44) rfl k))) ?_
      show G T10 (mkF m 45 #[iv p0, iv c0, iv c1] [.int c0, .int 0, .ref b10, .ref b10, .ref b9, .ref b9])
      have V'11 := V_b10
      obtain ⟨cl11, Ar11, qk11, sz11, nn11, hs11, ft11⟩ := V'11
      have hin11 : ¬ ((0 : Int32) < 0 ∨ cl11.slots.size ≤ ((0 : Int32)).toNatClampNeg) := inb_of sz11 ⟨by decide, by decide⟩
      have Sw12 : Safe Z [("java/lang/String", 7)] _ _ b10 := (Safe.arv hZ.alike V_b10 (by decide))
      obtain ⟨T12, h12, X12, e12, W12, st12⟩ := stC X10 hx hZ e10 Ar11 (j := (0 : Int32)) hin11 (g := (mkF m 45 #[iv p0, iv c0, iv c1] [.int c0, .int 0, .ref b10, .ref b10, .ref b9, .ref b9])) rfl rfl (hb hby d1_45)
      have V_b10 : Arv Z h12 b10 kA10 .char (2 : Int32) [(.int (nar .char c0)), (.int (0 : Int32))] (.int (0 : Int32)) := Arv.set Ar11 qk11 sz11 nn11 hs11 ft11 (fits_nar_char _) W12 0 rfl (Nat.le_of_ble_eq_true rfl)
      rw [own_nc hg0 hb0] at V_b10
      have Sf_b9 := Safe.wr W12 Sw12 HR.1 Sf_b9
      have HR := HR.trans (CHr.wr W12 Sw12 HR.1)
      have E_b9 := E_b9.wr W12
      have F_value_b9 := F_value_b9.other W12 (Or.inl ne_b9_b10)
      have F_coder_b9 := F_coder_b9.other W12 (Or.inl ne_b9_b10)
      have O := O.wr W12 g_b10
      have hk := Nat.le_trans hk (Keep.of_wr W12).1
      have K := K.wr W12 (Or.inr sz_b10)
      have N := Fr.snoc X12 N g_b10
      refine gb st12 ?_
      show G T12 (mkF m 46 #[iv p0, iv c0, iv c1] [.ref b10, .ref b9, .ref b9])
      refine gb (fun _ k => XS.dup X12.here hx rfl (hb hby d1_46) rfl rfl (XS.iconst X12.here hx rfl (hb hby d1_47) (XS.iloadN X12.here hx rfl (hb hby d1_48) rfl k))) ?_
      show G T12 (mkF m 49 #[iv p0, iv c0, iv c1] [.int c1, .int 1, .ref b10, .ref b10, .ref b9, .ref b9])
      have V'13 := V_b10
      obtain ⟨cl13, Ar13, qk13, sz13, nn13, hs13, ft13⟩ := V'13
      have hin13 : ¬ ((1 : Int32) < 0 ∨ cl13.slots.size ≤ ((1 : Int32)).toNatClampNeg) := inb_of sz13 ⟨by decide, by decide⟩
      have Sw14 : Safe Z [("java/lang/String", 7)] _ _ b10 := (Safe.arv hZ.alike V_b10 (by decide))
      obtain ⟨T14, h14, X14, e14, W14, st14⟩ := stC X12 hx hZ e12 Ar13 (j := (1 : Int32)) hin13 (g := (mkF m 49 #[iv p0, iv c0, iv c1] [.int c1, .int 1, .ref b10, .ref b10, .ref b9, .ref b9])) rfl rfl (hb hby d1_49)
      have V_b10 : Arv Z h14 b10 kA10 .char (2 : Int32) [(.int c0), (.int (nar .char c1))] (.int (0 : Int32)) := Arv.set Ar13 qk13 sz13 nn13 hs13 ft13 (fits_nar_char _) W14 1 rfl (Nat.le_of_ble_eq_true rfl)
      rw [own_nc hg1 hb1] at V_b10
      have Sf_b9 := Safe.wr W14 Sw14 HR.1 Sf_b9
      have HR := HR.trans (CHr.wr W14 Sw14 HR.1)
      have E_b9 := E_b9.wr W14
      have F_value_b9 := F_value_b9.other W14 (Or.inl ne_b9_b10)
      have F_coder_b9 := F_coder_b9.other W14 (Or.inl ne_b9_b10)
      have O := O.wr W14 g_b10
      have hk := Nat.le_trans hk (Keep.of_wr W14).1
      have K := K.wr W14 (Or.inr sz_b10)
      have N := Fr.snoc X14 N g_b10
      refine gb st14 ?_
      show G T14 (mkF m 50 #[iv p0, iv c0, iv c1] [.ref b10, .ref b9, .ref b9])
      have lt_b9 := E_b9.lt
      have lt_b10 := V_b10.lt
      have szK := K.1
      have Sk15 : ∀ x ∈ [b9], Safe Z [("java/lang/String", 7)] _ _ x := (sfS Sf_b9 sf0)
      obtain ⟨_, _, ⟨T15, Lz15, kz15, nz15⟩, -, X15, ⟨Lc15, hQ15, lq15, yq15, zq15⟩, st15⟩ := X14.specialBack hx (y := (⟨"java/lang/String", "<init>", "([C)V"⟩ : MethodName)) rfl hown (mvT hZ (ow hw 11 rfl)) (mvT hZ (ow hw 12 rfl)) (mvT hZ (ow hw 13 rfl)) (by decide) (backOf (W := 1) (rmS1_2 l Z a0 hw [] b9 b10 kA10 c0 c1 h14 n0 O E_b9 F_coder_b9 F_value_b9 g_b9 V_b10 (Ne.symm ne_b9_b10) hb0 hb1 zc S_cs hzc) hZ (ow hw 13 rfl) (ow hw 9 rfl) (by decide) (by decide)) (g := (mkF m 50 #[iv p0, iv c0, iv c1] [.ref b10, .ref b9, .ref b9])) rfl (by rw [hml]; rfl) (Steps.refl _) (a := b9) (argsL := [(.ref b10)]) (rest := [(.ref b9)]) (lenOf pd_5 rfl) rfl (by show 2 * 0 + _ ≤ _; exact Nat.le_of_eq rfl) (hb hby d1_50) (fun _ _ => ⟨rfl, e14, (by decide : 2 + 1 ≤ _), (by decide : 6 + 2 ≤ _)⟩)
      dsimp only [Pt.U, Pt.locs, Pt.cells, Pt.slots] at X15 lq15 yq15 zq15 st15 hQ15
      subst lq15 yq15 zq15
      obtain ⟨h15, e15⟩ : ∃ z, z = T15.heap := ⟨_, rfl⟩
      rw [← e15] at hQ15
      replace e15 := e15.symm
      obtain ⟨b15, kb15, rfl, Nq15, Kq15, hR15⟩ := hQ15
      have N := Fr.app N Nq15
      have Sf_b9 := Safe.keep Kq15 Sk15 HR.1 Sf_b9
      have HR := HR.trans (CHr.keep Kq15 Sk15 HR.1)
      have E_b9 := E_b9.keep Kq15
      have V_b10 := V_b10.keep Kq15 (ninS (Ne.symm ne_b9_b10) nin0)
      have hk := Nat.le_trans hk Kq15.1
      obtain ⟨E_b9, F_coder_b9, F_value_b9, g_b15, sz_b15, V_b15⟩ := hR15
      have O := O.keep Kq15 (allS g_b9 all0)
      have K := K.trans Kq15 (allS (Or.inr sz_b9) all0)
      have ne_b9_b15 : b9 ≠ b15 := Nat.ne_of_lt (Nat.lt_of_lt_of_le lt_b9 sz_b15)
      have ne_b10_b15 : b10 ≠ b15 := Nat.ne_of_lt (Nat.lt_of_lt_of_le lt_b10 sz_b15)
      have sz_b15 := Nat.le_trans szK sz_b15
      refine gb (fun _ k => st15.trans k) ?_
      show G T15 (mkF m 53 #[iv p0, iv c0, iv c1] [.ref b9])
      exact go X15 hS (Nat.le_trans hk (Nat.le_of_eq (congrArg Array.size e15.symm))) (by rw [e15]; exact HR) hZ (v := (some (.ref b9))) (fun h => by rw [Bd.returns] at h; cases h) (fun fs hr => retOut X15 hx Bd.returns rfl (Or.inr (Or.inr (Or.inr (Or.inr ⟨rfl, rfl, rfl⟩)))) (hb hby d1_53) hr) (by rw [e15]; exact ⟨b9, b15, kb15, (2 : Int32), [(nar .byte (c0.toInt8.toInt32)), (nar .byte (c1.toInt8.toInt32))], rfl, N, K, E_b9, F_coder_b9, F_value_b9, g_b9, sz_b9, V_b15, rfl, by unfold own_bs; rw [if_neg hc1, if_neg hc17]⟩) (by decide) (by decide)
def Q_rm9 (Z : State) (a1 a2 : Addr) (h0 : Heap) (n0 : Nat) : Option Value → Heap → List Loc → Prop := fun v h L => v = some (.ref a1) ∧ L = [] ∧ h = h0
set_option maxRecDepth 65536 in
set_option maxHeartbeats 40000000 in
theorem rm9 (l : Launch) (Z : State) (a0 : Array Value) (hw : ∀ d ∈ tables_1, d.before a0 Z = true) (ws : List Jvm.Cond) (a1 a2 : Addr) (h0 : Heap) (n0 : Nat) (O : Old Z n0 h0) :
    MetFree l (⟨"java/util/Objects", "requireNonNull", "(Ljava/lang/Object;Ljava/lang/String;)Ljava/lang/Object;"⟩ : MethodName) (head1 (Jvm.Cond.code (⟨"java/util/Objects", "requireNonNull", "(Ljava/lang/Object;Ljava/lang/String;)Ljava/lang/Object;"⟩ : MethodName) jdk_31_method_11_code 2 (some (.object "java/lang/Object")) :: ws) ({ frames := 0, cells := 0, slots := 0, locals := 0 } : Room)) (fun a U => a = #[(.ref a1), (.ref a2)] ∧ Z.Warmed39 U.vm ∧ U.heap = h0) (fun _ _ _ _ _ => True) (fun _ U o U' => ∃ v L, o = .returned v ∧ (Q_rm9 Z a1 a2 h0 n0) v U'.heap L ∧ FrameEnd U o U' L ({ frames := 0, cells := 0, slots := 0, locals := 0 } : Room).cells ({ frames := 0, cells := 0, slots := 0, locals := 0 } : Room).slots) := by
  refine MetFree.of_bodySF (plainFor_of_name pn_4) hisR ?_
  intro p e s m args below meth c s₁ Bd hml0 hP hK
  obtain ⟨rfl, hZ, hh⟩ := hP
  have hx := Bd.exec
  have hby := Bd.bytes
  have hml : c.maxLocals = 2 := hml0
  have hown : s.vm.findClass "java/util/Objects" = some m.cls := findClass_of_methodNamed Bd.named
  have hnm := (name_of_methodNamed Bd.named Bd.method).1
  have hlk := BodyLoose.notSynchronized Bd
  have X0 : Stand p l e ({ frames := 0, cells := 0, slots := 0, locals := 0 } : Room) s m #[(.ref a1), (.ref a2)] below meth c s₁ [] 0 0 := Stand.of_body Bd
  have e0 : s₁.heap = h0 := by rw [← hh, Bd.state]; rfl
  have N := Fr.nil n0
  obtain ⟨G, hG⟩ : ∃ G : State → JFrame → Prop, G = OwnG p e below s ({ frames := 0, cells := 0, slots := 0, locals := 0 } : Room).cells ({ frames := 0, cells := 0, slots := 0, locals := 0 } : Room).slots (Q_rm9 Z a1 a2 h0 n0) := ⟨_, rfl⟩
  have gb : ∀ {T T' : State} {g g' : JFrame}, (∀ t, Steps p.tables e below (T'.setTop g') t → Steps p.tables e below (T.setTop g) t) → G T' g' → G T g := by subst hG; exact fun k h => own_by k h
  have go : ∀ {T : State} {locs : List Loc} {cells slots : Nat} {g : JFrame} {v : Option Value}, Stand p l e ({ frames := 0, cells := 0, slots := 0, locals := 0 } : Room) s m #[(.ref a1), (.ref a2)] below meth c T locs cells slots → (meth.sig.returnType = none → v = none) → (∀ fs, (∀ (f : JFrame) (acts : List Action), f.method = m → f.locked = none → f.entered = [] → (doReturn e (T.setTop f) acts v).1 = T.setFrames fs) → Steps p.tables e below (T.setTop g) (T.setFrames fs)) → (Q_rm9 Z a1 a2 h0 n0) v T.heap locs → cells ≤ ({ frames := 0, cells := 0, slots := 0, locals := 0 } : Room).cells → slots ≤ ({ frames := 0, cells := 0, slots := 0, locals := 0 } : Room).slots → G T g := by subst hG; exact fun X h1 h2 h3 h4 h5 => own_out X hlk h1 h2 h3 h4 h5
  show OwnG p e below s ({ frames := 0, cells := 0, slots := 0, locals := 0 } : Room).cells ({ frames := 0, cells := 0, slots := 0, locals := 0 } : Room).slots (Q_rm9 Z a1 a2 h0 n0) s₁ (entryFrame m #[(.ref a1), (.ref a2)] 2)
  rw [← hG, ef_rm9 m a1 a2]
  clear hG
  show G s₁ (mkF m 0 #[.val (.ref a1), .val (.ref a2)] [])
  refine gb (fun _ k => XS.aloadN X0.here hx rfl (hb hby d9_0) rfl rfl (XS.ifnonnullYes X0.here hx rfl (pc0 := 1) (pc' := 13) rfl (hb hby d9_1) rfl (by decide) (by decide) (XS.aloadN X0.here hx rfl (hb hby d9_13) rfl rfl k))) ?_
  show G s₁ (mkF m 14 #[rv a1, rv a2] [.ref a1])
  exact go X0 (v := (some (.ref a1))) (fun h => by rw [Bd.returns] at h; cases h) (fun fs hr => retOut X0 hx Bd.returns rfl (Or.inr (Or.inr (Or.inr (Or.inr ⟨rfl, rfl, rfl⟩)))) (hb hby d9_14) hr) (⟨rfl, rfl, e0⟩) (by decide) (by decide)
def Q_rm8 (Z : State) (a1 a2 a3 : Addr) (h0 : Heap) (n0 : Nat) : Option Value → Heap → List Loc → Prop := fun v h L => v = none ∧ Fr n0 L ∧ Keep h0 h [a1] ∧ Exa Z h a1 "com/example/equipe/equipe/JobResult" ∧ Fld Z h a1 "com/example/equipe/equipe/JobResult" "status" "Lcom/example/equipe/equipe/JobResult$Status;" (.ref a2) ∧ Fld Z h a1 "com/example/equipe/equipe/JobResult" "info" "Ljava/lang/String;" (.ref a3)
set_option maxRecDepth 65536 in
set_option maxHeartbeats 40000000 in
theorem rm8 (l : Launch) (Z : State) (a0 : Array Value) (hw : ∀ d ∈ tables_1, d.before a0 Z = true) (ws : List Jvm.Cond) (a1 a2 a3 : Addr) (h0 : Heap) (n0 : Nat) (O : Old Z n0 h0) (E_a1 : Exa Z h0 a1 "com/example/equipe/equipe/JobResult") (F_status : Fld Z h0 a1 "com/example/equipe/equipe/JobResult" "status" "Lcom/example/equipe/equipe/JobResult$Status;" .null) (F_info : Fld Z h0 a1 "com/example/equipe/equipe/JobResult" "info" "Ljava/lang/String;" .null) (g_a1 : n0 ≤ a1) (E_a2 : Exa Z h0 a2 "com/example/equipe/equipe/JobResult$Status") (E_a3 : Exa Z h0 a3 "java/lang/String") :
    MetFree l (⟨"com/example/equipe/equipe/JobResult", "<init>", "(Lcom/example/equipe/equipe/JobResult$Status;Ljava/lang/String;)V"⟩ : MethodName) (head1 (Jvm.Cond.code (⟨"com/example/equipe/equipe/JobResult", "<init>", "(Lcom/example/equipe/equipe/JobResult$Status;Ljava/lang/String;)V"⟩ : MethodName) prog_5_method_1_code 3 none :: ws) ({ frames := 1, cells := 4, slots := 48, locals := 14 } : Room)) (fun a U => a = #[(.ref a1), (.ref a2), (.ref a3)] ∧ Z.Warmed39 U.vm ∧ U.heap = h0) (fun _ _ _ _ _ => True) (fun _ U o U' => ∃ v L, o = .returned v ∧ (Q_rm8 Z a1 a2 a3 h0 n0) v U'.heap L ∧ ReturnedEndW U o U' L ({ frames := 1, cells := 4, slots := 48, locals := 14 } : Room).cells ({ frames := 1, cells := 4, slots := 48, locals := 14 } : Room).slots) := by
  refine MetFree.of_bodySF (plainFor_of_name pn_5) hisR ?_
  intro p e s m args below meth c s₁ Bd hml0 hP hK
  obtain ⟨rfl, hZ, hh⟩ := hP
  have hx := Bd.exec
  have hby := Bd.bytes
  have hml : c.maxLocals = 3 := hml0
  have hown : s.vm.findClass "com/example/equipe/equipe/JobResult" = some m.cls := findClass_of_methodNamed Bd.named
  have hnm := (name_of_methodNamed Bd.named Bd.method).1
  have hlk := BodyLoose.notSynchronized Bd
  have X0 : Stand p l e ({ frames := 1, cells := 4, slots := 48, locals := 14 } : Room) (s.setVm s.vm) m #[(.ref a1), (.ref a2), (.ref a3)] below meth c s₁ [] 0 0 := Stand.of_body Bd
  have e0 : s₁.heap = h0 := by rw [← hh, Bd.state]; rfl
  have N := Fr.nil n0
  have hS : s.Since s.vm h0.size := (State.WarmedH.refl s).since _
  have hk := Nat.le_refl h0.size
  have K := Keep.refl h0 [a1]
  obtain ⟨G, hG⟩ : ∃ G : State → JFrame → Prop, G = OwnGW p e below s ({ frames := 1, cells := 4, slots := 48, locals := 14 } : Room).cells ({ frames := 1, cells := 4, slots := 48, locals := 14 } : Room).slots (Q_rm8 Z a1 a2 a3 h0 n0) := ⟨_, rfl⟩
  have gb : ∀ {T T' : State} {g g' : JFrame}, (∀ t, Steps p.tables e below (T'.setTop g') t → Steps p.tables e below (T.setTop g) t) → G T' g' → G T g := by subst hG; exact fun k h => own_byW k h
  have go : ∀ {T : State} {locs : List Loc} {cells slots : Nat} {g : JFrame} {v : Option Value} {vm : Vm} {k : Nat}, Stand p l e ({ frames := 1, cells := 4, slots := 48, locals := 14 } : Room) (s.setVm vm) m #[(.ref a1), (.ref a2), (.ref a3)] below meth c T locs cells slots → s.Since vm k → k ≤ T.heap.size → (meth.sig.returnType = none → v = none) → (∀ fs, (∀ (f : JFrame) (acts : List Action), f.method = m → f.locked = none → f.entered = [] → (doReturn e (T.setTop f) acts v).1 = T.setFrames fs) → Steps p.tables e below (T.setTop g) (T.setFrames fs)) → (Q_rm8 Z a1 a2 a3 h0 n0) v T.heap locs → cells ≤ ({ frames := 1, cells := 4, slots := 48, locals := 14 } : Room).cells → slots ≤ ({ frames := 1, cells := 4, slots := 48, locals := 14 } : Room).slots → G T g := by subst hG; exact fun X a b h1 h2 h3 h4 h5 => own_outW X a b hlk h1 h2 h3 h4 h5
  show OwnGW p e below s ({ frames := 1, cells := 4, slots := 48, locals := 14 } : Room).cells ({ frames := 1, cells := 4, slots := 48, locals := 14 } : Room).slots (Q_rm8 Z a1 a2 a3 h0 n0) s₁ (entryFrame m #[(.ref a1), (.ref a2), (.ref a3)] 3)
  rw [← hG, ef_rm8 m a1 a2 a3]
  clear hG
  show G s₁ (mkF m 0 #[.val (.ref a1), .val (.ref a2), .val (.ref a3)] [])
  refine gb (fun _ k => XS.aloadN X0.here hx rfl (hb hby d8_0) rfl rfl k) ?_
  show G s₁ (mkF m 1 #[rv a1, rv a2, rv a3] [.ref a1])
  obtain ⟨T1, X1, e1, st1⟩ := initO X0 hx hZ hown (ow hw 46 rfl) (ow hw 19 rfl) (ow hw 20 rfl) e0 (g := (mkF m 1 #[rv a1, rv a2, rv a3] [.ref a1])) rfl (by rw [hml]; rfl) rfl (hb hby d8_1) (by decide) (W := 0) (by show 2 * 0 + _ ≤ _; exact Nat.le_of_eq rfl) (by decide)
  refine gb st1 ?_
  show G T1 (mkF m 4 #[rv a1, rv a2, rv a3] [])
  refine gb (fun _ k => XS.aloadN X1.here hx rfl (hb hby d8_4) rfl rfl (XS.aloadN X1.here hx rfl (hb hby d8_5) rfl rfl k)) ?_
  show G T1 (mkF m 6 #[rv a1, rv a2, rv a3] [.ref a2, .ref a1])
  obtain ⟨b2, T2, h2, kn2, X2, e2, E2, hS, hk2, hZ, hown, st2⟩ := ldcS X1 hx hZ hown (ow hw 47 rfl) (own_wS hw) e1 hS hk (g := (mkF m 6 #[rv a1, rv a2, rv a3] [.ref a2, .ref a1])) rfl (hb hby d8_6) (n := 24) (by decide) (by decide) (by decide) (by decide)
  have E_a1 := E_a1.ext E2
  have F_status := F_status.ext E2
  have F_info := F_info.ext E2
  have E_a2 := E_a2.ext E2
  have E_a3 := E_a3.ext E2
  have O := O.ext E2
  have hk := Nat.le_trans hk E2.1
  have K := K.ext E2
  have hk := hk2
  refine gb st2 ?_
  show G T2 (mkF m 8 #[rv a1, rv a2, rv a3] [.ref b2, .ref a2, .ref a1])
  obtain ⟨_, _, ⟨T3, Lz3, kz3, nz3⟩, -, X3, ⟨Lc3, hQ3, lq3, yq3, zq3⟩, st3⟩ := Jvm.LawKit.callS X2 hx (y := (⟨"java/util/Objects", "requireNonNull", "(Ljava/lang/Object;Ljava/lang/String;)Ljava/lang/Object;"⟩ : MethodName)) hown (mvT hZ (ow hw 48 rfl)) (mvT hZ (ow hw 49 rfl)) (mvT hZ (ow hw 50 rfl)) (mvT hZ (ow hw 51 rfl)) (by decide) (backOf (W := 1) (rm9 l Z a0 hw [] a2 b2 h2 n0 O) hZ (ow hw 51 rfl) (ow hw 50 rfl) (by decide) (by decide)) (g := (mkF m 8 #[rv a1, rv a2, rv a3] [.ref b2, .ref a2, .ref a1])) rfl (by rw [hml]; rfl) (argsL := [(.ref a2), (.ref b2)]) (rest := [(.ref a1)]) (lenOf pd_6 rfl) rfl (by show 2 * 0 + _ ≤ _; exact Nat.le_of_eq rfl) (hb hby d8_8) (fun _ _ => ⟨rfl, e2, (by decide : 2 + 0 ≤ _), (by decide : 28 + 0 ≤ _)⟩)
  dsimp only [Pt.U, Pt.locs, Pt.cells, Pt.slots] at X3 lq3 yq3 zq3 st3 hQ3
  subst lq3 yq3 zq3
  obtain ⟨rfl, rfl, e3⟩ := hQ3
  try rw [List.append_nil] at X3
  refine gb st3 ?_
  show G T3 (mkF m 11 #[rv a1, rv a2, rv a3] [.ref a2, .ref a1])
  obtain ⟨T4, X4, e4, st4⟩ := castY X3 hx hZ hown (ow hw 52 rfl) e3 (Ins.self E_a2) (g := (mkF m 11 #[rv a1, rv a2, rv a3] [.ref a2, .ref a1])) rfl rfl (hb hby d8_11)
  refine gb st4 ?_
  show G T4 (mkF m 14 #[rv a1, rv a2, rv a3] [.ref a2, .ref a1])
  obtain ⟨T5, h5, X5, e5, W5, st5⟩ := putF X4 hx hZ hown (host := "") (Or.inl (ow hw 54 rfl)) Via.refl e4 F_status E_a1 (Or.inr ⟨(ow hw 55 rfl), rfl, hnm⟩) (ow hw 41 rfl) (ty := (.object "com/example/equipe/equipe/JobResult$Status")) (by decide) rfl rfl (g := (mkF m 14 #[rv a1, rv a2, rv a3] [.ref a2, .ref a1])) rfl rfl (hb hby d8_14)
  refine gb st5 ?_
  have F_status := F_status.same W5
  have E_a1 := E_a1.wr W5
  have F_info := F_info.other W5 (Or.inr (slot_ne (Or.inr (ow hw 59 rfl)) (Or.inr (ow hw 55 rfl)) (by decide) (t := (.object "java/lang/String")) (t' := (.object "com/example/equipe/equipe/JobResult$Status")) (by decide) (by decide)))
  have E_a2 := E_a2.wr W5
  have E_a3 := E_a3.wr W5
  have O := O.wr W5 g_a1
  have hk := Nat.le_trans hk (Keep.of_wr W5).1
  have K := K.wr W5 (Or.inl (List.mem_of_getElem? (i := 0) rfl))
  have N := Fr.snoc X5 N g_a1
  show G T5 (mkF m 17 #[rv a1, rv a2, rv a3] [])
  refine gb (fun _ k => XS.aloadN X5.here hx rfl (hb hby d8_17) rfl rfl (XS.aloadN X5.here hx rfl (hb hby d8_18) rfl rfl k)) ?_
  show G T5 (mkF m 19 #[rv a1, rv a2, rv a3] [.ref a3, .ref a1])
  obtain ⟨b6, T6, h6, kn6, X6, e6, E6, hS, hk6, hZ, hown, st6⟩ := ldcS X5 hx hZ hown (ow hw 56 rfl) (own_wS hw) e5 hS hk (g := (mkF m 19 #[rv a1, rv a2, rv a3] [.ref a3, .ref a1])) rfl (hb hby d8_19) (n := 16) (by decide) (by decide) (by decide) (by decide)
  have E_a1 := E_a1.ext E6
  have F_info := F_info.ext E6
  have E_a2 := E_a2.ext E6
  have E_a3 := E_a3.ext E6
  have F_status := F_status.ext E6
  have O := O.ext E6
  have hk := Nat.le_trans hk E6.1
  have K := K.ext E6
  have hk := hk6
  refine gb st6 ?_
  show G T6 (mkF m 21 #[rv a1, rv a2, rv a3] [.ref b6, .ref a3, .ref a1])
  obtain ⟨_, _, ⟨T7, Lz7, kz7, nz7⟩, -, X7, ⟨Lc7, hQ7, lq7, yq7, zq7⟩, st7⟩ := Jvm.LawKit.callS X6 hx (y := (⟨"java/util/Objects", "requireNonNull", "(Ljava/lang/Object;Ljava/lang/String;)Ljava/lang/Object;"⟩ : MethodName)) hown (mvT hZ (ow hw 48 rfl)) (mvT hZ (ow hw 49 rfl)) (mvT hZ (ow hw 50 rfl)) (mvT hZ (ow hw 51 rfl)) (by decide) (backOf (W := 1) (rm9 l Z a0 hw [] a3 b6 h6 n0 O) hZ (ow hw 51 rfl) (ow hw 50 rfl) (by decide) (by decide)) (g := (mkF m 21 #[rv a1, rv a2, rv a3] [.ref b6, .ref a3, .ref a1])) rfl (by rw [hml]; rfl) (argsL := [(.ref a3), (.ref b6)]) (rest := [(.ref a1)]) (lenOf pd_6 rfl) rfl (by show 2 * 0 + _ ≤ _; exact Nat.le_of_eq rfl) (hb hby d8_21) (fun _ _ => ⟨rfl, e6, (by decide : 4 + 0 ≤ _), (by decide : 48 + 0 ≤ _)⟩)
  dsimp only [Pt.U, Pt.locs, Pt.cells, Pt.slots] at X7 lq7 yq7 zq7 st7 hQ7
  subst lq7 yq7 zq7
  obtain ⟨rfl, rfl, e7⟩ := hQ7
  try rw [List.append_nil] at X7
  refine gb st7 ?_
  show G T7 (mkF m 24 #[rv a1, rv a2, rv a3] [.ref a3, .ref a1])
  obtain ⟨T8, X8, e8, st8⟩ := castY X7 hx hZ hown (ow hw 57 rfl) e7 (Ins.self E_a3) (g := (mkF m 24 #[rv a1, rv a2, rv a3] [.ref a3, .ref a1])) rfl rfl (hb hby d8_24)
  refine gb st8 ?_
  show G T8 (mkF m 27 #[rv a1, rv a2, rv a3] [.ref a3, .ref a1])
  obtain ⟨T9, h9, X9, e9, W9, st9⟩ := putF X8 hx hZ hown (host := "") (Or.inl (ow hw 58 rfl)) Via.refl e8 F_info E_a1 (Or.inr ⟨(ow hw 59 rfl), rfl, hnm⟩) (ow hw 41 rfl) (ty := (.object "java/lang/String")) (by decide) rfl rfl (g := (mkF m 27 #[rv a1, rv a2, rv a3] [.ref a3, .ref a1])) rfl rfl (hb hby d8_27)
  refine gb st9 ?_
  have F_info := F_info.same W9
  have E_a1 := E_a1.wr W9
  have E_a2 := E_a2.wr W9
  have E_a3 := E_a3.wr W9
  have F_status := F_status.other W9 (Or.inr (slot_ne (Or.inr (ow hw 55 rfl)) (Or.inr (ow hw 59 rfl)) (by decide) (t := (.object "com/example/equipe/equipe/JobResult$Status")) (t' := (.object "java/lang/String")) (by decide) (by decide)))
  have O := O.wr W9 g_a1
  have hk := Nat.le_trans hk (Keep.of_wr W9).1
  have K := K.wr W9 (Or.inl (List.mem_of_getElem? (i := 0) rfl))
  have N := Fr.snoc X9 N g_a1
  show G T9 (mkF m 30 #[rv a1, rv a2, rv a3] [])
  exact go X9 hS (Nat.le_trans hk (Nat.le_of_eq (congrArg Array.size e9.symm))) (v := none) (fun _ => rfl) (fun fs hr => X9.returnOut hx Bd.returns (hb hby d8_30) hr) (by rw [e9]; exact ⟨rfl, N, K, E_a1, F_status, F_info⟩) (by decide) (by decide)
def Q_rmJ_n (Z : State) (a1 : Addr) (h0 : Heap) (n0 : Nat) : Option Value → Heap → List Loc → Prop := fun v h L => v = some (.int (0 : Int32)) ∧ L = [] ∧ h = h0
set_option maxRecDepth 65536 in
set_option maxHeartbeats 40000000 in
theorem rmJ_n (l : Launch) (Z : State) (a0 : Array Value) (hw : ∀ d ∈ tables_1, d.before a0 Z = true) (ws : List Jvm.Cond) (a1 : Addr) (h0 : Heap) (n0 : Nat) (O : Old Z n0 h0) :
    MetFree l (⟨"com/example/equipe/equipe/JobResult", "equals", "(Ljava/lang/Object;)Z"⟩ : MethodName) (head1 (Jvm.Cond.code (⟨"com/example/equipe/equipe/JobResult", "equals", "(Ljava/lang/Object;)Z"⟩ : MethodName) prog_5_method_4_code 3 (some .boolean) :: ws) ({ frames := 0, cells := 0, slots := 0, locals := 0 } : Room)) (fun a U => a = #[(.ref a1), .null] ∧ Z.Warmed39 U.vm ∧ U.heap = h0) (fun _ _ _ _ _ => True) (fun _ U o U' => ∃ v L, o = .returned v ∧ (Q_rmJ_n Z a1 h0 n0) v U'.heap L ∧ FrameEnd U o U' L ({ frames := 0, cells := 0, slots := 0, locals := 0 } : Room).cells ({ frames := 0, cells := 0, slots := 0, locals := 0 } : Room).slots) := by
  refine MetFree.of_bodySF (plainFor_of_name pn_5) hisR ?_
  intro p e s m args below meth c s₁ Bd hml0 hP hK
  obtain ⟨rfl, hZ, hh⟩ := hP
  have hx := Bd.exec
  have hby := Bd.bytes
  have hml : c.maxLocals = 3 := hml0
  have hown : s.vm.findClass "com/example/equipe/equipe/JobResult" = some m.cls := findClass_of_methodNamed Bd.named
  have hnm := (name_of_methodNamed Bd.named Bd.method).1
  have hlk := BodyLoose.notSynchronized Bd
  have X0 : Stand p l e ({ frames := 0, cells := 0, slots := 0, locals := 0 } : Room) s m #[(.ref a1), .null] below meth c s₁ [] 0 0 := Stand.of_body Bd
  have e0 : s₁.heap = h0 := by rw [← hh, Bd.state]; rfl
  have N := Fr.nil n0
  obtain ⟨G, hG⟩ : ∃ G : State → JFrame → Prop, G = OwnG p e below s ({ frames := 0, cells := 0, slots := 0, locals := 0 } : Room).cells ({ frames := 0, cells := 0, slots := 0, locals := 0 } : Room).slots (Q_rmJ_n Z a1 h0 n0) := ⟨_, rfl⟩
  have gb : ∀ {T T' : State} {g g' : JFrame}, (∀ t, Steps p.tables e below (T'.setTop g') t → Steps p.tables e below (T.setTop g) t) → G T' g' → G T g := by subst hG; exact fun k h => own_by k h
  have go : ∀ {T : State} {locs : List Loc} {cells slots : Nat} {g : JFrame} {v : Option Value}, Stand p l e ({ frames := 0, cells := 0, slots := 0, locals := 0 } : Room) s m #[(.ref a1), .null] below meth c T locs cells slots → (meth.sig.returnType = none → v = none) → (∀ fs, (∀ (f : JFrame) (acts : List Action), f.method = m → f.locked = none → f.entered = [] → (doReturn e (T.setTop f) acts v).1 = T.setFrames fs) → Steps p.tables e below (T.setTop g) (T.setFrames fs)) → (Q_rmJ_n Z a1 h0 n0) v T.heap locs → cells ≤ ({ frames := 0, cells := 0, slots := 0, locals := 0 } : Room).cells → slots ≤ ({ frames := 0, cells := 0, slots := 0, locals := 0 } : Room).slots → G T g := by subst hG; exact fun X h1 h2 h3 h4 h5 => own_out X hlk h1 h2 h3 h4 h5
  show OwnG p e below s ({ frames := 0, cells := 0, slots := 0, locals := 0 } : Room).cells ({ frames := 0, cells := 0, slots := 0, locals := 0 } : Room).slots (Q_rmJ_n Z a1 h0 n0) s₁ (entryFrame m #[(.ref a1), .null] 3)
  rw [← hG, ef_rmJ_n m a1]
  clear hG
  show G s₁ (mkF m 0 #[.val (.ref a1), .val .null, .unset] [])
  refine gb (fun _ k => XS.aloadN X0.here hx rfl (hb hby d10_0) rfl rfl k) ?_
  show G s₁ (mkF m 1 #[rv a1, .val .null, .unset] [.null])
  refine gb (X0.instanceofNull hx (g := (mkF m 1 #[rv a1, .val .null, .unset] [.null])) rfl rfl (hb hby d10_1)) ?_
  show G s₁ (mkF m 4 #[rv a1, .val .null, .unset] [.int 0])
  refine gb (fun _ k => XS.ifYes X0.here hx rfl (pc0 := 4) (pc' := 41) rfl (hb hby d10_4) rfl ((if0 _ _).trans (teq (by decide : (0 : Int32) = (0 : Int32))).1) (by decide) (by decide) (XS.iconst X0.here hx rfl (hb hby d10_41) k)) ?_
  show G s₁ (mkF m 42 #[rv a1, .val .null, .unset] [.int 0])
  exact go X0 (v := (some (.int (0 : Int32)))) (fun h => by rw [Bd.returns] at h; cases h) (fun fs hr => retOut X0 hx Bd.returns rfl (Or.inl ⟨rfl, by simp, _, rfl⟩) (hb hby d10_42) hr) (⟨rfl, rfl, e0⟩) (by decide) (by decide)
def Q_rmJ_s (Z : State) (a1 a2 : Addr) (h0 : Heap) (n0 : Nat) : Option Value → Heap → List Loc → Prop := fun v h L => v = some (.int (0 : Int32)) ∧ L = [] ∧ h = h0
set_option maxRecDepth 65536 in
set_option maxHeartbeats 40000000 in
theorem rmJ_s (l : Launch) (Z : State) (a0 : Array Value) (hw : ∀ d ∈ tables_1, d.before a0 Z = true) (ws : List Jvm.Cond) (a1 a2 : Addr) (h0 : Heap) (n0 : Nat) (O : Old Z n0 h0) (E_a2 : Exa Z h0 a2 "java/lang/String") :
    MetFree l (⟨"com/example/equipe/equipe/JobResult", "equals", "(Ljava/lang/Object;)Z"⟩ : MethodName) (head1 (Jvm.Cond.code (⟨"com/example/equipe/equipe/JobResult", "equals", "(Ljava/lang/Object;)Z"⟩ : MethodName) prog_5_method_4_code 3 (some .boolean) :: ws) ({ frames := 0, cells := 0, slots := 0, locals := 0 } : Room)) (fun a U => a = #[(.ref a1), (.ref a2)] ∧ Z.Warmed39 U.vm ∧ U.heap = h0) (fun _ _ _ _ _ => True) (fun _ U o U' => ∃ v L, o = .returned v ∧ (Q_rmJ_s Z a1 a2 h0 n0) v U'.heap L ∧ FrameEnd U o U' L ({ frames := 0, cells := 0, slots := 0, locals := 0 } : Room).cells ({ frames := 0, cells := 0, slots := 0, locals := 0 } : Room).slots) := by
  refine MetFree.of_bodySF (plainFor_of_name pn_5) hisR ?_
  intro p e s m args below meth c s₁ Bd hml0 hP hK
  obtain ⟨rfl, hZ, hh⟩ := hP
  have hx := Bd.exec
  have hby := Bd.bytes
  have hml : c.maxLocals = 3 := hml0
  have hown : s.vm.findClass "com/example/equipe/equipe/JobResult" = some m.cls := findClass_of_methodNamed Bd.named
  have hnm := (name_of_methodNamed Bd.named Bd.method).1
  have hlk := BodyLoose.notSynchronized Bd
  have X0 : Stand p l e ({ frames := 0, cells := 0, slots := 0, locals := 0 } : Room) s m #[(.ref a1), (.ref a2)] below meth c s₁ [] 0 0 := Stand.of_body Bd
  have e0 : s₁.heap = h0 := by rw [← hh, Bd.state]; rfl
  have N := Fr.nil n0
  obtain ⟨G, hG⟩ : ∃ G : State → JFrame → Prop, G = OwnG p e below s ({ frames := 0, cells := 0, slots := 0, locals := 0 } : Room).cells ({ frames := 0, cells := 0, slots := 0, locals := 0 } : Room).slots (Q_rmJ_s Z a1 a2 h0 n0) := ⟨_, rfl⟩
  have gb : ∀ {T T' : State} {g g' : JFrame}, (∀ t, Steps p.tables e below (T'.setTop g') t → Steps p.tables e below (T.setTop g) t) → G T' g' → G T g := by subst hG; exact fun k h => own_by k h
  have go : ∀ {T : State} {locs : List Loc} {cells slots : Nat} {g : JFrame} {v : Option Value}, Stand p l e ({ frames := 0, cells := 0, slots := 0, locals := 0 } : Room) s m #[(.ref a1), (.ref a2)] below meth c T locs cells slots → (meth.sig.returnType = none → v = none) → (∀ fs, (∀ (f : JFrame) (acts : List Action), f.method = m → f.locked = none → f.entered = [] → (doReturn e (T.setTop f) acts v).1 = T.setFrames fs) → Steps p.tables e below (T.setTop g) (T.setFrames fs)) → (Q_rmJ_s Z a1 a2 h0 n0) v T.heap locs → cells ≤ ({ frames := 0, cells := 0, slots := 0, locals := 0 } : Room).cells → slots ≤ ({ frames := 0, cells := 0, slots := 0, locals := 0 } : Room).slots → G T g := by subst hG; exact fun X h1 h2 h3 h4 h5 => own_out X hlk h1 h2 h3 h4 h5
  show OwnG p e below s ({ frames := 0, cells := 0, slots := 0, locals := 0 } : Room).cells ({ frames := 0, cells := 0, slots := 0, locals := 0 } : Room).slots (Q_rmJ_s Z a1 a2 h0 n0) s₁ (entryFrame m #[(.ref a1), (.ref a2)] 3)
  rw [← hG, ef_rmJ_s m a1 a2]
  clear hG
  show G s₁ (mkF m 0 #[.val (.ref a1), .val (.ref a2), .unset] [])
  refine gb (fun _ k => XS.aloadN X0.here hx rfl (hb hby d10_0) rfl rfl k) ?_
  show G s₁ (mkF m 1 #[rv a1, rv a2, .unset] [.ref a2])
  obtain ⟨T1, X1, e1, st1⟩ := instNo X0 hx hZ hown (ow hw 65 rfl) e0 E_a2 (own_notInst (ow hw 77 rfl) (ow hw 78 rfl) (ow hw 41 rfl) (by decide) (by decide)) (g := (mkF m 1 #[rv a1, rv a2, .unset] [.ref a2])) rfl rfl (hb hby d10_1)
  refine gb st1 ?_
  show G T1 (mkF m 4 #[rv a1, rv a2, .unset] [.int 0])
  refine gb (fun _ k => XS.ifYes X1.here hx rfl (pc0 := 4) (pc' := 41) rfl (hb hby d10_4) rfl ((if0 _ _).trans (teq (by decide : (0 : Int32) = (0 : Int32))).1) (by decide) (by decide) (XS.iconst X1.here hx rfl (hb hby d10_41) k)) ?_
  show G T1 (mkF m 42 #[rv a1, rv a2, .unset] [.int 0])
  exact go X1 (v := (some (.int (0 : Int32)))) (fun h => by rw [Bd.returns] at h; cases h) (fun fs hr => retOut X1 hx Bd.returns rfl (Or.inl ⟨rfl, by simp, _, rfl⟩) (hb hby d10_42) hr) (⟨rfl, rfl, e1⟩) (by decide) (by decide)
def Q_rmJ_self (Z : State) (a1 d1 x1 : Addr) (h0 : Heap) (n0 : Nat) : Option Value → Heap → List Loc → Prop := fun v h L => v = some (.int (1 : Int32)) ∧ L = [] ∧ h = h0
set_option maxRecDepth 65536 in
set_option maxHeartbeats 40000000 in
theorem rmJ_self (l : Launch) (Z : State) (a0 : Array Value) (hw : ∀ d ∈ tables_1, d.before a0 Z = true) (ws : List Jvm.Cond) (a1 d1 x1 : Addr) (h0 : Heap) (n0 : Nat) (O : Old Z n0 h0) (E_a1 : Exa Z h0 a1 "com/example/equipe/equipe/JobResult") (F_status_a1 : Fld Z h0 a1 "com/example/equipe/equipe/JobResult" "status" "Lcom/example/equipe/equipe/JobResult$Status;" (.ref d1)) (F_info_a1 : Fld Z h0 a1 "com/example/equipe/equipe/JobResult" "info" "Ljava/lang/String;" (.ref x1)) (E_x1 : Exa Z h0 x1 "java/lang/String") :
    MetFree l (⟨"com/example/equipe/equipe/JobResult", "equals", "(Ljava/lang/Object;)Z"⟩ : MethodName) (head1 (Jvm.Cond.code (⟨"com/example/equipe/equipe/JobResult", "equals", "(Ljava/lang/Object;)Z"⟩ : MethodName) prog_5_method_4_code 3 (some .boolean) :: ws) ({ frames := 1, cells := 0, slots := 0, locals := 14 } : Room)) (fun a U => a = #[(.ref a1), (.ref a1)] ∧ Z.Warmed39 U.vm ∧ U.heap = h0) (fun _ _ _ _ _ => True) (fun _ U o U' => ∃ v L, o = .returned v ∧ (Q_rmJ_self Z a1 d1 x1 h0 n0) v U'.heap L ∧ FrameEnd U o U' L ({ frames := 1, cells := 0, slots := 0, locals := 14 } : Room).cells ({ frames := 1, cells := 0, slots := 0, locals := 14 } : Room).slots) := by
  refine MetFree.of_bodySF (plainFor_of_name pn_5) hisR ?_
  intro p e s m args below meth c s₁ Bd hml0 hP hK
  obtain ⟨rfl, hZ, hh⟩ := hP
  have hx := Bd.exec
  have hby := Bd.bytes
  have hml : c.maxLocals = 3 := hml0
  have hown : s.vm.findClass "com/example/equipe/equipe/JobResult" = some m.cls := findClass_of_methodNamed Bd.named
  have hnm := (name_of_methodNamed Bd.named Bd.method).1
  have hlk := BodyLoose.notSynchronized Bd
  have X0 : Stand p l e ({ frames := 1, cells := 0, slots := 0, locals := 14 } : Room) s m #[(.ref a1), (.ref a1)] below meth c s₁ [] 0 0 := Stand.of_body Bd
  have e0 : s₁.heap = h0 := by rw [← hh, Bd.state]; rfl
  have N := Fr.nil n0
  obtain ⟨G, hG⟩ : ∃ G : State → JFrame → Prop, G = OwnG p e below s ({ frames := 1, cells := 0, slots := 0, locals := 14 } : Room).cells ({ frames := 1, cells := 0, slots := 0, locals := 14 } : Room).slots (Q_rmJ_self Z a1 d1 x1 h0 n0) := ⟨_, rfl⟩
  have gb : ∀ {T T' : State} {g g' : JFrame}, (∀ t, Steps p.tables e below (T'.setTop g') t → Steps p.tables e below (T.setTop g) t) → G T' g' → G T g := by subst hG; exact fun k h => own_by k h
  have go : ∀ {T : State} {locs : List Loc} {cells slots : Nat} {g : JFrame} {v : Option Value}, Stand p l e ({ frames := 1, cells := 0, slots := 0, locals := 14 } : Room) s m #[(.ref a1), (.ref a1)] below meth c T locs cells slots → (meth.sig.returnType = none → v = none) → (∀ fs, (∀ (f : JFrame) (acts : List Action), f.method = m → f.locked = none → f.entered = [] → (doReturn e (T.setTop f) acts v).1 = T.setFrames fs) → Steps p.tables e below (T.setTop g) (T.setFrames fs)) → (Q_rmJ_self Z a1 d1 x1 h0 n0) v T.heap locs → cells ≤ ({ frames := 1, cells := 0, slots := 0, locals := 14 } : Room).cells → slots ≤ ({ frames := 1, cells := 0, slots := 0, locals := 14 } : Room).slots → G T g := by subst hG; exact fun X h1 h2 h3 h4 h5 => own_out X hlk h1 h2 h3 h4 h5
  show OwnG p e below s ({ frames := 1, cells := 0, slots := 0, locals := 14 } : Room).cells ({ frames := 1, cells := 0, slots := 0, locals := 14 } : Room).slots (Q_rmJ_self Z a1 d1 x1 h0 n0) s₁ (entryFrame m #[(.ref a1), (.ref a1)] 3)
  rw [← hG, ef_rmJ_self m a1 a1]
  clear hG
  show G s₁ (mkF m 0 #[.val (.ref a1), .val (.ref a1), .unset] [])
  refine gb (fun _ k => XS.aloadN X0.here hx rfl (hb hby d10_0) rfl rfl k) ?_
  show G s₁ (mkF m 1 #[rv a1, rv a1, .unset] [.ref a1])
  obtain ⟨T1, X1, e1, st1⟩ := instY X0 hx hZ hown (ow hw 65 rfl) e0 (Ins.self E_a1) (g := (mkF m 1 #[rv a1, rv a1, .unset] [.ref a1])) rfl rfl (hb hby d10_1)
  refine gb st1 ?_
  show G T1 (mkF m 4 #[rv a1, rv a1, .unset] [.int 1])
  refine gb (fun _ k => XS.ifNo X1.here hx rfl (hb hby d10_4) rfl ((if0 _ _).trans (feq (by decide : ¬ ((1 : Int32) = (0 : Int32)))).1) (XS.aloadN X1.here hx rfl (hb hby d10_7) rfl rfl k)) ?_
  show G T1 (mkF m 8 #[rv a1, rv a1, .unset] [.ref a1])
  obtain ⟨T2, X2, e2, st2⟩ := castY X1 hx hZ hown (ow hw 65 rfl) e1 (Ins.self E_a1) (g := (mkF m 8 #[rv a1, rv a1, .unset] [.ref a1])) rfl rfl (hb hby d10_8)
  refine gb st2 ?_
  show G T2 (mkF m 11 #[rv a1, rv a1, .unset] [.ref a1])
  refine gb (fun _ k => XS.astoreN X2.here hx rfl (hb hby d10_11) rfl rfl (l' := #[rv a1, rv a1, rv a1]) rfl (XS.aloadN X2.here hx rfl (hb hby d10_12) rfl rfl k)) ?_
  show G T2 (mkF m 13 #[rv a1, rv a1, rv a1] [.ref a1])
  obtain ⟨T3, X3, e3, st3⟩ := getF X2 hx hZ hown (host := "") (Or.inl (ow hw 54 rfl)) Via.refl e2 F_status_a1 (g := (mkF m 13 #[rv a1, rv a1, rv a1] [.ref a1])) rfl rfl (hb hby d10_13)
  refine gb st3 ?_
  show G T3 (mkF m 16 #[rv a1, rv a1, rv a1] [.ref d1])
  refine gb (fun _ k => XS.aloadN X3.here hx rfl (hb hby d10_16) rfl rfl k) ?_
  show G T3 (mkF m 17 #[rv a1, rv a1, rv a1] [.ref a1, .ref d1])
  obtain ⟨T4, X4, e4, st4⟩ := getF X3 hx hZ hown (host := "") (Or.inl (ow hw 54 rfl)) Via.refl e3 F_status_a1 (g := (mkF m 17 #[rv a1, rv a1, rv a1] [.ref a1, .ref d1])) rfl rfl (hb hby d10_17)
  refine gb st4 ?_
  show G T4 (mkF m 20 #[rv a1, rv a1, rv a1] [.ref d1, .ref d1])
  refine gb (fun _ k => Jvm.RoadKit.acmp (g := (mkF m 20 #[rv a1, rv a1, rv a1] [.ref d1, .ref d1])) X4 hx rfl rfl rfl (pc0 := 20) (pc' := 23) (same := true) rfl (hb hby d10_20) rfl (decide_eq_true rfl) (by decide) (by decide) (XS.aloadN X4.here hx rfl (hb hby d10_23) rfl rfl k)) ?_
  show G T4 (mkF m 24 #[rv a1, rv a1, rv a1] [.ref a1])
  obtain ⟨T5, X5, e5, st5⟩ := getF X4 hx hZ hown (host := "") (Or.inl (ow hw 58 rfl)) Via.refl e4 F_info_a1 (g := (mkF m 24 #[rv a1, rv a1, rv a1] [.ref a1])) rfl rfl (hb hby d10_24)
  refine gb st5 ?_
  show G T5 (mkF m 27 #[rv a1, rv a1, rv a1] [.ref x1])
  refine gb (fun _ k => XS.aloadN X5.here hx rfl (hb hby d10_27) rfl rfl k) ?_
  show G T5 (mkF m 28 #[rv a1, rv a1, rv a1] [.ref a1, .ref x1])
  obtain ⟨T6, X6, e6, st6⟩ := getF X5 hx hZ hown (host := "") (Or.inl (ow hw 58 rfl)) Via.refl e5 F_info_a1 (g := (mkF m 28 #[rv a1, rv a1, rv a1] [.ref a1, .ref x1])) rfl rfl (hb hby d10_28)
  refine gb st6 ?_
  show G T6 (mkF m 31 #[rv a1, rv a1, rv a1] [.ref x1, .ref x1])
  obtain ⟨cq7, kq7, q7a, q7b, q7c⟩ := isOf hZ e6 E_x1
  obtain ⟨_, _, ⟨T7, Lz7, kz7, nz7⟩, -, X7, ⟨Lc7, hQ7, lq7, yq7, zq7⟩, st7⟩ := X6.virtualBack hx (y := (⟨"java/lang/String", "equals", "(Ljava/lang/Object;)Z"⟩ : MethodName)) (z := (⟨"java/lang/String", "equals", "(Ljava/lang/Object;)Z"⟩ : MethodName)) hown (mvT hZ (ow hw 67 rfl)) (mvT hZ (ow hw 68 rfl)) (notFace_of_selects (args := #[]) (mvT hZ (ow hw 70 rfl))) (mvT hZ (ow hw 70 rfl)) (mvT hZ (ow hw 69 rfl)) (by decide) (backOf (W := 0) (rmEqS l Z a0 hw [] x1 h0 n0 O) hZ (ow hw 71 rfl) (ow hw 9 rfl) (by decide) (by decide)) q7a q7c (g := (mkF m 31 #[rv a1, rv a1, rv a1] [.ref x1, .ref x1])) rfl (by rw [hml]; rfl) (Steps.refl _) (argsL := [(.ref x1)]) (rest := []) (lenOf pd_7 rfl) rfl (by show 2 * 0 + _ ≤ _; exact Nat.le_of_eq rfl) (hb hby d10_31) (fun _ _ => ⟨rfl, e6, (by decide : 0 + 0 ≤ _), (by decide : 0 + 0 ≤ _)⟩)
  dsimp only [Pt.U, Pt.locs, Pt.cells, Pt.slots] at X7 lq7 yq7 zq7 st7 hQ7
  subst lq7 yq7 zq7
  obtain ⟨rfl, rfl, e7⟩ := hQ7
  try rw [List.append_nil] at X7
  refine gb (fun _ k => st7.trans k) ?_
  show G T7 (mkF m 34 #[rv a1, rv a1, rv a1] [.int 1])
  refine gb (fun _ k => XS.ifNo X7.here hx rfl (hb hby d10_34) rfl ((if0 _ _).trans (feq (by decide : ¬ ((1 : Int32) = (0 : Int32)))).1) (XS.iconst X7.here hx rfl (hb hby d10_37) (XS.goto X7.here hx rfl (pc0 := 38) (pc' := 42) rfl (hb hby d10_38) (by decide) (by decide) k))) ?_
  show G T7 (mkF m 42 #[rv a1, rv a1, rv a1] [.int 1])
  exact go X7 (v := (some (.int (1 : Int32)))) (fun h => by rw [Bd.returns] at h; cases h) (fun fs hr => retOut X7 hx Bd.returns rfl (Or.inl ⟨rfl, by simp, _, rfl⟩) (hb hby d10_42) hr) (⟨rfl, rfl, e7⟩) (by decide) (by decide)
def Q_rmJ (Z : State) (a1 a2 a3 a4 a5 a6 d1 d2 : Addr) (k3 k4 : ClassId) (z3 z4 : Int32) (xs ys : List Int32) (k1 : Int32) (h0 : Heap) (n0 : Nat) (zc : Int32) : Option Value → Heap → List Loc → Prop := fun v h L => v = some (.int k1) ∧ L = [] ∧ h = h0
set_option maxRecDepth 65536 in
set_option maxHeartbeats 40000000 in
theorem rmJ (l : Launch) (Z : State) (a0 : Array Value) (hw : ∀ d ∈ tables_1, d.before a0 Z = true) (ws : List Jvm.Cond) (a1 a2 a3 a4 a5 a6 d1 d2 : Addr) (k3 k4 : ClassId) (z3 z4 : Int32) (xs ys : List Int32) (k1 : Int32) (h0 : Heap) (n0 : Nat) (O : Old Z n0 h0) (E_a1 : Exa Z h0 a1 "com/example/equipe/equipe/JobResult") (F_status_a1 : Fld Z h0 a1 "com/example/equipe/equipe/JobResult" "status" "Lcom/example/equipe/equipe/JobResult$Status;" (.ref d1)) (F_info_a1 : Fld Z h0 a1 "com/example/equipe/equipe/JobResult" "info" "Ljava/lang/String;" (.ref a5)) (E_a2 : Exa Z h0 a2 "com/example/equipe/equipe/JobResult") (F_status_a2 : Fld Z h0 a2 "com/example/equipe/equipe/JobResult" "status" "Lcom/example/equipe/equipe/JobResult$Status;" (.ref d2)) (F_info_a2 : Fld Z h0 a2 "com/example/equipe/equipe/JobResult" "info" "Ljava/lang/String;" (.ref a6)) (E_a5 : Exa Z h0 a5 "java/lang/String") (E_a6 : Exa Z h0 a6 "java/lang/String") (F_c1 : Fld Z h0 a5 "java/lang/String" "coder" "B" (.int (0 : Int32))) (F_v1 : Fld Z h0 a5 "java/lang/String" "value" "[B" (.ref a3)) (F_c2 : Fld Z h0 a6 "java/lang/String" "coder" "B" (.int (0 : Int32))) (F_v2 : Fld Z h0 a6 "java/lang/String" "value" "[B" (.ref a4)) (V_a3 : Arv Z h0 a3 k3 .byte z3 (xs.map Value.int) (.int (0 : Int32))) (V_a4 : Arv Z h0 a4 k4 .byte z4 (ys.map Value.int) (.int (0 : Int32))) (hz3 : z3.toNatClampNeg = xs.length) (hz4 : z4.toNatClampNeg = ys.length) (ne_a5_a6 : ¬ a5 = a6) (zc : Int32) (S_cs : Sta Z Z.heap "java/lang/String" "COMPACT_STRINGS" "Z" (.int zc)) (hzc : ¬ zc = (0 : Int32)) (hr1 : d1 = d2 → (if xs = ys then (1 : Int32) else (0 : Int32)) = k1) (hr0 : ¬ d1 = d2 → (0 : Int32) = k1) :
    MetFree l (⟨"com/example/equipe/equipe/JobResult", "equals", "(Ljava/lang/Object;)Z"⟩ : MethodName) (head1 (Jvm.Cond.code (⟨"com/example/equipe/equipe/JobResult", "equals", "(Ljava/lang/Object;)Z"⟩ : MethodName) prog_5_method_4_code 3 (some .boolean) :: ws) ({ frames := 2, cells := 0, slots := 0, locals := 28 } : Room)) (fun a U => a = #[(.ref a1), (.ref a2)] ∧ Z.Warmed39 U.vm ∧ U.heap = h0) (fun _ _ _ _ _ => True) (fun _ U o U' => ∃ v L, o = .returned v ∧ (Q_rmJ Z a1 a2 a3 a4 a5 a6 d1 d2 k3 k4 z3 z4 xs ys k1 h0 n0 zc) v U'.heap L ∧ FrameEnd U o U' L ({ frames := 2, cells := 0, slots := 0, locals := 28 } : Room).cells ({ frames := 2, cells := 0, slots := 0, locals := 28 } : Room).slots) := by
  refine MetFree.of_bodySF (plainFor_of_name pn_5) hisR ?_
  intro p e s m args below meth c s₁ Bd hml0 hP hK
  obtain ⟨rfl, hZ, hh⟩ := hP
  have hx := Bd.exec
  have hby := Bd.bytes
  have hml : c.maxLocals = 3 := hml0
  have hown : s.vm.findClass "com/example/equipe/equipe/JobResult" = some m.cls := findClass_of_methodNamed Bd.named
  have hnm := (name_of_methodNamed Bd.named Bd.method).1
  have hlk := BodyLoose.notSynchronized Bd
  have X0 : Stand p l e ({ frames := 2, cells := 0, slots := 0, locals := 28 } : Room) s m #[(.ref a1), (.ref a2)] below meth c s₁ [] 0 0 := Stand.of_body Bd
  have e0 : s₁.heap = h0 := by rw [← hh, Bd.state]; rfl
  have N := Fr.nil n0
  obtain ⟨G, hG⟩ : ∃ G : State → JFrame → Prop, G = OwnG p e below s ({ frames := 2, cells := 0, slots := 0, locals := 28 } : Room).cells ({ frames := 2, cells := 0, slots := 0, locals := 28 } : Room).slots (Q_rmJ Z a1 a2 a3 a4 a5 a6 d1 d2 k3 k4 z3 z4 xs ys k1 h0 n0 zc) := ⟨_, rfl⟩
  have gb : ∀ {T T' : State} {g g' : JFrame}, (∀ t, Steps p.tables e below (T'.setTop g') t → Steps p.tables e below (T.setTop g) t) → G T' g' → G T g := by subst hG; exact fun k h => own_by k h
  have go : ∀ {T : State} {locs : List Loc} {cells slots : Nat} {g : JFrame} {v : Option Value}, Stand p l e ({ frames := 2, cells := 0, slots := 0, locals := 28 } : Room) s m #[(.ref a1), (.ref a2)] below meth c T locs cells slots → (meth.sig.returnType = none → v = none) → (∀ fs, (∀ (f : JFrame) (acts : List Action), f.method = m → f.locked = none → f.entered = [] → (doReturn e (T.setTop f) acts v).1 = T.setFrames fs) → Steps p.tables e below (T.setTop g) (T.setFrames fs)) → (Q_rmJ Z a1 a2 a3 a4 a5 a6 d1 d2 k3 k4 z3 z4 xs ys k1 h0 n0 zc) v T.heap locs → cells ≤ ({ frames := 2, cells := 0, slots := 0, locals := 28 } : Room).cells → slots ≤ ({ frames := 2, cells := 0, slots := 0, locals := 28 } : Room).slots → G T g := by subst hG; exact fun X h1 h2 h3 h4 h5 => own_out X hlk h1 h2 h3 h4 h5
  show OwnG p e below s ({ frames := 2, cells := 0, slots := 0, locals := 28 } : Room).cells ({ frames := 2, cells := 0, slots := 0, locals := 28 } : Room).slots (Q_rmJ Z a1 a2 a3 a4 a5 a6 d1 d2 k3 k4 z3 z4 xs ys k1 h0 n0 zc) s₁ (entryFrame m #[(.ref a1), (.ref a2)] 3)
  rw [← hG, ef_rmJ m a1 a2]
  clear hG
  show G s₁ (mkF m 0 #[.val (.ref a1), .val (.ref a2), .unset] [])
  refine gb (fun _ k => XS.aloadN X0.here hx rfl (hb hby d10_0) rfl rfl k) ?_
  show G s₁ (mkF m 1 #[rv a1, rv a2, .unset] [.ref a2])
  obtain ⟨T1, X1, e1, st1⟩ := instY X0 hx hZ hown (ow hw 65 rfl) e0 (Ins.self E_a2) (g := (mkF m 1 #[rv a1, rv a2, .unset] [.ref a2])) rfl rfl (hb hby d10_1)
  refine gb st1 ?_
  show G T1 (mkF m 4 #[rv a1, rv a2, .unset] [.int 1])
  refine gb (fun _ k => XS.ifNo X1.here hx rfl (hb hby d10_4) rfl ((if0 _ _).trans (feq (by decide : ¬ ((1 : Int32) = (0 : Int32)))).1) (XS.aloadN X1.here hx rfl (hb hby d10_7) rfl rfl k)) ?_
  show G T1 (mkF m 8 #[rv a1, rv a2, .unset] [.ref a2])
  obtain ⟨T2, X2, e2, st2⟩ := castY X1 hx hZ hown (ow hw 65 rfl) e1 (Ins.self E_a2) (g := (mkF m 8 #[rv a1, rv a2, .unset] [.ref a2])) rfl rfl (hb hby d10_8)
  refine gb st2 ?_
  show G T2 (mkF m 11 #[rv a1, rv a2, .unset] [.ref a2])
  refine gb (fun _ k => XS.astoreN X2.here hx rfl (hb hby d10_11) rfl rfl (l' := #[rv a1, rv a2, rv a2]) rfl (XS.aloadN X2.here hx rfl (hb hby d10_12) rfl rfl k)) ?_
  show G T2 (mkF m 13 #[rv a1, rv a2, rv a2] [.ref a1])
  obtain ⟨T3, X3, e3, st3⟩ := getF X2 hx hZ hown (host := "") (Or.inl (ow hw 54 rfl)) Via.refl e2 F_status_a1 (g := (mkF m 13 #[rv a1, rv a2, rv a2] [.ref a1])) rfl rfl (hb hby d10_13)
  refine gb st3 ?_
  show G T3 (mkF m 16 #[rv a1, rv a2, rv a2] [.ref d1])
  refine gb (fun _ k => XS.aloadN X3.here hx rfl (hb hby d10_16) rfl rfl k) ?_
  show G T3 (mkF m 17 #[rv a1, rv a2, rv a2] [.ref a2, .ref d1])
  obtain ⟨T4, X4, e4, st4⟩ := getF X3 hx hZ hown (host := "") (Or.inl (ow hw 54 rfl)) Via.refl e3 F_status_a2 (g := (mkF m 17 #[rv a1, rv a2, rv a2] [.ref a2, .ref d1])) rfl rfl (hb hby d10_17)
  refine gb st4 ?_
  show G T4 (mkF m 20 #[rv a1, rv a2, rv a2] [.ref d2, .ref d1])
  by_cases ha20 : d1 = d2
  · skip
    refine gb (fun _ k => Jvm.RoadKit.acmp (g := (mkF m 20 #[rv a1, rv a2, rv a2] [.ref d2, .ref d1])) X4 hx rfl rfl rfl (pc0 := 20) (pc' := 23) (same := true) rfl (hb hby d10_20) rfl (decide_eq_true (congrArg Value.ref ha20)) (by decide) (by decide) (XS.aloadN X4.here hx rfl (hb hby d10_23) rfl rfl k)) ?_
    show G T4 (mkF m 24 #[rv a1, rv a2, rv a2] [.ref a1])
    obtain ⟨T5, X5, e5, st5⟩ := getF X4 hx hZ hown (host := "") (Or.inl (ow hw 58 rfl)) Via.refl e4 F_info_a1 (g := (mkF m 24 #[rv a1, rv a2, rv a2] [.ref a1])) rfl rfl (hb hby d10_24)
    refine gb st5 ?_
    show G T5 (mkF m 27 #[rv a1, rv a2, rv a2] [.ref a5])
    refine gb (fun _ k => XS.aloadN X5.here hx rfl (hb hby d10_27) rfl rfl k) ?_
    show G T5 (mkF m 28 #[rv a1, rv a2, rv a2] [.ref a2, .ref a5])
    obtain ⟨T6, X6, e6, st6⟩ := getF X5 hx hZ hown (host := "") (Or.inl (ow hw 58 rfl)) Via.refl e5 F_info_a2 (g := (mkF m 28 #[rv a1, rv a2, rv a2] [.ref a2, .ref a5])) rfl rfl (hb hby d10_28)
    refine gb st6 ?_
    show G T6 (mkF m 31 #[rv a1, rv a2, rv a2] [.ref a6, .ref a5])
    obtain ⟨cq7, kq7, q7a, q7b, q7c⟩ := isOf hZ e6 E_a5
    obtain ⟨_, _, ⟨T7, Lz7, kz7, nz7⟩, -, X7, ⟨Lc7, hQ7, lq7, yq7, zq7⟩, st7⟩ := X6.virtualBack hx (y := (⟨"java/lang/String", "equals", "(Ljava/lang/Object;)Z"⟩ : MethodName)) (z := (⟨"java/lang/String", "equals", "(Ljava/lang/Object;)Z"⟩ : MethodName)) hown (mvT hZ (ow hw 67 rfl)) (mvT hZ (ow hw 68 rfl)) (notFace_of_selects (args := #[]) (mvT hZ (ow hw 70 rfl))) (mvT hZ (ow hw 70 rfl)) (mvT hZ (ow hw 69 rfl)) (by decide) (backOf (W := 0) (rmEq l Z a0 hw [] a5 a6 a3 a4 k3 k4 z3 z4 xs ys h0 n0 O E_a5 E_a6 F_c1 F_v1 F_c2 F_v2 V_a3 V_a4 hz3 hz4 zc S_cs hzc ne_a5_a6) hZ (ow hw 71 rfl) (ow hw 9 rfl) (by decide) (by decide)) q7a q7c (g := (mkF m 31 #[rv a1, rv a2, rv a2] [.ref a6, .ref a5])) rfl (by rw [hml]; rfl) (Steps.refl _) (argsL := [(.ref a6)]) (rest := []) (lenOf pd_7 rfl) rfl (by show 2 * 0 + _ ≤ _; exact Nat.le_of_eq rfl) (hb hby d10_31) (fun _ _ => ⟨rfl, e6, (by decide : 0 + 0 ≤ _), (by decide : 0 + 0 ≤ _)⟩)
    dsimp only [Pt.U, Pt.locs, Pt.cells, Pt.slots] at X7 lq7 yq7 zq7 st7 hQ7
    subst lq7 yq7 zq7
    obtain ⟨rfl, rfl, e7⟩ := hQ7
    try rw [List.append_nil] at X7
    refine gb (fun _ k => st7.trans k) ?_
    show G T7 (mkF m 34 #[rv a1, rv a2, rv a2] [.int (if xs = ys then (1 : Int32) else (0 : Int32))])
    by_cases hc34 : (if xs = ys then (1 : Int32) else (0 : Int32)) = (0 : Int32)
    · skip
      refine gb (fun _ k => XS.ifYes X7.here hx rfl (pc0 := 34) (pc' := 41) rfl (hb hby d10_34) rfl ((if0 _ _).trans (teq hc34).1) (by decide) (by decide) (XS.iconst X7.here hx rfl (hb hby d10_41) k)) ?_
      show G T7 (mkF m 42 #[rv a1, rv a2, rv a2] [.int 0])
      exact go X7 (v := (some (.int (0 : Int32)))) (fun h => by rw [Bd.returns] at h; cases h) (fun fs hr => retOut X7 hx Bd.returns rfl (Or.inl ⟨rfl, by simp, _, rfl⟩) (hb hby d10_42) hr) (⟨by rw [← hr1 ha20, hc34], rfl, e7⟩) (by decide) (by decide)
    · skip
      refine gb (fun _ k => XS.ifNo X7.here hx rfl (hb hby d10_34) rfl ((if0 _ _).trans (feq hc34).1) (XS.iconst X7.here hx rfl (hb hby d10_37) (XS.goto X7.here hx rfl (pc0 := 38) (pc' := 42) rfl (hb hby d10_38) (by decide) (by decide) k))) ?_
      show G T7 (mkF m 42 #[rv a1, rv a2, rv a2] [.int 1])
      exact go X7 (v := (some (.int (1 : Int32)))) (fun h => by rw [Bd.returns] at h; cases h) (fun fs hr => retOut X7 hx Bd.returns rfl (Or.inl ⟨rfl, by simp, _, rfl⟩) (hb hby d10_42) hr) (⟨by rw [← hr1 ha20, if_pos (own_e1 hc34)], rfl, e7⟩) (by decide) (by decide)
  · skip
    refine gb (fun _ k => Jvm.RoadKit.acmp (g := (mkF m 20 #[rv a1, rv a2, rv a2] [.ref d2, .ref d1])) X4 hx rfl rfl rfl (pc0 := 20) (pc' := 41) (same := false) rfl (hb hby d10_20) rfl (decide_eq_false fun q => ha20 (Value.ref.inj q)) (by decide) (by decide) (XS.iconst X4.here hx rfl (hb hby d10_41) k)) ?_
    show G T4 (mkF m 42 #[rv a1, rv a2, rv a2] [.int 0])
    exact go X4 (v := (some (.int (0 : Int32)))) (fun h => by rw [Bd.returns] at h; cases h) (fun fs hr => retOut X4 hx Bd.returns rfl (Or.inl ⟨rfl, by simp, _, rfl⟩) (hb hby d10_42) hr) (⟨by rw [← hr0 ha20], rfl, e4⟩) (by decide) (by decide)
def Q_rm0 (Z : State) (i0 i1 i2 i3 i4 : Int32) (h0 : Heap) (n0 : Nat) (zc : Int32) (w_SUCCESS : Addr) (w_FAILURE : Addr) : Option Value → Heap → List Loc → Prop := fun v h L => v = some (.int 1) ∧ Fr n0 L
set_option maxRecDepth 65536 in
set_option maxHeartbeats 40000000 in
theorem rm0 (l : Launch) (Z : State) (a0 : Array Value) (hw : ∀ d ∈ tables_1, d.before a0 Z = true) (ws : List Jvm.Cond) (i0 i1 i2 i3 i4 : Int32) (h0 : Heap) (n0 : Nat) (O : Old Z n0 h0) (zc : Int32) (S_cs : Sta Z Z.heap "java/lang/String" "COMPACT_STRINGS" "Z" (.int zc)) (hzc : ¬ zc = (0 : Int32)) (w_SUCCESS : Addr) (S_SUCCESS : Sta Z Z.heap "com/example/equipe/equipe/JobResult$Status" "SUCCESS" "Lcom/example/equipe/equipe/JobResult$Status;" (.ref w_SUCCESS)) (E_SUCCESS : Exa Z Z.heap w_SUCCESS "com/example/equipe/equipe/JobResult$Status") (w_FAILURE : Addr) (S_FAILURE : Sta Z Z.heap "com/example/equipe/equipe/JobResult$Status" "FAILURE" "Lcom/example/equipe/equipe/JobResult$Status;" (.ref w_FAILURE)) (E_FAILURE : Exa Z Z.heap w_FAILURE "com/example/equipe/equipe/JobResult$Status") (hEL : EW Z a0 [("java/lang/String", 7)]) (hHC : CHv Z [("java/lang/String", 7)] Z.vm Z.heap) :
    MetFree l x (head1 (Jvm.Cond.code x code maxLocals ret :: ws) room_1) (fun a U => a = #[(.int i0), (.int i1), (.int i2), (.int i3), (.int i4)] ∧ Z.Warmed39 U.vm ∧ U.heap = h0 ∧ U = Z) (fun _ _ _ _ _ => True) (fun _ U o U' => ∃ v L, o = .returned v ∧ (Q_rm0 Z i0 i1 i2 i3 i4 h0 n0 zc w_SUCCESS w_FAILURE) v U'.heap L ∧ ReturnedEndW U o U' L 22 124) := by
  refine MetFree.of_bodySF (plainFor_of_name pn_3) hisR ?_
  intro p e s m args below meth c s₁ Bd hml0 hP hK
  obtain ⟨rfl, hZ, hh, hUZ⟩ := hP
  have hx := Bd.exec
  have hby := Bd.bytes
  have hml : c.maxLocals = 18 := hml0
  have hown : s.vm.findClass "com/example/equipe/equipe/JobResultEqualsPinLaw" = some m.cls := findClass_of_methodNamed Bd.named
  have hnm := (name_of_methodNamed Bd.named Bd.method).1
  have hlk := BodyLoose.notSynchronized Bd
  have X0 : Stand p l e room_1 (s.setVm s.vm) m #[(.int i0), (.int i1), (.int i2), (.int i3), (.int i4)] below meth c s₁ [] 0 0 := Stand.of_body Bd
  have e0 : s₁.heap = h0 := by rw [← hh, Bd.state]; rfl
  have N := Fr.nil n0
  have O0 := O
  have hS : s.Since s.vm h0.size := (State.WarmedH.refl s).since _
  have hk := Nat.le_refl h0.size
  have HR : CHr Z [("java/lang/String", 7)] s.vm h0 s.vm h0 := CHr.refl (by rw [← hh, hUZ]; exact hHC)
  obtain ⟨G, hG⟩ : ∃ G : State → JFrame → Prop, G = OwnGW p e below s 22 124 (Q_rm0 Z i0 i1 i2 i3 i4 h0 n0 zc w_SUCCESS w_FAILURE) := ⟨_, rfl⟩
  have gb : ∀ {T T' : State} {g g' : JFrame}, (∀ t, Steps p.tables e below (T'.setTop g') t → Steps p.tables e below (T.setTop g) t) → G T' g' → G T g := by subst hG; exact fun k h => own_byW k h
  have go : ∀ {T : State} {locs : List Loc} {cells slots : Nat} {g : JFrame} {v : Option Value} {vm : Vm} {k : Nat}, Stand p l e room_1 (s.setVm vm) m #[(.int i0), (.int i1), (.int i2), (.int i3), (.int i4)] below meth c T locs cells slots → s.Since vm k → k ≤ T.heap.size → (meth.sig.returnType = none → v = none) → (∀ fs, (∀ (f : JFrame) (acts : List Action), f.method = m → f.locked = none → f.entered = [] → (doReturn e (T.setTop f) acts v).1 = T.setFrames fs) → Steps p.tables e below (T.setTop g) (T.setFrames fs)) → (Q_rm0 Z i0 i1 i2 i3 i4 h0 n0 zc w_SUCCESS w_FAILURE) v T.heap locs → cells ≤ 22 → slots ≤ 124 → G T g := by subst hG; exact fun X a b h1 h2 h3 h4 h5 => own_outW X a b hlk h1 h2 h3 h4 h5
  show OwnGW p e below s 22 124 (Q_rm0 Z i0 i1 i2 i3 i4 h0 n0 zc w_SUCCESS w_FAILURE) s₁ (entryFrame m #[(.int i0), (.int i1), (.int i2), (.int i3), (.int i4)] maxLocals)
  rw [← hG, ef_rm0 m i0 i1 i2 i3 i4]
  clear hG
  show G s₁ (mkF m 0 #[.val (.int i0), .val (.int i1), .val (.int i2), .val (.int i3), .val (.int i4), .unset, .unset, .unset, .unset, .unset, .unset, .unset, .unset, .unset, .unset, .unset, .unset, .unset] [])
  have J1 : ∀ (T1 : State) (locs1 : List Loc) (vm1 : Vm) (kn1 : Nat) (hS : s.Since vm1 kn1) (hk : kn1 ≤ h0.size) (hZ : Z.Warmed39 (s.setVm vm1).vm) (hown : (s.setVm vm1).vm.findClass "com/example/equipe/equipe/JobResultEqualsPinLaw" = some m.cls) (X1 : Stand p l e room_1 (s.setVm vm1) m #[(.int i0), (.int i1), (.int i2), (.int i3), (.int i4)] below meth c T1 locs1 0 0) (N : Fr n0 locs1) (e1 : T1.heap = h0) (HR : CHr Z [("java/lang/String", 7)] s.vm h0 vm1 h0)   (t1 : Addr) (Et1 : Exa Z Z.heap t1 "com/example/equipe/equipe/JobResult$Status"), G T1 (mkF m 15 #[iv i0, iv i1, iv i2, iv i3, iv i4, .unset, .unset, .unset, .unset, .unset, .unset, .unset, .unset, .unset, .unset, .unset, .unset, .unset] [.ref t1]) := by
    intro T1 locs1 vm1 kn1 hS hk hZ hown X1 N e1 HR t1 Et1
    show G T1 (mkF m 15 #[iv i0, iv i1, iv i2, iv i3, iv i4, .unset, .unset, .unset, .unset, .unset, .unset, .unset, .unset, .unset, .unset, .unset, .unset, .unset] [.ref t1])
    refine gb (fun _ k => XS.astore X1.here hx rfl (hb hby at_15) rfl rfl (l' := #[iv i0, iv i1, iv i2, iv i3, iv i4, rv t1, .unset, .unset, .unset, .unset, .unset, .unset, .unset, .unset, .unset, .unset, .unset, .unset]) rfl k) ?_
    show G T1 (mkF m 17 #[iv i0, iv i1, iv i2, iv i3, iv i4, rv t1, .unset, .unset, .unset, .unset, .unset, .unset, .unset, .unset, .unset, .unset, .unset, .unset] [])
    have J2 : ∀ (T2 : State) (locs2 : List Loc) (vm2 : Vm) (kn2 : Nat) (hS : s.Since vm2 kn2) (hk : kn2 ≤ h0.size) (hZ : Z.Warmed39 (s.setVm vm2).vm) (hown : (s.setVm vm2).vm.findClass "com/example/equipe/equipe/JobResultEqualsPinLaw" = some m.cls) (X2 : Stand p l e room_1 (s.setVm vm2) m #[(.int i0), (.int i1), (.int i2), (.int i3), (.int i4)] below meth c T2 locs2 0 0) (N : Fr n0 locs2) (e2 : T2.heap = h0) (HR : CHr Z [("java/lang/String", 7)] s.vm h0 vm2 h0)   (t2 : Addr) (Et2 : Exa Z Z.heap t2 "com/example/equipe/equipe/JobResult$Status"), G T2 (mkF m 32 #[iv i0, iv i1, iv i2, iv i3, iv i4, rv t1, .unset, .unset, .unset, .unset, .unset, .unset, .unset, .unset, .unset, .unset, .unset, .unset] [.ref t2]) := by
      intro T2 locs2 vm2 kn2 hS hk hZ hown X2 N e2 HR t2 Et2
      show G T2 (mkF m 32 #[iv i0, iv i1, iv i2, iv i3, iv i4, rv t1, .unset, .unset, .unset, .unset, .unset, .unset, .unset, .unset, .unset, .unset, .unset, .unset] [.ref t2])
      refine gb (fun _ k => XS.astore X2.here hx rfl (hb hby at_32) rfl rfl (l' := #[iv i0, iv i1, iv i2, iv i3, iv i4, rv t1, rv t2, .unset, .unset, .unset, .unset, .unset, .unset, .unset, .unset, .unset, .unset, .unset]) rfl (XS.iloadN X2.here hx rfl (hb hby at_34) rfl (XS.iconst X2.here hx rfl (hb hby at_35) (XS.iushr X2.here hx rfl (hb hby at_36) rfl (XS.iconst X2.here hx rfl (hb hby at_37) (iremM X2 hx rfl (hb hby at_38) rfl (by decide) k)))))) ?_
      show G T2 (mkF m 39 #[iv i0, iv i1, iv i2, iv i3, iv i4, rv t1, rv t2, .unset, .unset, .unset, .unset, .unset, .unset, .unset, .unset, .unset, .unset, .unset] [.int (((i0.toUInt32 >>> ((1 : Int32) &&& 31).toUInt32).toInt32) % (3 : Int32))])
      refine gb (fun _ k => XS.istore X2.here hx rfl (hb hby at_39) rfl (l' := #[iv i0, iv i1, iv i2, iv i3, iv i4, rv t1, rv t2, iv (((i0.toUInt32 >>> ((1 : Int32) &&& 31).toUInt32).toInt32) % (3 : Int32)), .unset, .unset, .unset, .unset, .unset, .unset, .unset, .unset, .unset, .unset]) rfl k) ?_
      show G T2 (mkF m 41 #[iv i0, iv i1, iv i2, iv i3, iv i4, rv t1, rv t2, iv (((i0.toUInt32 >>> ((1 : Int32) &&& 31).toUInt32).toInt32) % (3 : Int32)), .unset, .unset, .unset, .unset, .unset, .unset, .unset, .unset, .unset, .unset] [])
      have hn1 := own_m3 i0
      generalize (((i0.toUInt32 >>> ((1 : Int32) &&& 31).toUInt32).toInt32) % (3 : Int32)) = n1 at hn1 ⊢
      show G T2 (mkF m 41 #[iv i0, iv i1, iv i2, iv i3, iv i4, rv t1, rv t2, iv n1, .unset, .unset, .unset, .unset, .unset, .unset, .unset, .unset, .unset, .unset] [])
      refine gb (fun _ k => XS.iload X2.here hx rfl (hb hby at_41) rfl k) ?_
      show G T2 (mkF m 43 #[iv i0, iv i1, iv i2, iv i3, iv i4, rv t1, rv t2, iv n1, .unset, .unset, .unset, .unset, .unset, .unset, .unset, .unset, .unset, .unset] [.int i4])
      have J3 : ∀ (T3 : State) (locs3 : List Loc) (vm3 : Vm) (kn3 : Nat) (hS : s.Since vm3 kn3) (hk : kn3 ≤ h0.size) (hZ : Z.Warmed39 (s.setVm vm3).vm) (hown : (s.setVm vm3).vm.findClass "com/example/equipe/equipe/JobResultEqualsPinLaw" = some m.cls) (X3 : Stand p l e room_1 (s.setVm vm3) m #[(.int i0), (.int i1), (.int i2), (.int i3), (.int i4)] below meth c T3 locs3 0 0) (N : Fr n0 locs3) (e3 : T3.heap = h0) (HR : CHr Z [("java/lang/String", 7)] s.vm h0 vm3 h0)   (n2 : Int32) (hn2 : n2 = 0 ∨ n2 = 1 ∨ n2 = 2), G T3 (mkF m 58 #[iv i0, iv i1, iv i2, iv i3, iv i4, rv t1, rv t2, iv n1, .unset, .unset, .unset, .unset, .unset, .unset, .unset, .unset, .unset, .unset] [.int n2]) := by
        intro T3 locs3 vm3 kn3 hS hk hZ hown X3 N e3 HR n2 hn2
        show G T3 (mkF m 58 #[iv i0, iv i1, iv i2, iv i3, iv i4, rv t1, rv t2, iv n1, .unset, .unset, .unset, .unset, .unset, .unset, .unset, .unset, .unset, .unset] [.int n2])
        refine gb (fun _ k => XS.istore X3.here hx rfl (hb hby at_58) rfl (l' := #[iv i0, iv i1, iv i2, iv i3, iv i4, rv t1, rv t2, iv n1, iv n2, .unset, .unset, .unset, .unset, .unset, .unset, .unset, .unset, .unset]) rfl (XS.iloadN X3.here hx rfl (hb hby at_60) rfl k)) ?_
        show G T3 (mkF m 61 #[iv i0, iv i1, iv i2, iv i3, iv i4, rv t1, rv t2, iv n1, iv n2, .unset, .unset, .unset, .unset, .unset, .unset, .unset, .unset, .unset] [.int i1])
        have J4 : ∀ (T4 : State) (locs4 : List Loc) (vm4 : Vm) (kn4 : Nat) (hS : s.Since vm4 kn4) (hk : kn4 ≤ h0.size) (hZ : Z.Warmed39 (s.setVm vm4).vm) (hown : (s.setVm vm4).vm.findClass "com/example/equipe/equipe/JobResultEqualsPinLaw" = some m.cls) (X4 : Stand p l e room_1 (s.setVm vm4) m #[(.int i0), (.int i1), (.int i2), (.int i3), (.int i4)] below meth c T4 locs4 0 0) (N : Fr n0 locs4) (e4 : T4.heap = h0) (HR : CHr Z [("java/lang/String", 7)] s.vm h0 vm4 h0)   (f0 : Int32) (f1 : Int32) (hd_f0 : ¬ ((255 : Int32) < f0)) (he_f0 : ¬ (f0 < (0 : Int32))) (hd_f1 : ¬ ((255 : Int32) < f1)) (he_f1 : ¬ (f1 < (0 : Int32))), G T4 (mkF m 79 #[iv i0, iv i1, iv i2, iv i3, iv i4, rv t1, rv t2, iv n1, iv n2, iv f0, iv f1, .unset, .unset, .unset, .unset, .unset, .unset, .unset] []) := by
          intro T4 locs4 vm4 kn4 hS hk hZ hown X4 N e4 HR f0 f1 hd_f0 he_f0 hd_f1 he_f1
          show G T4 (mkF m 79 #[iv i0, iv i1, iv i2, iv i3, iv i4, rv t1, rv t2, iv n1, iv n2, iv f0, iv f1, .unset, .unset, .unset, .unset, .unset, .unset, .unset] [])
          have J5 : ∀ (T5 : State) (locs5 : List Loc) (vm5 : Vm) (kn5 : Nat) (hS : s.Since vm5 kn5) (hk : kn5 ≤ h0.size) (hZ : Z.Warmed39 (s.setVm vm5).vm) (hown : (s.setVm vm5).vm.findClass "com/example/equipe/equipe/JobResultEqualsPinLaw" = some m.cls) (X5 : Stand p l e room_1 (s.setVm vm5) m #[(.int i0), (.int i1), (.int i2), (.int i3), (.int i4)] below meth c T5 locs5 0 0) (N : Fr n0 locs5) (e5 : T5.heap = h0) (HR : CHr Z [("java/lang/String", 7)] s.vm h0 vm5 h0)   (e0 : Int32) (hd_e0 : ¬ ((255 : Int32) < e0)) (he_e0 : ¬ (e0 < (0 : Int32))), G T5 (mkF m 98 #[iv i0, iv i1, iv i2, iv i3, iv i4, rv t1, rv t2, iv n1, iv n2, iv f0, iv f1, .unset, .unset, .unset, .unset, .unset, .unset, .unset] [.int e0]) := by
            intro T5 locs5 vm5 kn5 hS hk hZ hown X5 N e5 HR e0 hd_e0 he_e0
            show G T5 (mkF m 98 #[iv i0, iv i1, iv i2, iv i3, iv i4, rv t1, rv t2, iv n1, iv n2, iv f0, iv f1, .unset, .unset, .unset, .unset, .unset, .unset, .unset] [.int e0])
            refine gb (fun _ k => XS.istore X5.here hx rfl (hb hby at_98) rfl (l' := #[iv i0, iv i1, iv i2, iv i3, iv i4, rv t1, rv t2, iv n1, iv n2, iv f0, iv f1, iv e0, .unset, .unset, .unset, .unset, .unset, .unset]) rfl k) ?_
            show G T5 (mkF m 100 #[iv i0, iv i1, iv i2, iv i3, iv i4, rv t1, rv t2, iv n1, iv n2, iv f0, iv f1, iv e0, .unset, .unset, .unset, .unset, .unset, .unset] [])
            have J6 : ∀ (T6 : State) (locs6 : List Loc) (vm6 : Vm) (kn6 : Nat) (hS : s.Since vm6 kn6) (hk : kn6 ≤ h0.size) (hZ : Z.Warmed39 (s.setVm vm6).vm) (hown : (s.setVm vm6).vm.findClass "com/example/equipe/equipe/JobResultEqualsPinLaw" = some m.cls) (X6 : Stand p l e room_1 (s.setVm vm6) m #[(.int i0), (.int i1), (.int i2), (.int i3), (.int i4)] below meth c T6 locs6 0 0) (N : Fr n0 locs6) (e6 : T6.heap = h0) (HR : CHr Z [("java/lang/String", 7)] s.vm h0 vm6 h0)   (e1 : Int32) (hd_e1 : ¬ ((255 : Int32) < e1)) (he_e1 : ¬ (e1 < (0 : Int32))), G T6 (mkF m 121 #[iv i0, iv i1, iv i2, iv i3, iv i4, rv t1, rv t2, iv n1, iv n2, iv f0, iv f1, iv e0, .unset, .unset, .unset, .unset, .unset, .unset] [.int e1]) := by
              intro T6 locs6 vm6 kn6 hS hk hZ hown X6 N e6 HR e1 hd_e1 he_e1
              show G T6 (mkF m 121 #[iv i0, iv i1, iv i2, iv i3, iv i4, rv t1, rv t2, iv n1, iv n2, iv f0, iv f1, iv e0, .unset, .unset, .unset, .unset, .unset, .unset] [.int e1])
              refine gb (fun _ k => XS.istore X6.here hx rfl (hb hby at_121) rfl (l' := #[iv i0, iv i1, iv i2, iv i3, iv i4, rv t1, rv t2, iv n1, iv n2, iv f0, iv f1, iv e0, iv e1, .unset, .unset, .unset, .unset, .unset]) rfl (XS.iload X6.here hx rfl (hb hby at_123) rfl (XS.iload X6.here hx rfl (hb hby at_125) rfl (XS.iload X6.here hx rfl (hb hby at_127) rfl k)))) ?_
              show G T6 (mkF m 129 #[iv i0, iv i1, iv i2, iv i3, iv i4, rv t1, rv t2, iv n1, iv n2, iv f0, iv f1, iv e0, iv e1, .unset, .unset, .unset, .unset, .unset] [.int f1, .int f0, .int n1])
              obtain ⟨_, _, ⟨T7, Lz7, kz7, nz7⟩, -, X7, hS7, hg7, ⟨Lc7, hQ7, lq7, yq7, zq7, hC7⟩, st7⟩ := callSS X6 hx (y := (⟨"com/example/equipe/equipe/JobResultEqualsPinLaw", "mk", "(ICC)Ljava/lang/String;"⟩ : MethodName)) hown (mvT hZ (ow hw 3 rfl)) (mvT hZ (ow hw 4 rfl)) (mvT hZ (ow hw 5 rfl)) (mvT hZ (ow hw 6 rfl)) (by decide) (backOfSH (W := 0) (rmM l Z a0 hw [] n1 f0 f1 h0 n0 O zc S_cs hzc hEL hd_f0 he_f0 hd_f1 he_f1) hZ (ow hw 6 rfl) (ow hw 5 rfl) (by decide) (by decide) hEL HR.1) (g := (mkF m 129 #[iv i0, iv i1, iv i2, iv i3, iv i4, rv t1, rv t2, iv n1, iv n2, iv f0, iv f1, iv e0, iv e1, .unset, .unset, .unset, .unset, .unset] [.int f1, .int f0, .int n1])) rfl (by rw [hml]; rfl) (argsL := [(.int n1), (.int f0), (.int f1)]) (rest := []) (lenOf pd_8 rfl) rfl (by show 2 * 0 + _ ≤ _; exact Nat.le_of_eq rfl) (hb hby at_129) (fun _ _ => ⟨rfl, e6, (by decide : 0 + 6 ≤ _), (by decide : 0 + 12 ≤ _)⟩)
              dsimp only [Pt.U, Pt.locs, Pt.cells, Pt.slots] at X7 lq7 yq7 zq7 st7 hQ7 hS7 hg7 hC7
              subst lq7 yq7 zq7
              obtain ⟨X7, hS, hZ, hown⟩ := rebS hS (Nat.le_trans hk (Nat.le_of_eq (congrArg Array.size e6.symm))) X7 hS7 hg7 hZ hown
              obtain ⟨h7, e7⟩ : ∃ z, z = T7.heap := ⟨_, rfl⟩
              rw [← e7] at hQ7 hC7
              replace e7 := e7.symm
              obtain ⟨x7, b7, kb7, zz7, xs7, rfl, Nq7, Kq7, hR7⟩ := hQ7
              have N := Fr.app N Nq7
              have HR := HR.trans hC7
              have hk := Nat.le_trans hk Kq7.1
              have hk : T7.heap.size ≤ h7.size := by rw [e7]; exact Nat.le_refl _
              obtain ⟨E_x7, F_coder_x7, F_value_x7, g_x7, sz_x7, V_b7, hz7, hxs7⟩ := hR7
              have O := O.keep Kq7 all0
              refine gb (fun _ k => st7.trans k) ?_
              show G T7 (mkF m 132 #[iv i0, iv i1, iv i2, iv i3, iv i4, rv t1, rv t2, iv n1, iv n2, iv f0, iv f1, iv e0, iv e1, .unset, .unset, .unset, .unset, .unset] [.ref x7])
              refine gb (fun _ k => XS.astore X7.here hx rfl (hb hby at_132) rfl rfl (l' := #[iv i0, iv i1, iv i2, iv i3, iv i4, rv t1, rv t2, iv n1, iv n2, iv f0, iv f1, iv e0, iv e1, rv x7, .unset, .unset, .unset, .unset]) rfl (XS.iload X7.here hx rfl (hb hby at_134) rfl (XS.iload X7.here hx rfl (hb hby at_136) rfl (XS.iload X7.here hx rfl (hb hby at_138) rfl k)))) ?_
              show G T7 (mkF m 140 #[iv i0, iv i1, iv i2, iv i3, iv i4, rv t1, rv t2, iv n1, iv n2, iv f0, iv f1, iv e0, iv e1, rv x7, .unset, .unset, .unset, .unset] [.int e1, .int e0, .int n2])
              have lt_x7 := E_x7.lt
              have lt_b7 := V_b7.lt
              obtain ⟨_, _, ⟨T8, Lz8, kz8, nz8⟩, -, X8, hS8, hg8, ⟨Lc8, hQ8, lq8, yq8, zq8, hC8⟩, st8⟩ := callSS X7 hx (y := (⟨"com/example/equipe/equipe/JobResultEqualsPinLaw", "mk", "(ICC)Ljava/lang/String;"⟩ : MethodName)) hown (mvT hZ (ow hw 3 rfl)) (mvT hZ (ow hw 4 rfl)) (mvT hZ (ow hw 5 rfl)) (mvT hZ (ow hw 6 rfl)) (by decide) (backOfSH (W := 0) (rmM l Z a0 hw [] n2 e0 e1 h7 n0 O zc S_cs hzc hEL hd_e0 he_e0 hd_e1 he_e1) hZ (ow hw 6 rfl) (ow hw 5 rfl) (by decide) (by decide) hEL HR.1) (g := (mkF m 140 #[iv i0, iv i1, iv i2, iv i3, iv i4, rv t1, rv t2, iv n1, iv n2, iv f0, iv f1, iv e0, iv e1, rv x7, .unset, .unset, .unset, .unset] [.int e1, .int e0, .int n2])) rfl (by rw [hml]; rfl) (argsL := [(.int n2), (.int e0), (.int e1)]) (rest := []) (lenOf pd_8 rfl) rfl (by show 2 * 0 + _ ≤ _; exact Nat.le_of_eq rfl) (hb hby at_140) (fun _ _ => ⟨rfl, e7, (by decide : 6 + 6 ≤ _), (by decide : 12 + 12 ≤ _)⟩)
              dsimp only [Pt.U, Pt.locs, Pt.cells, Pt.slots] at X8 lq8 yq8 zq8 st8 hQ8 hS8 hg8 hC8
              subst lq8 yq8 zq8
              obtain ⟨X8, hS, hZ, hown⟩ := rebS hS (Nat.le_trans hk (Nat.le_of_eq (congrArg Array.size e7.symm))) X8 hS8 hg8 hZ hown
              obtain ⟨h8, e8⟩ : ∃ z, z = T8.heap := ⟨_, rfl⟩
              rw [← e8] at hQ8 hC8
              replace e8 := e8.symm
              obtain ⟨x8, b8, kb8, zz8, xs8, rfl, Nq8, Kq8, hR8⟩ := hQ8
              have N := Fr.app N Nq8
              have HR := HR.trans hC8
              have E_x7 := E_x7.keep Kq8
              have F_coder_x7 := F_coder_x7.keep Kq8 nin0
              have F_value_x7 := F_value_x7.keep Kq8 nin0
              have V_b7 := V_b7.keep Kq8 nin0
              have hk := Nat.le_trans hk Kq8.1
              have hk : T8.heap.size ≤ h8.size := by rw [e8]; exact Nat.le_refl _
              obtain ⟨E_x8, F_coder_x8, F_value_x8, g_x8, sz_x8, V_b8, hz8, hxs8⟩ := hR8
              have O := O.keep Kq8 all0
              have ne_x7_x8 : x7 ≠ x8 := Nat.ne_of_lt (Nat.lt_of_lt_of_le lt_x7 sz_x8)
              have ne_b7_x8 : b7 ≠ x8 := Nat.ne_of_lt (Nat.lt_of_lt_of_le lt_b7 sz_x8)
              refine gb (fun _ k => st8.trans k) ?_
              show G T8 (mkF m 143 #[iv i0, iv i1, iv i2, iv i3, iv i4, rv t1, rv t2, iv n1, iv n2, iv f0, iv f1, iv e0, iv e1, rv x7, .unset, .unset, .unset, .unset] [.ref x8])
              refine gb (fun _ k => XS.astore X8.here hx rfl (hb hby at_143) rfl rfl (l' := #[iv i0, iv i1, iv i2, iv i3, iv i4, rv t1, rv t2, iv n1, iv n2, iv f0, iv f1, iv e0, iv e1, rv x7, rv x8, .unset, .unset, .unset]) rfl k) ?_
              show G T8 (mkF m 145 #[iv i0, iv i1, iv i2, iv i3, iv i4, rv t1, rv t2, iv n1, iv n2, iv f0, iv f1, iv e0, iv e1, rv x7, rv x8, .unset, .unset, .unset] [])
              obtain ⟨T9, h9, X9, e9, E9, A9, D9, U9, st9⟩ := newO X8 hx hZ hown (ow hw 40 rfl) (ow hw 41 rfl) (ow hw 42 rfl) e8 (g := (mkF m 145 #[iv i0, iv i1, iv i2, iv i3, iv i4, rv t1, rv t2, iv n1, iv n2, iv f0, iv f1, iv e0, iv e1, rv x7, rv x8, .unset, .unset, .unset] [])) rfl (hb hby at_145) (by decide) (by decide)
              obtain ⟨b9, g9⟩ : ∃ z, z = h8.size := ⟨_, rfl⟩
              rw [← g9] at A9 D9 U9 st9
              have g_b9 : n0 ≤ b9 := Nat.le_trans (by have := O.2.1; rw [O.1] at this; exact this) (Nat.le_of_eq g9.symm)
              have ne_x7_b9 : x7 ≠ b9 := Nat.ne_of_lt (Nat.lt_of_lt_of_le E_x7.lt (Nat.le_of_eq g9.symm))
              have ne_b7_b9 : b7 ≠ b9 := Nat.ne_of_lt (Nat.lt_of_lt_of_le V_b7.lt (Nat.le_of_eq g9.symm))
              have ne_x8_b9 : x8 ≠ b9 := Nat.ne_of_lt (Nat.lt_of_lt_of_le E_x8.lt (Nat.le_of_eq g9.symm))
              have ne_b8_b9 : b8 ≠ b9 := Nat.ne_of_lt (Nat.lt_of_lt_of_le V_b8.lt (Nat.le_of_eq g9.symm))
              have E_x7 := E_x7.ext E9
              have F_coder_x7 := F_coder_x7.ext E9
              have F_value_x7 := F_value_x7.ext E9
              have V_b7 := V_b7.ext E9
              have E_x8 := E_x8.ext E9
              have F_coder_x8 := F_coder_x8.ext E9
              have F_value_x8 := F_value_x8.ext E9
              have V_b8 := V_b8.ext E9
              have O := O.ext E9
              have hk := Nat.le_trans hk E9.1
              have E_b9 := A9
              have F_status_b9 : Fld Z h9 b9 "com/example/equipe/equipe/JobResult" "status" "Lcom/example/equipe/equipe/JobResult$Status;" .null := D9 (Or.inr (ow hw 55 rfl)) (ty := (.object "com/example/equipe/equipe/JobResult$Status")) (by decide)
              have F_info_b9 : Fld Z h9 b9 "com/example/equipe/equipe/JobResult" "info" "Ljava/lang/String;" .null := D9 (Or.inr (ow hw 59 rfl)) (ty := (.object "java/lang/String")) (by decide)
              refine gb st9 ?_
              show G T9 (mkF m 148 #[iv i0, iv i1, iv i2, iv i3, iv i4, rv t1, rv t2, iv n1, iv n2, iv f0, iv f1, iv e0, iv e1, rv x7, rv x8, .unset, .unset, .unset] [.ref b9])
              refine gb (fun _ k => XS.dup X9.here hx rfl (hb hby at_148) rfl rfl (XS.aload X9.here hx rfl (hb hby at_149) rfl rfl (XS.aload X9.here hx rfl (hb hby at_151) rfl rfl k))) ?_
              show G T9 (mkF m 153 #[iv i0, iv i1, iv i2, iv i3, iv i4, rv t1, rv t2, iv n1, iv n2, iv f0, iv f1, iv e0, iv e1, rv x7, rv x8, .unset, .unset, .unset] [.ref x7, .ref t1, .ref b9, .ref b9])
              obtain ⟨_, _, ⟨T10, Lz10, kz10, nz10⟩, -, X10, hS10, hg10, ⟨Lc10, hQ10, lq10, yq10, zq10⟩, st10⟩ := X9.specialBackS hx (y := (⟨"com/example/equipe/equipe/JobResult", "<init>", "(Lcom/example/equipe/equipe/JobResult$Status;Ljava/lang/String;)V"⟩ : MethodName)) rfl hown (mvT hZ (ow hw 43 rfl)) (mvT hZ (ow hw 44 rfl)) (mvT hZ (ow hw 45 rfl)) (by decide) (backOfS (W := 1) (rm8 l Z a0 hw [] b9 t1 x7 h9 n0 O E_b9 F_status_b9 F_info_b9 g_b9 (Et1.ext O.2) E_x7) hZ (ow hw 45 rfl) (ow hw 42 rfl) (by decide) (by decide)) (g := (mkF m 153 #[iv i0, iv i1, iv i2, iv i3, iv i4, rv t1, rv t2, iv n1, iv n2, iv f0, iv f1, iv e0, iv e1, rv x7, rv x8, .unset, .unset, .unset] [.ref x7, .ref t1, .ref b9, .ref b9])) rfl (by rw [hml]; rfl) (Steps.refl _) (a := b9) (argsL := [(.ref t1), (.ref x7)]) (rest := [(.ref b9)]) (lenOf pd_9 rfl) rfl (by show 2 * 0 + _ ≤ _; exact Nat.le_of_eq rfl) (hb hby at_153) (fun _ _ => ⟨rfl, e9, (by decide : 13 + 4 ≤ _), (by decide : 26 + 48 ≤ _)⟩)
              dsimp only [Pt.U, Pt.locs, Pt.cells, Pt.slots] at X10 lq10 yq10 zq10 st10 hQ10 hS10 hg10
              subst lq10 yq10 zq10
              obtain ⟨X10, hS, hZ, hown⟩ := rebS hS (Nat.le_trans hk (Nat.le_of_eq (congrArg Array.size e9.symm))) X10 hS10 hg10 hZ hown
              obtain ⟨h10, e10⟩ : ∃ z, z = T10.heap := ⟨_, rfl⟩
              rw [← e10] at hQ10
              replace e10 := e10.symm
              obtain ⟨rfl, Nq10, Kq10, hR10⟩ := hQ10
              have N := Fr.app N Nq10
              have E_x7 := E_x7.keep Kq10
              have F_coder_x7 := F_coder_x7.keep Kq10 (ninS ne_x7_b9 nin0)
              have F_value_x7 := F_value_x7.keep Kq10 (ninS ne_x7_b9 nin0)
              have V_b7 := V_b7.keep Kq10 (ninS ne_b7_b9 nin0)
              have E_x8 := E_x8.keep Kq10
              have F_coder_x8 := F_coder_x8.keep Kq10 (ninS ne_x8_b9 nin0)
              have F_value_x8 := F_value_x8.keep Kq10 (ninS ne_x8_b9 nin0)
              have V_b8 := V_b8.keep Kq10 (ninS ne_b8_b9 nin0)
              have E_b9 := E_b9.keep Kq10
              have hk := Nat.le_trans hk Kq10.1
              have hk : T10.heap.size ≤ h10.size := by rw [e10]; exact Nat.le_refl _
              obtain ⟨E_b9, F_status_b9, F_info_b9⟩ := hR10
              have O := O.keep Kq10 (allS g_b9 all0)
              refine gb (fun _ k => st10.trans k) ?_
              show G T10 (mkF m 156 #[iv i0, iv i1, iv i2, iv i3, iv i4, rv t1, rv t2, iv n1, iv n2, iv f0, iv f1, iv e0, iv e1, rv x7, rv x8, .unset, .unset, .unset] [.ref b9])
              refine gb (fun _ k => XS.astore X10.here hx rfl (hb hby at_156) rfl rfl (l' := #[iv i0, iv i1, iv i2, iv i3, iv i4, rv t1, rv t2, iv n1, iv n2, iv f0, iv f1, iv e0, iv e1, rv x7, rv x8, rv b9, .unset, .unset]) rfl k) ?_
              show G T10 (mkF m 158 #[iv i0, iv i1, iv i2, iv i3, iv i4, rv t1, rv t2, iv n1, iv n2, iv f0, iv f1, iv e0, iv e1, rv x7, rv x8, rv b9, .unset, .unset] [])
              obtain ⟨T11, h11, X11, e11, E11, A11, D11, U11, st11⟩ := newO X10 hx hZ hown (ow hw 40 rfl) (ow hw 41 rfl) (ow hw 42 rfl) e10 (g := (mkF m 158 #[iv i0, iv i1, iv i2, iv i3, iv i4, rv t1, rv t2, iv n1, iv n2, iv f0, iv f1, iv e0, iv e1, rv x7, rv x8, rv b9, .unset, .unset] [])) rfl (hb hby at_158) (by decide) (by decide)
              obtain ⟨b11, g11⟩ : ∃ z, z = h10.size := ⟨_, rfl⟩
              rw [← g11] at A11 D11 U11 st11
              have g_b11 : n0 ≤ b11 := Nat.le_trans (by have := O.2.1; rw [O.1] at this; exact this) (Nat.le_of_eq g11.symm)
              have ne_x7_b11 : x7 ≠ b11 := Nat.ne_of_lt (Nat.lt_of_lt_of_le E_x7.lt (Nat.le_of_eq g11.symm))
              have ne_b7_b11 : b7 ≠ b11 := Nat.ne_of_lt (Nat.lt_of_lt_of_le V_b7.lt (Nat.le_of_eq g11.symm))
              have ne_x8_b11 : x8 ≠ b11 := Nat.ne_of_lt (Nat.lt_of_lt_of_le E_x8.lt (Nat.le_of_eq g11.symm))
              have ne_b8_b11 : b8 ≠ b11 := Nat.ne_of_lt (Nat.lt_of_lt_of_le V_b8.lt (Nat.le_of_eq g11.symm))
              have ne_b9_b11 : b9 ≠ b11 := Nat.ne_of_lt (Nat.lt_of_lt_of_le F_status_b9.lt (Nat.le_of_eq g11.symm))
              have E_x7 := E_x7.ext E11
              have F_coder_x7 := F_coder_x7.ext E11
              have F_value_x7 := F_value_x7.ext E11
              have V_b7 := V_b7.ext E11
              have E_x8 := E_x8.ext E11
              have F_coder_x8 := F_coder_x8.ext E11
              have F_value_x8 := F_value_x8.ext E11
              have V_b8 := V_b8.ext E11
              have F_status_b9 := F_status_b9.ext E11
              have F_info_b9 := F_info_b9.ext E11
              have E_b9 := E_b9.ext E11
              have O := O.ext E11
              have hk := Nat.le_trans hk E11.1
              have E_b11 := A11
              have F_status_b11 : Fld Z h11 b11 "com/example/equipe/equipe/JobResult" "status" "Lcom/example/equipe/equipe/JobResult$Status;" .null := D11 (Or.inr (ow hw 55 rfl)) (ty := (.object "com/example/equipe/equipe/JobResult$Status")) (by decide)
              have F_info_b11 : Fld Z h11 b11 "com/example/equipe/equipe/JobResult" "info" "Ljava/lang/String;" .null := D11 (Or.inr (ow hw 59 rfl)) (ty := (.object "java/lang/String")) (by decide)
              refine gb st11 ?_
              show G T11 (mkF m 161 #[iv i0, iv i1, iv i2, iv i3, iv i4, rv t1, rv t2, iv n1, iv n2, iv f0, iv f1, iv e0, iv e1, rv x7, rv x8, rv b9, .unset, .unset] [.ref b11])
              refine gb (fun _ k => XS.dup X11.here hx rfl (hb hby at_161) rfl rfl (XS.aload X11.here hx rfl (hb hby at_162) rfl rfl (XS.aload X11.here hx rfl (hb hby at_164) rfl rfl k))) ?_
              show G T11 (mkF m 166 #[iv i0, iv i1, iv i2, iv i3, iv i4, rv t1, rv t2, iv n1, iv n2, iv f0, iv f1, iv e0, iv e1, rv x7, rv x8, rv b9, .unset, .unset] [.ref x8, .ref t2, .ref b11, .ref b11])
              obtain ⟨_, _, ⟨T12, Lz12, kz12, nz12⟩, -, X12, hS12, hg12, ⟨Lc12, hQ12, lq12, yq12, zq12⟩, st12⟩ := X11.specialBackS hx (y := (⟨"com/example/equipe/equipe/JobResult", "<init>", "(Lcom/example/equipe/equipe/JobResult$Status;Ljava/lang/String;)V"⟩ : MethodName)) rfl hown (mvT hZ (ow hw 43 rfl)) (mvT hZ (ow hw 44 rfl)) (mvT hZ (ow hw 45 rfl)) (by decide) (backOfS (W := 1) (rm8 l Z a0 hw [] b11 t2 x8 h11 n0 O E_b11 F_status_b11 F_info_b11 g_b11 (Et2.ext O.2) E_x8) hZ (ow hw 45 rfl) (ow hw 42 rfl) (by decide) (by decide)) (g := (mkF m 166 #[iv i0, iv i1, iv i2, iv i3, iv i4, rv t1, rv t2, iv n1, iv n2, iv f0, iv f1, iv e0, iv e1, rv x7, rv x8, rv b9, .unset, .unset] [.ref x8, .ref t2, .ref b11, .ref b11])) rfl (by rw [hml]; rfl) (Steps.refl _) (a := b11) (argsL := [(.ref t2), (.ref x8)]) (rest := [(.ref b11)]) (lenOf pd_9 rfl) rfl (by show 2 * 0 + _ ≤ _; exact Nat.le_of_eq rfl) (hb hby at_166) (fun _ _ => ⟨rfl, e11, (by decide : 18 + 4 ≤ _), (by decide : 76 + 48 ≤ _)⟩)
              dsimp only [Pt.U, Pt.locs, Pt.cells, Pt.slots] at X12 lq12 yq12 zq12 st12 hQ12 hS12 hg12
              subst lq12 yq12 zq12
              obtain ⟨X12, hS, hZ, hown⟩ := rebS hS (Nat.le_trans hk (Nat.le_of_eq (congrArg Array.size e11.symm))) X12 hS12 hg12 hZ hown
              obtain ⟨h12, e12⟩ : ∃ z, z = T12.heap := ⟨_, rfl⟩
              rw [← e12] at hQ12
              replace e12 := e12.symm
              obtain ⟨rfl, Nq12, Kq12, hR12⟩ := hQ12
              have N := Fr.app N Nq12
              have E_x7 := E_x7.keep Kq12
              have F_coder_x7 := F_coder_x7.keep Kq12 (ninS ne_x7_b11 nin0)
              have F_value_x7 := F_value_x7.keep Kq12 (ninS ne_x7_b11 nin0)
              have V_b7 := V_b7.keep Kq12 (ninS ne_b7_b11 nin0)
              have E_x8 := E_x8.keep Kq12
              have F_coder_x8 := F_coder_x8.keep Kq12 (ninS ne_x8_b11 nin0)
              have F_value_x8 := F_value_x8.keep Kq12 (ninS ne_x8_b11 nin0)
              have V_b8 := V_b8.keep Kq12 (ninS ne_b8_b11 nin0)
              have F_status_b9 := F_status_b9.keep Kq12 (ninS ne_b9_b11 nin0)
              have F_info_b9 := F_info_b9.keep Kq12 (ninS ne_b9_b11 nin0)
              have E_b9 := E_b9.keep Kq12
              have E_b11 := E_b11.keep Kq12
              have hk := Nat.le_trans hk Kq12.1
              have hk : T12.heap.size ≤ h12.size := by rw [e12]; exact Nat.le_refl _
              obtain ⟨E_b11, F_status_b11, F_info_b11⟩ := hR12
              have O := O.keep Kq12 (allS g_b11 all0)
              refine gb (fun _ k => st12.trans k) ?_
              show G T12 (mkF m 169 #[iv i0, iv i1, iv i2, iv i3, iv i4, rv t1, rv t2, iv n1, iv n2, iv f0, iv f1, iv e0, iv e1, rv x7, rv x8, rv b9, .unset, .unset] [.ref b11])
              refine gb (fun _ k => XS.astore X12.here hx rfl (hb hby at_169) rfl rfl (l' := #[iv i0, iv i1, iv i2, iv i3, iv i4, rv t1, rv t2, iv n1, iv n2, iv f0, iv f1, iv e0, iv e1, rv x7, rv x8, rv b9, rv b11, .unset]) rfl k) ?_
              show G T12 (mkF m 171 #[iv i0, iv i1, iv i2, iv i3, iv i4, rv t1, rv t2, iv n1, iv n2, iv f0, iv f1, iv e0, iv e1, rv x7, rv x8, rv b9, rv b11, .unset] [])
              have J13 : ∀ (T13 : State) (locs13 : List Loc) (vm13 : Vm) (kn13 : Nat) (hS : s.Since vm13 kn13) (hk : kn13 ≤ h12.size) (hZ : Z.Warmed39 (s.setVm vm13).vm) (hown : (s.setVm vm13).vm.findClass "com/example/equipe/equipe/JobResultEqualsPinLaw" = some m.cls) (X13 : Stand p l e room_1 (s.setVm vm13) m #[(.int i0), (.int i1), (.int i2), (.int i3), (.int i4)] below meth c T13 locs13 22 124) (N : Fr n0 locs13) (e13 : T13.heap = h12)  (ex : Int32) (hE1 : t1 = t2 → (if xs7 = xs8 then (1 : Int32) else (0 : Int32)) = ex) (hE0 : ¬ t1 = t2 → (0 : Int32) = ex) (hF1 : t2 = t1 → (if xs8 = xs7 then (1 : Int32) else (0 : Int32)) = ex) (hF0 : ¬ t2 = t1 → (0 : Int32) = ex), G T13 (mkF m 218 #[iv i0, iv i1, iv i2, iv i3, iv i4, rv t1, rv t2, iv n1, iv n2, iv f0, iv f1, iv e0, iv e1, rv x7, rv x8, rv b9, rv b11, iv ex] []) := by
                intro T13 locs13 vm13 kn13 hS hk hZ hown X13 N e13  ex hE1 hE0 hF1 hF0
                show G T13 (mkF m 218 #[iv i0, iv i1, iv i2, iv i3, iv i4, rv t1, rv t2, iv n1, iv n2, iv f0, iv f1, iv e0, iv e1, rv x7, rv x8, rv b9, rv b11, iv ex] [])
                refine gb (fun _ k => XS.aload X13.here hx rfl (hb hby at_218) rfl rfl (XS.aload X13.here hx rfl (hb hby at_220) rfl rfl k)) ?_
                show G T13 (mkF m 222 #[iv i0, iv i1, iv i2, iv i3, iv i4, rv t1, rv t2, iv n1, iv n2, iv f0, iv f1, iv e0, iv e1, rv x7, rv x8, rv b9, rv b11, iv ex] [.ref b11, .ref b9])
                obtain ⟨cq14, kq14, q14a, q14b, q14c⟩ := isOf hZ e13 E_b9
                obtain ⟨_, _, ⟨T14, Lz14, kz14, nz14⟩, -, X14, ⟨Lc14, hQ14, lq14, yq14, zq14⟩, st14⟩ := X13.virtualBack hx (y := (⟨"com/example/equipe/equipe/JobResult", "equals", "(Ljava/lang/Object;)Z"⟩ : MethodName)) (z := (⟨"com/example/equipe/equipe/JobResult", "equals", "(Ljava/lang/Object;)Z"⟩ : MethodName)) hown (mvT hZ (ow hw 60 rfl)) (mvT hZ (ow hw 61 rfl)) (notFace_of_selects (args := #[]) (mvT hZ (ow hw 63 rfl))) (mvT hZ (ow hw 63 rfl)) (mvT hZ (ow hw 62 rfl)) (by decide) (backOf (W := 0) (rmJ l Z a0 hw [] b9 b11 b7 b8 x7 x8 t1 t2 kb7 kb8 zz7 zz8 xs7 xs8 ex h12 n0 O E_b9 F_status_b9 F_info_b9 E_b11 F_status_b11 F_info_b11 E_x7 E_x8 F_coder_x7 F_value_x7 F_coder_x8 F_value_x8 V_b7 V_b8 hz7 hz8 ne_x7_x8 zc S_cs hzc hE1 hE0) hZ (ow hw 64 rfl) (ow hw 42 rfl) (by decide) (by decide)) q14a q14c (g := (mkF m 222 #[iv i0, iv i1, iv i2, iv i3, iv i4, rv t1, rv t2, iv n1, iv n2, iv f0, iv f1, iv e0, iv e1, rv x7, rv x8, rv b9, rv b11, iv ex] [.ref b11, .ref b9])) rfl (by rw [hml]; rfl) (Steps.refl _) (argsL := [(.ref b11)]) (rest := []) (lenOf pd_7 rfl) rfl (by show 2 * 0 + _ ≤ _; exact Nat.le_of_eq rfl) (hb hby at_222) (fun _ _ => ⟨rfl, e13, (by decide : 22 + 0 ≤ _), (by decide : 124 + 0 ≤ _)⟩)
                dsimp only [Pt.U, Pt.locs, Pt.cells, Pt.slots] at X14 lq14 yq14 zq14 st14 hQ14
                subst lq14 yq14 zq14
                obtain ⟨rfl, rfl, e14⟩ := hQ14
                try rw [List.append_nil] at X14
                refine gb (fun _ k => st14.trans k) ?_
                show G T14 (mkF m 225 #[iv i0, iv i1, iv i2, iv i3, iv i4, rv t1, rv t2, iv n1, iv n2, iv f0, iv f1, iv e0, iv e1, rv x7, rv x8, rv b9, rv b11, iv ex] [.int ex])
                refine gb (fun _ k => XS.iload X14.here hx rfl (hb hby at_225) rfl (XS.icmpNo X14.here hx rfl (hb hby at_227) rfl (teq (rfl : ex = ex)).2 (XS.aload X14.here hx rfl (hb hby at_230) rfl rfl (XS.aload X14.here hx rfl (hb hby at_232) rfl rfl k)))) ?_
                show G T14 (mkF m 234 #[iv i0, iv i1, iv i2, iv i3, iv i4, rv t1, rv t2, iv n1, iv n2, iv f0, iv f1, iv e0, iv e1, rv x7, rv x8, rv b9, rv b11, iv ex] [.ref b9, .ref b11])
                obtain ⟨cq15, kq15, q15a, q15b, q15c⟩ := isOf hZ e14 E_b11
                obtain ⟨_, _, ⟨T15, Lz15, kz15, nz15⟩, -, X15, ⟨Lc15, hQ15, lq15, yq15, zq15⟩, st15⟩ := X14.virtualBack hx (y := (⟨"com/example/equipe/equipe/JobResult", "equals", "(Ljava/lang/Object;)Z"⟩ : MethodName)) (z := (⟨"com/example/equipe/equipe/JobResult", "equals", "(Ljava/lang/Object;)Z"⟩ : MethodName)) hown (mvT hZ (ow hw 60 rfl)) (mvT hZ (ow hw 61 rfl)) (notFace_of_selects (args := #[]) (mvT hZ (ow hw 63 rfl))) (mvT hZ (ow hw 63 rfl)) (mvT hZ (ow hw 62 rfl)) (by decide) (backOf (W := 0) (rmJ l Z a0 hw [] b11 b9 b8 b7 x8 x7 t2 t1 kb8 kb7 zz8 zz7 xs8 xs7 ex h12 n0 O E_b11 F_status_b11 F_info_b11 E_b9 F_status_b9 F_info_b9 E_x8 E_x7 F_coder_x8 F_value_x8 F_coder_x7 F_value_x7 V_b8 V_b7 hz8 hz7 (Ne.symm ne_x7_x8) zc S_cs hzc hF1 hF0) hZ (ow hw 64 rfl) (ow hw 42 rfl) (by decide) (by decide)) q15a q15c (g := (mkF m 234 #[iv i0, iv i1, iv i2, iv i3, iv i4, rv t1, rv t2, iv n1, iv n2, iv f0, iv f1, iv e0, iv e1, rv x7, rv x8, rv b9, rv b11, iv ex] [.ref b9, .ref b11])) rfl (by rw [hml]; rfl) (Steps.refl _) (argsL := [(.ref b9)]) (rest := []) (lenOf pd_7 rfl) rfl (by show 2 * 0 + _ ≤ _; exact Nat.le_of_eq rfl) (hb hby at_234) (fun _ _ => ⟨rfl, e14, (by decide : 22 + 0 ≤ _), (by decide : 124 + 0 ≤ _)⟩)
                dsimp only [Pt.U, Pt.locs, Pt.cells, Pt.slots] at X15 lq15 yq15 zq15 st15 hQ15
                subst lq15 yq15 zq15
                obtain ⟨rfl, rfl, e15⟩ := hQ15
                try rw [List.append_nil] at X15
                refine gb (fun _ k => st15.trans k) ?_
                show G T15 (mkF m 237 #[iv i0, iv i1, iv i2, iv i3, iv i4, rv t1, rv t2, iv n1, iv n2, iv f0, iv f1, iv e0, iv e1, rv x7, rv x8, rv b9, rv b11, iv ex] [.int ex])
                refine gb (fun _ k => XS.iload X15.here hx rfl (hb hby at_237) rfl (XS.icmpNo X15.here hx rfl (hb hby at_239) rfl (teq (rfl : ex = ex)).2 (XS.aload X15.here hx rfl (hb hby at_242) rfl rfl (XS.aload X15.here hx rfl (hb hby at_244) rfl rfl k)))) ?_
                show G T15 (mkF m 246 #[iv i0, iv i1, iv i2, iv i3, iv i4, rv t1, rv t2, iv n1, iv n2, iv f0, iv f1, iv e0, iv e1, rv x7, rv x8, rv b9, rv b11, iv ex] [.ref b9, .ref b9])
                obtain ⟨cq16, kq16, q16a, q16b, q16c⟩ := isOf hZ e15 E_b9
                obtain ⟨_, _, ⟨T16, Lz16, kz16, nz16⟩, -, X16, ⟨Lc16, hQ16, lq16, yq16, zq16⟩, st16⟩ := X15.virtualBack hx (y := (⟨"com/example/equipe/equipe/JobResult", "equals", "(Ljava/lang/Object;)Z"⟩ : MethodName)) (z := (⟨"com/example/equipe/equipe/JobResult", "equals", "(Ljava/lang/Object;)Z"⟩ : MethodName)) hown (mvT hZ (ow hw 60 rfl)) (mvT hZ (ow hw 61 rfl)) (notFace_of_selects (args := #[]) (mvT hZ (ow hw 63 rfl))) (mvT hZ (ow hw 63 rfl)) (mvT hZ (ow hw 62 rfl)) (by decide) (backOf (W := 0) (rmJ_self l Z a0 hw [] b9 t1 x7 h12 n0 O E_b9 F_status_b9 F_info_b9 E_x7) hZ (ow hw 64 rfl) (ow hw 42 rfl) (by decide) (by decide)) q16a q16c (g := (mkF m 246 #[iv i0, iv i1, iv i2, iv i3, iv i4, rv t1, rv t2, iv n1, iv n2, iv f0, iv f1, iv e0, iv e1, rv x7, rv x8, rv b9, rv b11, iv ex] [.ref b9, .ref b9])) rfl (by rw [hml]; rfl) (Steps.refl _) (argsL := [(.ref b9)]) (rest := []) (lenOf pd_7 rfl) rfl (by show 2 * 0 + _ ≤ _; exact Nat.le_of_eq rfl) (hb hby at_246) (fun _ _ => ⟨rfl, e15, (by decide : 22 + 0 ≤ _), (by decide : 124 + 0 ≤ _)⟩)
                dsimp only [Pt.U, Pt.locs, Pt.cells, Pt.slots] at X16 lq16 yq16 zq16 st16 hQ16
                subst lq16 yq16 zq16
                obtain ⟨rfl, rfl, e16⟩ := hQ16
                try rw [List.append_nil] at X16
                refine gb (fun _ k => st16.trans k) ?_
                show G T16 (mkF m 249 #[iv i0, iv i1, iv i2, iv i3, iv i4, rv t1, rv t2, iv n1, iv n2, iv f0, iv f1, iv e0, iv e1, rv x7, rv x8, rv b9, rv b11, iv ex] [.int 1])
                refine gb (fun _ k => XS.ifNo X16.here hx rfl (hb hby at_249) rfl ((if0 _ _).trans (feq (by decide : ¬ ((1 : Int32) = (0 : Int32)))).1) (XS.aload X16.here hx rfl (hb hby at_252) rfl rfl (XS.aconstNull X16.here hx rfl (hb hby at_254) k))) ?_
                show G T16 (mkF m 255 #[iv i0, iv i1, iv i2, iv i3, iv i4, rv t1, rv t2, iv n1, iv n2, iv f0, iv f1, iv e0, iv e1, rv x7, rv x8, rv b9, rv b11, iv ex] [.null, .ref b9])
                obtain ⟨cq17, kq17, q17a, q17b, q17c⟩ := isOf hZ e16 E_b9
                obtain ⟨_, _, ⟨T17, Lz17, kz17, nz17⟩, -, X17, ⟨Lc17, hQ17, lq17, yq17, zq17⟩, st17⟩ := X16.virtualBack hx (y := (⟨"com/example/equipe/equipe/JobResult", "equals", "(Ljava/lang/Object;)Z"⟩ : MethodName)) (z := (⟨"com/example/equipe/equipe/JobResult", "equals", "(Ljava/lang/Object;)Z"⟩ : MethodName)) hown (mvT hZ (ow hw 60 rfl)) (mvT hZ (ow hw 61 rfl)) (notFace_of_selects (args := #[]) (mvT hZ (ow hw 63 rfl))) (mvT hZ (ow hw 63 rfl)) (mvT hZ (ow hw 62 rfl)) (by decide) (backOf (W := 0) (rmJ_n l Z a0 hw [] b9 h12 n0 O) hZ (ow hw 64 rfl) (ow hw 42 rfl) (by decide) (by decide)) q17a q17c (g := (mkF m 255 #[iv i0, iv i1, iv i2, iv i3, iv i4, rv t1, rv t2, iv n1, iv n2, iv f0, iv f1, iv e0, iv e1, rv x7, rv x8, rv b9, rv b11, iv ex] [.null, .ref b9])) rfl (by rw [hml]; rfl) (Steps.refl _) (argsL := [.null]) (rest := []) (lenOf pd_7 rfl) rfl (by show 2 * 0 + _ ≤ _; exact Nat.le_of_eq rfl) (hb hby at_255) (fun _ _ => ⟨rfl, e16, (by decide : 22 + 0 ≤ _), (by decide : 124 + 0 ≤ _)⟩)
                dsimp only [Pt.U, Pt.locs, Pt.cells, Pt.slots] at X17 lq17 yq17 zq17 st17 hQ17
                subst lq17 yq17 zq17
                obtain ⟨rfl, rfl, e17⟩ := hQ17
                try rw [List.append_nil] at X17
                refine gb (fun _ k => st17.trans k) ?_
                show G T17 (mkF m 258 #[iv i0, iv i1, iv i2, iv i3, iv i4, rv t1, rv t2, iv n1, iv n2, iv f0, iv f1, iv e0, iv e1, rv x7, rv x8, rv b9, rv b11, iv ex] [.int 0])
                refine gb (fun _ k => XS.ifNo X17.here hx rfl (hb hby at_258) rfl ((if0 _ _).trans (teq (by decide : (0 : Int32) = (0 : Int32))).2) (XS.aload X17.here hx rfl (hb hby at_261) rfl rfl (XS.aload X17.here hx rfl (hb hby at_263) rfl rfl k))) ?_
                show G T17 (mkF m 265 #[iv i0, iv i1, iv i2, iv i3, iv i4, rv t1, rv t2, iv n1, iv n2, iv f0, iv f1, iv e0, iv e1, rv x7, rv x8, rv b9, rv b11, iv ex] [.ref x7, .ref b9])
                obtain ⟨cq18, kq18, q18a, q18b, q18c⟩ := isOf hZ e17 E_b9
                obtain ⟨_, _, ⟨T18, Lz18, kz18, nz18⟩, -, X18, ⟨Lc18, hQ18, lq18, yq18, zq18⟩, st18⟩ := X17.virtualBack hx (y := (⟨"com/example/equipe/equipe/JobResult", "equals", "(Ljava/lang/Object;)Z"⟩ : MethodName)) (z := (⟨"com/example/equipe/equipe/JobResult", "equals", "(Ljava/lang/Object;)Z"⟩ : MethodName)) hown (mvT hZ (ow hw 60 rfl)) (mvT hZ (ow hw 61 rfl)) (notFace_of_selects (args := #[]) (mvT hZ (ow hw 63 rfl))) (mvT hZ (ow hw 63 rfl)) (mvT hZ (ow hw 62 rfl)) (by decide) (backOf (W := 0) (rmJ_s l Z a0 hw [] b9 x7 h12 n0 O E_x7) hZ (ow hw 64 rfl) (ow hw 42 rfl) (by decide) (by decide)) q18a q18c (g := (mkF m 265 #[iv i0, iv i1, iv i2, iv i3, iv i4, rv t1, rv t2, iv n1, iv n2, iv f0, iv f1, iv e0, iv e1, rv x7, rv x8, rv b9, rv b11, iv ex] [.ref x7, .ref b9])) rfl (by rw [hml]; rfl) (Steps.refl _) (argsL := [(.ref x7)]) (rest := []) (lenOf pd_7 rfl) rfl (by show 2 * 0 + _ ≤ _; exact Nat.le_of_eq rfl) (hb hby at_265) (fun _ _ => ⟨rfl, e17, (by decide : 22 + 0 ≤ _), (by decide : 124 + 0 ≤ _)⟩)
                dsimp only [Pt.U, Pt.locs, Pt.cells, Pt.slots] at X18 lq18 yq18 zq18 st18 hQ18
                subst lq18 yq18 zq18
                obtain ⟨rfl, rfl, e18⟩ := hQ18
                try rw [List.append_nil] at X18
                refine gb (fun _ k => st18.trans k) ?_
                show G T18 (mkF m 268 #[iv i0, iv i1, iv i2, iv i3, iv i4, rv t1, rv t2, iv n1, iv n2, iv f0, iv f1, iv e0, iv e1, rv x7, rv x8, rv b9, rv b11, iv ex] [.int 0])
                refine gb (fun _ k => XS.ifNo X18.here hx rfl (hb hby at_268) rfl ((if0 _ _).trans (teq (by decide : (0 : Int32) = (0 : Int32))).2) (XS.iconst X18.here hx rfl (hb hby at_271) (XS.goto X18.here hx rfl (pc0 := 272) (pc' := 276) rfl (hb hby at_272) (by decide) (by decide) k))) ?_
                show G T18 (mkF m 276 #[iv i0, iv i1, iv i2, iv i3, iv i4, rv t1, rv t2, iv n1, iv n2, iv f0, iv f1, iv e0, iv e1, rv x7, rv x8, rv b9, rv b11, iv ex] [.int 1])
                exact go X18 hS (Nat.le_trans hk (Nat.le_of_eq (congrArg Array.size e18.symm))) (v := (some (.int (1 : Int32)))) (fun h => by rw [Bd.returns] at h; cases h) (fun fs hr => retOut X18 hx Bd.returns rfl (Or.inl ⟨rfl, by simp, _, rfl⟩) (hb hby at_276) hr) (⟨rfl, N⟩) (by decide) (by decide)
              refine gb (fun _ k => XS.aload X12.here hx rfl (hb hby at_171) rfl rfl (XS.aload X12.here hx rfl (hb hby at_173) rfl rfl k)) ?_
              show G T12 (mkF m 175 #[iv i0, iv i1, iv i2, iv i3, iv i4, rv t1, rv t2, iv n1, iv n2, iv f0, iv f1, iv e0, iv e1, rv x7, rv x8, rv b9, rv b11, .unset] [.ref t2, .ref t1])
              by_cases ha175 : t1 = t2
              · skip
                refine gb (fun _ k => Jvm.RoadKit.acmp (g := (mkF m 175 #[iv i0, iv i1, iv i2, iv i3, iv i4, rv t1, rv t2, iv n1, iv n2, iv f0, iv f1, iv e0, iv e1, rv x7, rv x8, rv b9, rv b11, .unset] [.ref t2, .ref t1])) X12 hx rfl rfl rfl (pc0 := 175) (pc' := 178) (same := true) rfl (hb hby at_175) rfl (decide_eq_true (congrArg Value.ref ha175)) (by decide) (by decide) (XS.iload X12.here hx rfl (hb hby at_178) rfl (XS.iload X12.here hx rfl (hb hby at_180) rfl k))) ?_
                show G T12 (mkF m 182 #[iv i0, iv i1, iv i2, iv i3, iv i4, rv t1, rv t2, iv n1, iv n2, iv f0, iv f1, iv e0, iv e1, rv x7, rv x8, rv b9, rv b11, .unset] [.int n2, .int n1])
                by_cases hc182 : n1 = n2
                · skip
                  refine gb (fun _ k => XS.icmpNo X12.here hx rfl (hb hby at_182) rfl (teq hc182).2 (XS.iload X12.here hx rfl (hb hby at_185) rfl (XS.iconst X12.here hx rfl (hb hby at_187) k))) ?_
                  show G T12 (mkF m 188 #[iv i0, iv i1, iv i2, iv i3, iv i4, rv t1, rv t2, iv n1, iv n2, iv f0, iv f1, iv e0, iv e1, rv x7, rv x8, rv b9, rv b11, .unset] [.int 1, .int n1])
                  by_cases hc188 : n1 < (1 : Int32)
                  · skip
                    refine gb (fun _ k => XS.icmpYes X12.here hx rfl (pc0 := 188) (pc' := 198) rfl (hb hby at_188) rfl (tlt hc188).1 (by decide) (by decide) (XS.iload X12.here hx rfl (hb hby at_198) rfl (XS.iconst X12.here hx rfl (hb hby at_200) k))) ?_
                    show G T12 (mkF m 201 #[iv i0, iv i1, iv i2, iv i3, iv i4, rv t1, rv t2, iv n1, iv n2, iv f0, iv f1, iv e0, iv e1, rv x7, rv x8, rv b9, rv b11, .unset] [.int 2, .int n1])
                    by_cases hc201 : n1 < (2 : Int32)
                    · skip
                      refine gb (fun _ k => XS.icmpYes X12.here hx rfl (pc0 := 201) (pc' := 211) rfl (hb hby at_201) rfl (tlt hc201).1 (by decide) (by decide) (XS.iconst X12.here hx rfl (hb hby at_211) (XS.goto X12.here hx rfl (pc0 := 212) (pc' := 216) rfl (hb hby at_212) (by decide) (by decide) (XS.istore X12.here hx rfl (hb hby at_216) rfl (l' := #[iv i0, iv i1, iv i2, iv i3, iv i4, rv t1, rv t2, iv n1, iv n2, iv f0, iv f1, iv e0, iv e1, rv x7, rv x8, rv b9, rv b11, iv 1]) rfl k)))) ?_
                      show G T12 (mkF m 218 #[iv i0, iv i1, iv i2, iv i3, iv i4, rv t1, rv t2, iv n1, iv n2, iv f0, iv f1, iv e0, iv e1, rv x7, rv x8, rv b9, rv b11, iv 1] [])
                      exact J13 _ _ _ _ hS hk hZ hown X12 N e12  ((1 : Int32)) (fun _ => by rw [hxs7, hxs8]; exact if_pos (((own_bs_eq hn1 hn2 he_f0 hd_f0 he_f1 hd_f1 he_e0 hd_e0 he_e1 hd_e1).mpr ⟨hc182, Or.inl hc188, Or.inl hc201⟩))) (fun h => absurd ha175 h) (fun _ => by rw [hxs8, hxs7]; exact if_pos (((own_bs_eq hn1 hn2 he_f0 hd_f0 he_f1 hd_f1 he_e0 hd_e0 he_e1 hd_e1).mpr ⟨hc182, Or.inl hc188, Or.inl hc201⟩).symm)) (fun h => absurd ha175.symm h)
                    · skip
                      refine gb (fun _ k => XS.icmpNo X12.here hx rfl (hb hby at_201) rfl (flt hc201).1 (XS.iload X12.here hx rfl (hb hby at_204) rfl (XS.iload X12.here hx rfl (hb hby at_206) rfl k))) ?_
                      show G T12 (mkF m 208 #[iv i0, iv i1, iv i2, iv i3, iv i4, rv t1, rv t2, iv n1, iv n2, iv f0, iv f1, iv e0, iv e1, rv x7, rv x8, rv b9, rv b11, .unset] [.int e1, .int f1])
                      by_cases hc208 : f1 = e1
                      · skip
                        refine gb (fun _ k => XS.icmpNo X12.here hx rfl (hb hby at_208) rfl (teq hc208).2 (XS.iconst X12.here hx rfl (hb hby at_211) (XS.goto X12.here hx rfl (pc0 := 212) (pc' := 216) rfl (hb hby at_212) (by decide) (by decide) (XS.istore X12.here hx rfl (hb hby at_216) rfl (l' := #[iv i0, iv i1, iv i2, iv i3, iv i4, rv t1, rv t2, iv n1, iv n2, iv f0, iv f1, iv e0, iv e1, rv x7, rv x8, rv b9, rv b11, iv 1]) rfl k)))) ?_
                        show G T12 (mkF m 218 #[iv i0, iv i1, iv i2, iv i3, iv i4, rv t1, rv t2, iv n1, iv n2, iv f0, iv f1, iv e0, iv e1, rv x7, rv x8, rv b9, rv b11, iv 1] [])
                        exact J13 _ _ _ _ hS hk hZ hown X12 N e12  ((1 : Int32)) (fun _ => by rw [hxs7, hxs8]; exact if_pos (((own_bs_eq hn1 hn2 he_f0 hd_f0 he_f1 hd_f1 he_e0 hd_e0 he_e1 hd_e1).mpr ⟨hc182, Or.inl hc188, Or.inr hc208⟩))) (fun h => absurd ha175 h) (fun _ => by rw [hxs8, hxs7]; exact if_pos (((own_bs_eq hn1 hn2 he_f0 hd_f0 he_f1 hd_f1 he_e0 hd_e0 he_e1 hd_e1).mpr ⟨hc182, Or.inl hc188, Or.inr hc208⟩).symm)) (fun h => absurd ha175.symm h)
                      · skip
                        refine gb (fun _ k => XS.icmpYes X12.here hx rfl (pc0 := 208) (pc' := 215) rfl (hb hby at_208) rfl (feq hc208).2 (by decide) (by decide) (XS.iconst X12.here hx rfl (hb hby at_215) (XS.istore X12.here hx rfl (hb hby at_216) rfl (l' := #[iv i0, iv i1, iv i2, iv i3, iv i4, rv t1, rv t2, iv n1, iv n2, iv f0, iv f1, iv e0, iv e1, rv x7, rv x8, rv b9, rv b11, iv 0]) rfl k))) ?_
                        show G T12 (mkF m 218 #[iv i0, iv i1, iv i2, iv i3, iv i4, rv t1, rv t2, iv n1, iv n2, iv f0, iv f1, iv e0, iv e1, rv x7, rv x8, rv b9, rv b11, iv 0] [])
                        exact J13 _ _ _ _ hS hk hZ hown X12 N e12  ((0 : Int32)) (fun _ => by rw [hxs7, hxs8]; exact if_neg (fun e => ((own_bs_eq hn1 hn2 he_f0 hd_f0 he_f1 hd_f1 he_e0 hd_e0 he_e1 hd_e1).mp e).2.2.elim hc201 hc208)) (fun h => absurd ha175 h) (fun _ => by rw [hxs8, hxs7]; exact if_neg (fun e => ((own_bs_eq hn1 hn2 he_f0 hd_f0 he_f1 hd_f1 he_e0 hd_e0 he_e1 hd_e1).mp e.symm).2.2.elim hc201 hc208)) (fun h => absurd ha175.symm h)
                  · skip
                    refine gb (fun _ k => XS.icmpNo X12.here hx rfl (hb hby at_188) rfl (flt hc188).1 (XS.iload X12.here hx rfl (hb hby at_191) rfl (XS.iload X12.here hx rfl (hb hby at_193) rfl k))) ?_
                    show G T12 (mkF m 195 #[iv i0, iv i1, iv i2, iv i3, iv i4, rv t1, rv t2, iv n1, iv n2, iv f0, iv f1, iv e0, iv e1, rv x7, rv x8, rv b9, rv b11, .unset] [.int e0, .int f0])
                    by_cases hc195 : f0 = e0
                    · skip
                      refine gb (fun _ k => XS.icmpNo X12.here hx rfl (hb hby at_195) rfl (teq hc195).2 (XS.iload X12.here hx rfl (hb hby at_198) rfl (XS.iconst X12.here hx rfl (hb hby at_200) k))) ?_
                      show G T12 (mkF m 201 #[iv i0, iv i1, iv i2, iv i3, iv i4, rv t1, rv t2, iv n1, iv n2, iv f0, iv f1, iv e0, iv e1, rv x7, rv x8, rv b9, rv b11, .unset] [.int 2, .int n1])
                      by_cases hc201 : n1 < (2 : Int32)
                      · skip
                        refine gb (fun _ k => XS.icmpYes X12.here hx rfl (pc0 := 201) (pc' := 211) rfl (hb hby at_201) rfl (tlt hc201).1 (by decide) (by decide) (XS.iconst X12.here hx rfl (hb hby at_211) (XS.goto X12.here hx rfl (pc0 := 212) (pc' := 216) rfl (hb hby at_212) (by decide) (by decide) (XS.istore X12.here hx rfl (hb hby at_216) rfl (l' := #[iv i0, iv i1, iv i2, iv i3, iv i4, rv t1, rv t2, iv n1, iv n2, iv f0, iv f1, iv e0, iv e1, rv x7, rv x8, rv b9, rv b11, iv 1]) rfl k)))) ?_
                        show G T12 (mkF m 218 #[iv i0, iv i1, iv i2, iv i3, iv i4, rv t1, rv t2, iv n1, iv n2, iv f0, iv f1, iv e0, iv e1, rv x7, rv x8, rv b9, rv b11, iv 1] [])
                        exact J13 _ _ _ _ hS hk hZ hown X12 N e12  ((1 : Int32)) (fun _ => by rw [hxs7, hxs8]; exact if_pos (((own_bs_eq hn1 hn2 he_f0 hd_f0 he_f1 hd_f1 he_e0 hd_e0 he_e1 hd_e1).mpr ⟨hc182, Or.inr hc195, Or.inl hc201⟩))) (fun h => absurd ha175 h) (fun _ => by rw [hxs8, hxs7]; exact if_pos (((own_bs_eq hn1 hn2 he_f0 hd_f0 he_f1 hd_f1 he_e0 hd_e0 he_e1 hd_e1).mpr ⟨hc182, Or.inr hc195, Or.inl hc201⟩).symm)) (fun h => absurd ha175.symm h)
                      · skip
                        refine gb (fun _ k => XS.icmpNo X12.here hx rfl (hb hby at_201) rfl (flt hc201).1 (XS.iload X12.here hx rfl (hb hby at_204) rfl (XS.iload X12.here hx rfl (hb hby at_206) rfl k))) ?_
                        show G T12 (mkF m 208 #[iv i0, iv i1, iv i2, iv i3, iv i4, rv t1, rv t2, iv n1, iv n2, iv f0, iv f1, iv e0, iv e1, rv x7, rv x8, rv b9, rv b11, .unset] [.int e1, .int f1])
                        by_cases hc208 : f1 = e1
                        · skip
                          refine gb (fun _ k => XS.icmpNo X12.here hx rfl (hb hby at_208) rfl (teq hc208).2 (XS.iconst X12.here hx rfl (hb hby at_211) (XS.goto X12.here hx rfl (pc0 := 212) (pc' := 216) rfl (hb hby at_212) (by decide) (by decide) (XS.istore X12.here hx rfl (hb hby at_216) rfl (l' := #[iv i0, iv i1, iv i2, iv i3, iv i4, rv t1, rv t2, iv n1, iv n2, iv f0, iv f1, iv e0, iv e1, rv x7, rv x8, rv b9, rv b11, iv 1]) rfl k)))) ?_
                          show G T12 (mkF m 218 #[iv i0, iv i1, iv i2, iv i3, iv i4, rv t1, rv t2, iv n1, iv n2, iv f0, iv f1, iv e0, iv e1, rv x7, rv x8, rv b9, rv b11, iv 1] [])
                          exact J13 _ _ _ _ hS hk hZ hown X12 N e12  ((1 : Int32)) (fun _ => by rw [hxs7, hxs8]; exact if_pos (((own_bs_eq hn1 hn2 he_f0 hd_f0 he_f1 hd_f1 he_e0 hd_e0 he_e1 hd_e1).mpr ⟨hc182, Or.inr hc195, Or.inr hc208⟩))) (fun h => absurd ha175 h) (fun _ => by rw [hxs8, hxs7]; exact if_pos (((own_bs_eq hn1 hn2 he_f0 hd_f0 he_f1 hd_f1 he_e0 hd_e0 he_e1 hd_e1).mpr ⟨hc182, Or.inr hc195, Or.inr hc208⟩).symm)) (fun h => absurd ha175.symm h)
                        · skip
                          refine gb (fun _ k => XS.icmpYes X12.here hx rfl (pc0 := 208) (pc' := 215) rfl (hb hby at_208) rfl (feq hc208).2 (by decide) (by decide) (XS.iconst X12.here hx rfl (hb hby at_215) (XS.istore X12.here hx rfl (hb hby at_216) rfl (l' := #[iv i0, iv i1, iv i2, iv i3, iv i4, rv t1, rv t2, iv n1, iv n2, iv f0, iv f1, iv e0, iv e1, rv x7, rv x8, rv b9, rv b11, iv 0]) rfl k))) ?_
                          show G T12 (mkF m 218 #[iv i0, iv i1, iv i2, iv i3, iv i4, rv t1, rv t2, iv n1, iv n2, iv f0, iv f1, iv e0, iv e1, rv x7, rv x8, rv b9, rv b11, iv 0] [])
                          exact J13 _ _ _ _ hS hk hZ hown X12 N e12  ((0 : Int32)) (fun _ => by rw [hxs7, hxs8]; exact if_neg (fun e => ((own_bs_eq hn1 hn2 he_f0 hd_f0 he_f1 hd_f1 he_e0 hd_e0 he_e1 hd_e1).mp e).2.2.elim hc201 hc208)) (fun h => absurd ha175 h) (fun _ => by rw [hxs8, hxs7]; exact if_neg (fun e => ((own_bs_eq hn1 hn2 he_f0 hd_f0 he_f1 hd_f1 he_e0 hd_e0 he_e1 hd_e1).mp e.symm).2.2.elim hc201 hc208)) (fun h => absurd ha175.symm h)
                    · skip
                      refine gb (fun _ k => XS.icmpYes X12.here hx rfl (pc0 := 195) (pc' := 215) rfl (hb hby at_195) rfl (feq hc195).2 (by decide) (by decide) (XS.iconst X12.here hx rfl (hb hby at_215) (XS.istore X12.here hx rfl (hb hby at_216) rfl (l' := #[iv i0, iv i1, iv i2, iv i3, iv i4, rv t1, rv t2, iv n1, iv n2, iv f0, iv f1, iv e0, iv e1, rv x7, rv x8, rv b9, rv b11, iv 0]) rfl k))) ?_
                      show G T12 (mkF m 218 #[iv i0, iv i1, iv i2, iv i3, iv i4, rv t1, rv t2, iv n1, iv n2, iv f0, iv f1, iv e0, iv e1, rv x7, rv x8, rv b9, rv b11, iv 0] [])
                      exact J13 _ _ _ _ hS hk hZ hown X12 N e12  ((0 : Int32)) (fun _ => by rw [hxs7, hxs8]; exact if_neg (fun e => ((own_bs_eq hn1 hn2 he_f0 hd_f0 he_f1 hd_f1 he_e0 hd_e0 he_e1 hd_e1).mp e).2.1.elim hc188 hc195)) (fun h => absurd ha175 h) (fun _ => by rw [hxs8, hxs7]; exact if_neg (fun e => ((own_bs_eq hn1 hn2 he_f0 hd_f0 he_f1 hd_f1 he_e0 hd_e0 he_e1 hd_e1).mp e.symm).2.1.elim hc188 hc195)) (fun h => absurd ha175.symm h)
                · skip
                  refine gb (fun _ k => XS.icmpYes X12.here hx rfl (pc0 := 182) (pc' := 215) rfl (hb hby at_182) rfl (feq hc182).2 (by decide) (by decide) (XS.iconst X12.here hx rfl (hb hby at_215) (XS.istore X12.here hx rfl (hb hby at_216) rfl (l' := #[iv i0, iv i1, iv i2, iv i3, iv i4, rv t1, rv t2, iv n1, iv n2, iv f0, iv f1, iv e0, iv e1, rv x7, rv x8, rv b9, rv b11, iv 0]) rfl k))) ?_
                  show G T12 (mkF m 218 #[iv i0, iv i1, iv i2, iv i3, iv i4, rv t1, rv t2, iv n1, iv n2, iv f0, iv f1, iv e0, iv e1, rv x7, rv x8, rv b9, rv b11, iv 0] [])
                  exact J13 _ _ _ _ hS hk hZ hown X12 N e12  ((0 : Int32)) (fun _ => by rw [hxs7, hxs8]; exact if_neg (fun e => hc182 ((own_bs_eq hn1 hn2 he_f0 hd_f0 he_f1 hd_f1 he_e0 hd_e0 he_e1 hd_e1).mp e).1)) (fun h => absurd ha175 h) (fun _ => by rw [hxs8, hxs7]; exact if_neg (fun e => hc182 ((own_bs_eq hn1 hn2 he_f0 hd_f0 he_f1 hd_f1 he_e0 hd_e0 he_e1 hd_e1).mp e.symm).1)) (fun h => absurd ha175.symm h)
              · skip
                refine gb (fun _ k => Jvm.RoadKit.acmp (g := (mkF m 175 #[iv i0, iv i1, iv i2, iv i3, iv i4, rv t1, rv t2, iv n1, iv n2, iv f0, iv f1, iv e0, iv e1, rv x7, rv x8, rv b9, rv b11, .unset] [.ref t2, .ref t1])) X12 hx rfl rfl rfl (pc0 := 175) (pc' := 215) (same := false) rfl (hb hby at_175) rfl (decide_eq_false fun q => ha175 (Value.ref.inj q)) (by decide) (by decide) (XS.iconst X12.here hx rfl (hb hby at_215) (XS.istore X12.here hx rfl (hb hby at_216) rfl (l' := #[iv i0, iv i1, iv i2, iv i3, iv i4, rv t1, rv t2, iv n1, iv n2, iv f0, iv f1, iv e0, iv e1, rv x7, rv x8, rv b9, rv b11, iv 0]) rfl k))) ?_
                show G T12 (mkF m 218 #[iv i0, iv i1, iv i2, iv i3, iv i4, rv t1, rv t2, iv n1, iv n2, iv f0, iv f1, iv e0, iv e1, rv x7, rv x8, rv b9, rv b11, iv 0] [])
                exact J13 _ _ _ _ hS hk hZ hown X12 N e12  ((0 : Int32)) (fun h => absurd h ha175) (fun _ => rfl) (fun h => absurd h (Ne.symm ha175)) (fun _ => rfl)
            refine gb (fun _ k => XS.iload X5.here hx rfl (hb hby at_100) rfl (XS.iconst X5.here hx rfl (hb hby at_102) (XS.iand X5.here hx rfl (hb hby at_103) rfl k))) ?_
            show G T5 (mkF m 104 #[iv i0, iv i1, iv i2, iv i3, iv i4, rv t1, rv t2, iv n1, iv n2, iv f0, iv f1, iv e0, .unset, .unset, .unset, .unset, .unset, .unset] [.int (i4 &&& (2 : Int32))])
            by_cases hc104 : (i4 &&& (2 : Int32)) = (0 : Int32)
            · skip
              refine gb (fun _ k => XS.ifYes X5.here hx rfl (pc0 := 104) (pc' := 112) rfl (hb hby at_104) rfl ((if0 _ _).trans (teq hc104).1) (by decide) (by decide) (XS.iloadN X5.here hx rfl (hb hby at_112) rfl (XS.bipush X5.here hx rfl (hb hby at_113) (XS.iushr X5.here hx rfl (hb hby at_115) rfl (XS.sipush X5.here hx rfl (hb hby at_116) (XS.iand X5.here hx rfl (hb hby at_119) rfl k)))))) ?_
              show G T5 (mkF m 120 #[iv i0, iv i1, iv i2, iv i3, iv i4, rv t1, rv t2, iv n1, iv n2, iv f0, iv f1, iv e0, .unset, .unset, .unset, .unset, .unset, .unset] [.int (((i3.toUInt32 >>> ((8 : Int32) &&& 31).toUInt32).toInt32) &&& (255 : Int32))])
              refine gb (fun _ k => XS.i2c X5.here hx rfl (hb hby at_120) rfl k) ?_
              show G T5 (mkF m 121 #[iv i0, iv i1, iv i2, iv i3, iv i4, rv t1, rv t2, iv n1, iv n2, iv f0, iv f1, iv e0, .unset, .unset, .unset, .unset, .unset, .unset] [.int ((((i3.toUInt32 >>> ((8 : Int32) &&& 31).toUInt32).toInt32) &&& (255 : Int32)).toUInt32.toUInt16.toUInt32.toInt32)])
              rw [own_c8]
              show G T5 (mkF m 121 #[iv i0, iv i1, iv i2, iv i3, iv i4, rv t1, rv t2, iv n1, iv n2, iv f0, iv f1, iv e0, .unset, .unset, .unset, .unset, .unset, .unset] [.int (((i3.toUInt32 >>> ((8 : Int32) &&& 31).toUInt32).toInt32) &&& (255 : Int32))])
              exact J6 _ _ _ _ hS hk hZ hown X5 N e5 HR ((((i3.toUInt32 >>> ((8 : Int32) &&& 31).toUInt32).toInt32) &&& (255 : Int32))) ((own_le255 _)) ((own_ge0 _))
            · skip
              refine gb (fun _ k => XS.ifNo X5.here hx rfl (hb hby at_104) rfl ((if0 _ _).trans (feq hc104).1) (XS.iload X5.here hx rfl (hb hby at_107) rfl (XS.goto X5.here hx rfl (pc0 := 109) (pc' := 121) rfl (hb hby at_109) (by decide) (by decide) k))) ?_
              show G T5 (mkF m 121 #[iv i0, iv i1, iv i2, iv i3, iv i4, rv t1, rv t2, iv n1, iv n2, iv f0, iv f1, iv e0, .unset, .unset, .unset, .unset, .unset, .unset] [.int f1])
              exact J6 _ _ _ _ hS hk hZ hown X5 N e5 HR (f1) (hd_f1) (he_f1)
          refine gb (fun _ k => XS.iload X4.here hx rfl (hb hby at_79) rfl (XS.bipush X4.here hx rfl (hb hby at_81) (XS.iand X4.here hx rfl (hb hby at_83) rfl k))) ?_
          show G T4 (mkF m 84 #[iv i0, iv i1, iv i2, iv i3, iv i4, rv t1, rv t2, iv n1, iv n2, iv f0, iv f1, .unset, .unset, .unset, .unset, .unset, .unset, .unset] [.int (i4 &&& (6 : Int32))])
          by_cases hc84 : (i4 &&& (6 : Int32)) = (0 : Int32)
          · skip
            refine gb (fun _ k => XS.ifYes X4.here hx rfl (pc0 := 84) (pc' := 92) rfl (hb hby at_84) rfl ((if0 _ _).trans (teq hc84).1) (by decide) (by decide) (XS.iloadN X4.here hx rfl (hb hby at_92) rfl (XS.sipush X4.here hx rfl (hb hby at_93) (XS.iand X4.here hx rfl (hb hby at_96) rfl (XS.i2c X4.here hx rfl (hb hby at_97) rfl k))))) ?_
            show G T4 (mkF m 98 #[iv i0, iv i1, iv i2, iv i3, iv i4, rv t1, rv t2, iv n1, iv n2, iv f0, iv f1, .unset, .unset, .unset, .unset, .unset, .unset, .unset] [.int ((i3 &&& (255 : Int32)).toUInt32.toUInt16.toUInt32.toInt32)])
            rw [own_c8]
            show G T4 (mkF m 98 #[iv i0, iv i1, iv i2, iv i3, iv i4, rv t1, rv t2, iv n1, iv n2, iv f0, iv f1, .unset, .unset, .unset, .unset, .unset, .unset, .unset] [.int (i3 &&& (255 : Int32))])
            exact J5 _ _ _ _ hS hk hZ hown X4 N e4 HR ((i3 &&& (255 : Int32))) ((own_le255 _)) ((own_ge0 _))
          · skip
            refine gb (fun _ k => XS.ifNo X4.here hx rfl (hb hby at_84) rfl ((if0 _ _).trans (feq hc84).1) (XS.iload X4.here hx rfl (hb hby at_87) rfl (XS.goto X4.here hx rfl (pc0 := 89) (pc' := 98) rfl (hb hby at_89) (by decide) (by decide) k))) ?_
            show G T4 (mkF m 98 #[iv i0, iv i1, iv i2, iv i3, iv i4, rv t1, rv t2, iv n1, iv n2, iv f0, iv f1, .unset, .unset, .unset, .unset, .unset, .unset, .unset] [.int f0])
            exact J5 _ _ _ _ hS hk hZ hown X4 N e4 HR (f0) (hd_f0) (he_f0)
        refine gb (fun _ k => XS.sipush X3.here hx rfl (hb hby at_61) (XS.iand X3.here hx rfl (hb hby at_64) rfl (XS.i2c X3.here hx rfl (hb hby at_65) rfl k))) ?_
        show G T3 (mkF m 66 #[iv i0, iv i1, iv i2, iv i3, iv i4, rv t1, rv t2, iv n1, iv n2, .unset, .unset, .unset, .unset, .unset, .unset, .unset, .unset, .unset] [.int ((i1 &&& (255 : Int32)).toUInt32.toUInt16.toUInt32.toInt32)])
        rw [own_c8]
        show G T3 (mkF m 66 #[iv i0, iv i1, iv i2, iv i3, iv i4, rv t1, rv t2, iv n1, iv n2, .unset, .unset, .unset, .unset, .unset, .unset, .unset, .unset, .unset] [.int (i1 &&& (255 : Int32))])
        refine gb (fun _ k => XS.istore X3.here hx rfl (hb hby at_66) rfl (l' := #[iv i0, iv i1, iv i2, iv i3, iv i4, rv t1, rv t2, iv n1, iv n2, iv (i1 &&& (255 : Int32)), .unset, .unset, .unset, .unset, .unset, .unset, .unset, .unset]) rfl (XS.iloadN X3.here hx rfl (hb hby at_68) rfl (XS.bipush X3.here hx rfl (hb hby at_69) (XS.iushr X3.here hx rfl (hb hby at_71) rfl (XS.sipush X3.here hx rfl (hb hby at_72) (XS.iand X3.here hx rfl (hb hby at_75) rfl k)))))) ?_
        show G T3 (mkF m 76 #[iv i0, iv i1, iv i2, iv i3, iv i4, rv t1, rv t2, iv n1, iv n2, iv (i1 &&& (255 : Int32)), .unset, .unset, .unset, .unset, .unset, .unset, .unset, .unset] [.int (((i1.toUInt32 >>> ((8 : Int32) &&& 31).toUInt32).toInt32) &&& (255 : Int32))])
        refine gb (fun _ k => XS.i2c X3.here hx rfl (hb hby at_76) rfl k) ?_
        show G T3 (mkF m 77 #[iv i0, iv i1, iv i2, iv i3, iv i4, rv t1, rv t2, iv n1, iv n2, iv (i1 &&& (255 : Int32)), .unset, .unset, .unset, .unset, .unset, .unset, .unset, .unset] [.int ((((i1.toUInt32 >>> ((8 : Int32) &&& 31).toUInt32).toInt32) &&& (255 : Int32)).toUInt32.toUInt16.toUInt32.toInt32)])
        rw [own_c8]
        show G T3 (mkF m 77 #[iv i0, iv i1, iv i2, iv i3, iv i4, rv t1, rv t2, iv n1, iv n2, iv (i1 &&& (255 : Int32)), .unset, .unset, .unset, .unset, .unset, .unset, .unset, .unset] [.int (((i1.toUInt32 >>> ((8 : Int32) &&& 31).toUInt32).toInt32) &&& (255 : Int32))])
        refine gb (fun _ k => XS.istore X3.here hx rfl (hb hby at_77) rfl (l' := #[iv i0, iv i1, iv i2, iv i3, iv i4, rv t1, rv t2, iv n1, iv n2, iv (i1 &&& (255 : Int32)), iv (((i1.toUInt32 >>> ((8 : Int32) &&& 31).toUInt32).toInt32) &&& (255 : Int32)), .unset, .unset, .unset, .unset, .unset, .unset, .unset]) rfl k) ?_
        show G T3 (mkF m 79 #[iv i0, iv i1, iv i2, iv i3, iv i4, rv t1, rv t2, iv n1, iv n2, iv (i1 &&& (255 : Int32)), iv (((i1.toUInt32 >>> ((8 : Int32) &&& 31).toUInt32).toInt32) &&& (255 : Int32)), .unset, .unset, .unset, .unset, .unset, .unset, .unset] [])
        exact J4 _ _ _ _ hS hk hZ hown X3 N e3 HR ((i1 &&& (255 : Int32))) ((((i1.toUInt32 >>> ((8 : Int32) &&& 31).toUInt32).toInt32) &&& (255 : Int32))) (own_le255 _) (own_ge0 _) (own_le255 _) (own_ge0 _)
      refine gb (fun _ k => XS.iconst X2.here hx rfl (hb hby at_43) (XS.iand X2.here hx rfl (hb hby at_44) rfl k)) ?_
      show G T2 (mkF m 45 #[iv i0, iv i1, iv i2, iv i3, iv i4, rv t1, rv t2, iv n1, .unset, .unset, .unset, .unset, .unset, .unset, .unset, .unset, .unset, .unset] [.int (i4 &&& (1 : Int32))])
      by_cases hc45 : (i4 &&& (1 : Int32)) = (0 : Int32)
      · skip
        refine gb (fun _ k => XS.ifYes X2.here hx rfl (pc0 := 45) (pc' := 53) rfl (hb hby at_45) rfl ((if0 _ _).trans (teq hc45).1) (by decide) (by decide) (XS.iloadN X2.here hx rfl (hb hby at_53) rfl (XS.iconst X2.here hx rfl (hb hby at_54) (XS.iushr X2.here hx rfl (hb hby at_55) rfl (XS.iconst X2.here hx rfl (hb hby at_56) (iremM X2 hx rfl (hb hby at_57) rfl (by decide) k)))))) ?_
        show G T2 (mkF m 58 #[iv i0, iv i1, iv i2, iv i3, iv i4, rv t1, rv t2, iv n1, .unset, .unset, .unset, .unset, .unset, .unset, .unset, .unset, .unset, .unset] [.int (((i2.toUInt32 >>> ((1 : Int32) &&& 31).toUInt32).toInt32) % (3 : Int32))])
        exact J3 _ _ _ _ hS hk hZ hown X2 N e2 HR ((((i2.toUInt32 >>> ((1 : Int32) &&& 31).toUInt32).toInt32) % (3 : Int32))) (own_m3 i2)
      · skip
        refine gb (fun _ k => XS.ifNo X2.here hx rfl (hb hby at_45) rfl ((if0 _ _).trans (feq hc45).1) (XS.iload X2.here hx rfl (hb hby at_48) rfl (XS.goto X2.here hx rfl (pc0 := 50) (pc' := 58) rfl (hb hby at_50) (by decide) (by decide) k))) ?_
        show G T2 (mkF m 58 #[iv i0, iv i1, iv i2, iv i3, iv i4, rv t1, rv t2, iv n1, .unset, .unset, .unset, .unset, .unset, .unset, .unset, .unset, .unset, .unset] [.int n1])
        exact J3 _ _ _ _ hS hk hZ hown X2 N e2 HR (n1) (hn1)
    refine gb (fun _ k => XS.iloadN X1.here hx rfl (hb hby at_17) rfl (XS.iconst X1.here hx rfl (hb hby at_18) (XS.iand X1.here hx rfl (hb hby at_19) rfl k))) ?_
    show G T1 (mkF m 20 #[iv i0, iv i1, iv i2, iv i3, iv i4, rv t1, .unset, .unset, .unset, .unset, .unset, .unset, .unset, .unset, .unset, .unset, .unset, .unset] [.int (i2 &&& (1 : Int32))])
    by_cases hc20 : (i2 &&& (1 : Int32)) = (0 : Int32)
    · skip
      refine gb (fun _ k => XS.ifNo X1.here hx rfl (hb hby at_20) rfl ((if0 _ _).trans (teq hc20).2) k) ?_
      show G T1 (mkF m 23 #[iv i0, iv i1, iv i2, iv i3, iv i4, rv t1, .unset, .unset, .unset, .unset, .unset, .unset, .unset, .unset, .unset, .unset, .unset, .unset] [])
      obtain ⟨T19, X19, e19, st19⟩ := getS2 X1 hx hZ hown (host := "") (Or.inl (ow hw 0 rfl)) Via.refl e1 (S_SUCCESS.ext O.2) (g := (mkF m 23 #[iv i0, iv i1, iv i2, iv i3, iv i4, rv t1, .unset, .unset, .unset, .unset, .unset, .unset, .unset, .unset, .unset, .unset, .unset, .unset] [])) rfl (hb hby at_23)
      refine gb st19 ?_
      show G T19 (mkF m 26 #[iv i0, iv i1, iv i2, iv i3, iv i4, rv t1, .unset, .unset, .unset, .unset, .unset, .unset, .unset, .unset, .unset, .unset, .unset, .unset] [.ref w_SUCCESS])
      refine gb (fun _ k => XS.goto X19.here hx rfl (pc0 := 26) (pc' := 32) rfl (hb hby at_26) (by decide) (by decide) k) ?_
      show G T19 (mkF m 32 #[iv i0, iv i1, iv i2, iv i3, iv i4, rv t1, .unset, .unset, .unset, .unset, .unset, .unset, .unset, .unset, .unset, .unset, .unset, .unset] [.ref w_SUCCESS])
      exact J2 _ _ _ _ hS hk hZ hown X19 N e19 HR (w_SUCCESS) (E_SUCCESS)
    · skip
      refine gb (fun _ k => XS.ifYes X1.here hx rfl (pc0 := 20) (pc' := 29) rfl (hb hby at_20) rfl ((if0 _ _).trans (feq hc20).2) (by decide) (by decide) k) ?_
      show G T1 (mkF m 29 #[iv i0, iv i1, iv i2, iv i3, iv i4, rv t1, .unset, .unset, .unset, .unset, .unset, .unset, .unset, .unset, .unset, .unset, .unset, .unset] [])
      obtain ⟨T20, X20, e20, st20⟩ := getS2 X1 hx hZ hown (host := "") (Or.inl (ow hw 79 rfl)) Via.refl e1 (S_FAILURE.ext O.2) (g := (mkF m 29 #[iv i0, iv i1, iv i2, iv i3, iv i4, rv t1, .unset, .unset, .unset, .unset, .unset, .unset, .unset, .unset, .unset, .unset, .unset, .unset] [])) rfl (hb hby at_29)
      refine gb st20 ?_
      show G T20 (mkF m 32 #[iv i0, iv i1, iv i2, iv i3, iv i4, rv t1, .unset, .unset, .unset, .unset, .unset, .unset, .unset, .unset, .unset, .unset, .unset, .unset] [.ref w_FAILURE])
      exact J2 _ _ _ _ hS hk hZ hown X20 N e20 HR (w_FAILURE) (E_FAILURE)
  refine gb (fun _ k => XS.iloadN X0.here hx rfl (hb hby at_0) rfl (XS.iconst X0.here hx rfl (hb hby at_1) (XS.iand X0.here hx rfl (hb hby at_2) rfl k))) ?_
  show G s₁ (mkF m 3 #[iv i0, iv i1, iv i2, iv i3, iv i4, .unset, .unset, .unset, .unset, .unset, .unset, .unset, .unset, .unset, .unset, .unset, .unset, .unset] [.int (i0 &&& (1 : Int32))])
  by_cases hc3 : (i0 &&& (1 : Int32)) = (0 : Int32)
  · skip
    refine gb (fun _ k => XS.ifNo X0.here hx rfl (hb hby at_3) rfl ((if0 _ _).trans (teq hc3).2) k) ?_
    show G s₁ (mkF m 6 #[iv i0, iv i1, iv i2, iv i3, iv i4, .unset, .unset, .unset, .unset, .unset, .unset, .unset, .unset, .unset, .unset, .unset, .unset, .unset] [])
    obtain ⟨T21, X21, e21, st21⟩ := getS2 X0 hx hZ hown (host := "") (Or.inl (ow hw 0 rfl)) Via.refl e0 (S_SUCCESS.ext O.2) (g := (mkF m 6 #[iv i0, iv i1, iv i2, iv i3, iv i4, .unset, .unset, .unset, .unset, .unset, .unset, .unset, .unset, .unset, .unset, .unset, .unset, .unset] [])) rfl (hb hby at_6)
    refine gb st21 ?_
    show G T21 (mkF m 9 #[iv i0, iv i1, iv i2, iv i3, iv i4, .unset, .unset, .unset, .unset, .unset, .unset, .unset, .unset, .unset, .unset, .unset, .unset, .unset] [.ref w_SUCCESS])
    refine gb (fun _ k => XS.goto X21.here hx rfl (pc0 := 9) (pc' := 15) rfl (hb hby at_9) (by decide) (by decide) k) ?_
    show G T21 (mkF m 15 #[iv i0, iv i1, iv i2, iv i3, iv i4, .unset, .unset, .unset, .unset, .unset, .unset, .unset, .unset, .unset, .unset, .unset, .unset, .unset] [.ref w_SUCCESS])
    exact J1 _ _ _ _ hS hk hZ hown X21 N e21 HR (w_SUCCESS) (E_SUCCESS)
  · skip
    refine gb (fun _ k => XS.ifYes X0.here hx rfl (pc0 := 3) (pc' := 12) rfl (hb hby at_3) rfl ((if0 _ _).trans (feq hc3).2) (by decide) (by decide) k) ?_
    show G s₁ (mkF m 12 #[iv i0, iv i1, iv i2, iv i3, iv i4, .unset, .unset, .unset, .unset, .unset, .unset, .unset, .unset, .unset, .unset, .unset, .unset, .unset] [])
    obtain ⟨T22, X22, e22, st22⟩ := getS2 X0 hx hZ hown (host := "") (Or.inl (ow hw 79 rfl)) Via.refl e0 (S_FAILURE.ext O.2) (g := (mkF m 12 #[iv i0, iv i1, iv i2, iv i3, iv i4, .unset, .unset, .unset, .unset, .unset, .unset, .unset, .unset, .unset, .unset, .unset, .unset, .unset] [])) rfl (hb hby at_12)
    refine gb st22 ?_
    show G T22 (mkF m 15 #[iv i0, iv i1, iv i2, iv i3, iv i4, .unset, .unset, .unset, .unset, .unset, .unset, .unset, .unset, .unset, .unset, .unset, .unset, .unset] [.ref w_FAILURE])
    exact J1 _ _ _ _ hS hk hZ hown X22 N e22 HR (w_FAILURE) (E_FAILURE)
set_option maxRecDepth 65536 in
set_option maxHeartbeats 40000000 in
theorem comes_1 {Post : Tables → Env → Array Value → State → Outcome → State → Prop} (hpost : ∀ tb e args s v u, (limb_1_1.after args s (.returned v) u = true ∧ limb_1_2.after args s (.returned v) u = true ∧ True) → ReturnedEndW s (.returned v) u (Jvm.fieldLocs frame_1_writes args s ++ Jvm.arrayLocs frame_1_arrays args s ++ Jvm.staticLocs frame_1_statics s) 32 3200 → Post tb e args s (.returned v) u) :
    ArmFor flags0 classFile x code maxLocals ret World_1 tables_1 room_1 Calls_1 rest_1 Pre_1 Post := by
  intro l hfl _ _ p e ha hc hk s m args below hf hA hF happ hP
  obtain ⟨hcalls, hrest, hpre⟩ := hP
  obtain ⟨-, -, -, hnamed, -, -, -, hat⟩ := (Spec.applies_iff hf).mp happ
  obtain ⟨hg, hn⟩ := and_e (Cond.before_iff.mp (show (Jvm.Cond.and given_1 narrow_1).before args s = true from hpre))
  obtain ⟨g1, g2⟩ := and_e hg
  obtain ⟨g3, g4⟩ := and_e g2
  obtain ⟨g5, g6⟩ := and_e g4
  obtain ⟨g7, g8⟩ := and_e g6
  obtain ⟨g9, g10⟩ := and_e g8
  obtain ⟨g11, g12⟩ := and_e hn
  obtain ⟨g13, g14⟩ := and_e g12
  obtain ⟨g15, g16⟩ := and_e g14
  obtain ⟨w0, w1, w2, w3, w4, rfl⟩ : ∃ w0 w1 w2 w3 w4 : Value, args = #[w0, w1, w2, w3, w4] := by
    have hs : args.size = 5 := by simpa [Cond.value, given_1] using g1
    obtain ⟨L⟩ := args
    match L, hs with
    | [w0, w1, w2, w3, w4], _ => exact ⟨w0, w1, w2, w3, w4, rfl⟩
  have hw := fun d (hd : d ∈ tables_1) => atoms_spec (ws := Jvm.Cond.code x code maxLocals ret :: tables_1) hat d (List.mem_cons_of_mem _ hd)
  have hfit : Fit s := fun {y c} hc i hi => by
    obtain ⟨ha, rfl⟩ := Array.getElem?_eq_some_iff.mp hc
    have q := List.all_eq_true.mp ((Array.all_eq_true_iff_forall_mem.mp hF) _ (Array.getElem_mem ha)) i (List.mem_range.mpr hi)
    simpa [Array.getElem?_eq_getElem hi] using q
  obtain ⟨hsets, hown0⟩ := atoms_of _ (rest_1_c_eq ▸ (show rest_1_c.before _ s = true from hrest))
  have hr0 := Cond.before_iff.mp hown0
  obtain ⟨i0, ei0⟩ := is_v g3
  obtain rfl : w0 = (.int i0) := Option.some.inj ei0
  obtain ⟨i1, ei1⟩ := is_v g5
  obtain rfl : w1 = (.int i1) := Option.some.inj ei1
  obtain ⟨i2, ei2⟩ := is_v g7
  obtain rfl : w2 = (.int i2) := Option.some.inj ei2
  obtain ⟨i3, ei3⟩ := is_v g9
  obtain rfl : w3 = (.int i3) := Option.some.inj ei3
  obtain ⟨i4, ei4⟩ := is_v g10
  obtain rfl : w4 = (.int i4) := Option.some.inj ei4
  obtain ⟨w_SUCCESS, ev_SUCCESS⟩ := exa_v g11
  have S_SUCCESS : Sta s s.heap "com/example/equipe/equipe/JobResult$Status" "SUCCESS" "Lcom/example/equipe/equipe/JobResult$Status;" (.ref w_SUCCESS) := Sta.start ev_SUCCESS (Or.inr ⟨(ow hw 1 rfl), (ow hw 2 rfl)⟩)
  have E_SUCCESS : Exa s s.heap w_SUCCESS "com/example/equipe/equipe/JobResult$Status" := Exa.start ev_SUCCESS g11
  obtain ⟨w_FAILURE, ev_FAILURE⟩ := exa_v g13
  have S_FAILURE : Sta s s.heap "com/example/equipe/equipe/JobResult$Status" "FAILURE" "Lcom/example/equipe/equipe/JobResult$Status;" (.ref w_FAILURE) := Sta.start ev_FAILURE (Or.inr ⟨(ow hw 1 rfl), (ow hw 80 rfl)⟩)
  have E_FAILURE : Exa s s.heap w_FAILURE "com/example/equipe/equipe/JobResult$Status" := Exa.start ev_FAILURE g13
  have F_ordinal_FAILURE := own_fldI ev_FAILURE g15
  have F_ordinal_SUCCESS := own_fldI ev_SUCCESS g16
  obtain ⟨zc, ezc⟩ := is_v (Cond.before_iff.mp (hsets _ (List.mem_of_getElem? (i := 1) rfl)))
  have S_cs : Sta s s.heap "java/lang/String" "COMPACT_STRINGS" "Z" (.int zc) := Sta.start ezc (Or.inl (hsets _ (List.mem_of_getElem? (i := 0) rfl)))
  have hzc : ¬ zc = (0 : Int32) := gotF (Cond.eq_ints ezc (Term.int_eval 0)) (not_v (Cond.before_iff.mp (hsets _ (List.mem_of_getElem? (i := 2) rfl))))
  have hEL : EW s _ [("java/lang/String", 7)] := EW.cons (ow hw 21 rfl) (by decide) EW.nil
  have hHC : CHv s [("java/lang/String", 7)] s.vm s.heap := CHv.start hEL (fun p hp => hcalls.1 p (by rcases List.mem_singleton.mp hp with rfl; exact List.mem_of_getElem? (i := 2) rfl)) (hsets _ (List.mem_of_getElem? (i := 2) rfl)) (ow hw 22 rfl) (ow hw 8 rfl)
  obtain ⟨n, o, h1, h2, h3, _, L, rfl, ⟨rfl, N⟩, hq⟩ := rm0 l s _ hw tables_1 i0 i1 i2 i3 i4 s.heap s.heap.size (Old.start s) zc S_cs hzc w_SUCCESS S_SUCCESS E_SUCCESS w_FAILURE S_FAILURE E_FAILURE hEL hHC p e ha hc hk s m _ below hf ((Spec.applies_iff_loose hf).mp happ).1 ⟨rfl, State.Warmed39.refl s, rfl, rfl⟩ trivial
  refine ⟨n, _, h1, h2, h3, hpost _ _ _ _ _ _ ⟨Cond.after_iff.mpr rfl, Cond.after_iff.mpr (eq_i res_at (Term.int_eval (1)) rfl), trivial⟩ ⟨hq.1, hq.2.1, hq.2.2.1, (hq.2.2.2.sift fun y hy => Or.inr (N y hy)).mono (by decide) (by decide)⟩⟩
theorem main_1_1 : Claimed_1_1 := comes_1 fun _ _ _ _ _ _ h hF => ⟨h.1, hF⟩
theorem main_1_2 : Claimed_1_2 := comes_1 fun _ _ _ _ _ _ h hF => ⟨h.2.1, hF⟩
end Jvm.Pilot.@@N@@
namespace Jvm.Pilot.@@N@@
open Jvm Jvm.ClassFile Sem Op Lib Jvm.Free Jvm.Stand Jvm.Pilot.@@N@@.Jvm.D
/-! MADE BY PROGRAM (witnessworld.py) out of the Statement's table words and the real class files: 23 classes; the members and pool entries that the words name. The judged class is class 1, her method 2. -/
namespace start1
open Jvm.ClassFile
def u (s : String) : CpInfo := .utf8 (stringToUtf16 s)
/-- a pool by its gaps: so many unusable entries, then the entry; so many at the end -/
def gap : Nat → List CpInfo → List CpInfo
  | 0, r => r
  | n + 1, r => .unusable :: gap n r
def poolList (es : List (Nat × CpInfo)) (last : Nat) : List CpInfo := es.foldr (fun e r => gap e.1 (e.2 :: r)) (gap last [])
def pool (es : List (Nat × CpInfo)) (last : Nat) : Array CpInfo := ⟨poolList es last⟩
def fileOf (pool : Array CpInfo) (this : Nat) (attrs : Array Attribute := #[]) (ms : Array MethodInfo := #[]) (fl : Nat := 33) (sup : Nat := 0) (ifs : Array Nat := #[]) (fds : Array FieldInfo := #[]) : ClassFile where
  minorVersion := 0
  majorVersion := 65
  constantPool := pool
  accessFlags := fl
  thisClass := this
  superClass := sup
  interfaces := ifs
  fields := fds
  methods := ms
  attributes := attrs
def plain (name : String) (sup : Option ClassId) : Class where
  name := name
  kind := .ordinary
  loader := none
  accessFlags := 33
  super := sup
  interfaces := #[]
  cf := none
  fields := #[]
  methods := #[]
  instanceTypes := #[]
  staticTypes := #[]
  resolved := #[]
  callSites := []
  init := .initialized
  statics := none
  mirror := none

def pool0 : Array CpInfo := pool [(5, u "<init>"), (0, u "()V"), (1, .class_ 10), (1, u "java/lang/Object")] 113

def k0c0 : Code := { maxStack := 0, maxLocals := 1, code := object_method_1_code, exceptionTable := #[], attributes := #[] }
def k0m0 : Method := { name := "<init>", desc := "()V", sig := { parameters := [], returnType := none }, accessFlags := 1, code := some k0c0 }
/-- java/lang/Object -/
def k0 : Class := { plain "java/lang/Object" none with
  accessFlags := 33
  interfaces := #[]
  cf := some (fileOf pool0 8 #[] #[{ accessFlags := 1, nameIndex := 5, descriptorIndex := 6, attributes := #[] }] 33 0 #[] #[])
  fields := #[]
  methods := #[k0m0]
  instanceTypes := #[]
  staticTypes := #[]
  resolved := Array.replicate 124 none
  statics := none }

def pool1 : Array CpInfo := pool [(2, .class_ 4), (1, u "java/lang/Object"), (0, u "<init>"), (0, u "()V"), (0, .class_ 8), (0, u "java/lang/String"), (0, .methodref 7 10), (0, .nameAndType 5 11), (0, u "([C)V"), (0, .fieldref 13 14), (0, .class_ 15), (0, .nameAndType 16 17), (0, u "com/example/equipe/equipe/JobResult$Status"), (0, u "SUCCESS"), (0, u "Lcom/example/equipe/equipe/JobResult$Status;"), (0, .fieldref 13 19), (0, .nameAndType 20 17), (0, u "FAILURE"), (0, .methodref 22 23), (0, .class_ 24), (0, .nameAndType 25 26), (0, u "com/example/equipe/equipe/JobResultEqualsPinLaw"), (0, u "mk"), (0, u "(ICC)Ljava/lang/String;"), (0, .class_ 28), (0, u "com/example/equipe/equipe/JobResult"), (0, .methodref 27 30), (0, .nameAndType 5 31), (0, u "(Lcom/example/equipe/equipe/JobResult$Status;Ljava/lang/String;)V"), (0, .methodref 27 33), (0, .nameAndType 34 35), (0, u "equals"), (0, u "(Ljava/lang/Object;)Z"), (3, u "law"), (0, u "(IIIII)Z")] 4

def k1m0 : Method := { name := "<init>", desc := "()V", sig := { parameters := [], returnType := none }, accessFlags := 1, code := none }
def k1c1 : Code := { maxStack := 6, maxLocals := 3, code := method_2_code, exceptionTable := #[], attributes := #[] }
def k1m1 : Method := { name := "mk", desc := "(ICC)Ljava/lang/String;", sig := { parameters := [.int, .char, .char], returnType := some (.object "java/lang/String") }, accessFlags := 10, code := some k1c1 }
def k1c2 : Code := { maxStack := 4, maxLocals := 18, code := code, exceptionTable := #[], attributes := #[] }
def k1m2 : Method := { name := "law", desc := "(IIIII)Z", sig := { parameters := [.int, .int, .int, .int, .int], returnType := some .boolean }, accessFlags := 9, code := some k1c2 }
/-- com/example/equipe/equipe/JobResultEqualsPinLaw -/
def k1 : Class := { plain "com/example/equipe/equipe/JobResultEqualsPinLaw" (some 0) with
  accessFlags := 49
  interfaces := #[]
  cf := some (fileOf pool1 22 #[] #[{ accessFlags := 1, nameIndex := 5, descriptorIndex := 6, attributes := #[] }, { accessFlags := 10, nameIndex := 25, descriptorIndex := 26, attributes := #[] }, { accessFlags := 9, nameIndex := 39, descriptorIndex := 40, attributes := #[] }] 49 2 #[] #[])
  fields := #[]
  methods := #[k1m0, k1m1, k1m2]
  instanceTypes := #[]
  staticTypes := #[]
  resolved := Array.replicate 45 none
  statics := none }

def pool2 : Array CpInfo := pool [(1, .class_ 2), (0, u "java/lang/constant/Constable"), (0, .class_ 4), (0, u "java/lang/Object")] 6

/-- java/lang/constant/Constable -/
def k2 : Class := { plain "java/lang/constant/Constable" (some 0) with
  accessFlags := 1537
  interfaces := #[]
  cf := some (fileOf pool2 1 #[] #[] 1537 3 #[] #[])
  fields := #[]
  methods := #[]
  instanceTypes := #[]
  staticTypes := #[]
  resolved := Array.replicate 11 none
  statics := none }

def pool3 : Array CpInfo := pool [(1, .class_ 2), (0, u "java/lang/Comparable"), (0, .class_ 4), (0, u "java/lang/Object")] 7

/-- java/lang/Comparable -/
def k3 : Class := { plain "java/lang/Comparable" (some 0) with
  accessFlags := 1537
  interfaces := #[]
  cf := some (fileOf pool3 1 #[] #[] 1537 3 #[] #[])
  fields := #[]
  methods := #[]
  instanceTypes := #[]
  staticTypes := #[]
  resolved := Array.replicate 12 none
  statics := none }

def pool4 : Array CpInfo := pool [(1, .class_ 2), (0, u "java/io/Serializable"), (0, .class_ 4), (0, u "java/lang/Object")] 2

/-- java/io/Serializable -/
def k4 : Class := { plain "java/io/Serializable" (some 0) with
  accessFlags := 1537
  interfaces := #[]
  cf := some (fileOf pool4 1 #[] #[] 1537 3 #[] #[])
  fields := #[]
  methods := #[]
  instanceTypes := #[]
  staticTypes := #[]
  resolved := Array.replicate 7 none
  statics := none }

def pool5 : Array CpInfo := pool [(2, .class_ 4), (1, u "java/lang/Enum"), (0, u "name"), (0, u "Ljava/lang/String;"), (2, u "ordinal"), (0, u "I"), (1, .class_ 14), (1, u "java/lang/Object"), (4, u "hash"), (86, .class_ 108), (1, u "java/lang/Enum$EnumDesc"), (2, .class_ 112), (0, u "java/lang/constant/Constable"), (0, .class_ 114), (0, u "java/lang/Comparable"), (0, .class_ 116), (0, u "java/io/Serializable")] 87

/-- java/lang/Enum -/
def k5 : Class := { plain "java/lang/Enum" (some 0) with
  accessFlags := 1057
  interfaces := #[2, 3, 4]
  cf := some (fileOf pool5 2 #[.nestMembers #[106]] #[] 1057 12 #[111, 113, 115] #[{ accessFlags := 18, nameIndex := 5, descriptorIndex := 6, attributes := #[] }, { accessFlags := 18, nameIndex := 9, descriptorIndex := 10, attributes := #[] }, { accessFlags := 2, nameIndex := 19, descriptorIndex := 10, attributes := #[] }])
  fields := #[{ name := "name", type := (.object "java/lang/String"), accessFlags := 18, slot := 0, constantValue := 0 }, { name := "ordinal", type := .int, accessFlags := 18, slot := 1, constantValue := 0 }, { name := "hash", type := .int, accessFlags := 2, slot := 2, constantValue := 0 }]
  methods := #[]
  instanceTypes := #[(.object "java/lang/String"), .int, .int]
  staticTypes := #[]
  resolved := Array.replicate 204 none
  statics := none }

def pool6 : Array CpInfo := pool [(1, .class_ 2), (0, u "com/example/equipe/equipe/JobResult$Status"), (2, u "SUCCESS"), (0, u "Lcom/example/equipe/equipe/JobResult$Status;"), (2, u "FAILURE"), (2, u "$VALUES"), (0, u "[Lcom/example/equipe/equipe/JobResult$Status;"), (6, .class_ 22), (1, u "java/lang/Enum"), (25, .class_ 49), (0, u "com/example/equipe/equipe/JobResult")] 2

/-- com/example/equipe/equipe/JobResult$Status -/
def k6 : Class := { plain "com/example/equipe/equipe/JobResult$Status" (some 5) with
  accessFlags := 16433
  interfaces := #[]
  cf := some (fileOf pool6 1 #[.nestHost 48] #[] 16433 20 #[] #[{ accessFlags := 16409, nameIndex := 5, descriptorIndex := 6, attributes := #[] }, { accessFlags := 16409, nameIndex := 9, descriptorIndex := 6, attributes := #[] }, { accessFlags := 4122, nameIndex := 12, descriptorIndex := 13, attributes := #[] }])
  fields := #[{ name := "SUCCESS", type := (.object "com/example/equipe/equipe/JobResult$Status"), accessFlags := 16409, slot := 0, constantValue := 0 }, { name := "FAILURE", type := (.object "com/example/equipe/equipe/JobResult$Status"), accessFlags := 16409, slot := 1, constantValue := 0 }, { name := "$VALUES", type := (.array (.object "com/example/equipe/equipe/JobResult$Status")), accessFlags := 4122, slot := 2, constantValue := 0 }]
  methods := #[]
  instanceTypes := #[(.object "java/lang/String"), .int, .int]
  staticTypes := #[(.object "com/example/equipe/equipe/JobResult$Status"), (.object "com/example/equipe/equipe/JobResult$Status"), (.array (.object "com/example/equipe/equipe/JobResult$Status"))]
  resolved := Array.replicate 52 none
  statics := some 0 }

def pool7 : Array CpInfo := pool [(2, .class_ 4), (1, u "java/lang/CharSequence"), (42, .class_ 48), (0, u "java/lang/CharSequence$1CodePointIterator"), (10, .class_ 60), (0, u "java/lang/CharSequence$1CharIterator"), (5, .class_ 67), (0, u "java/lang/Object")] 63

/-- java/lang/CharSequence -/
def k7 : Class := { plain "java/lang/CharSequence" (some 0) with
  accessFlags := 1537
  interfaces := #[]
  cf := some (fileOf pool7 2 #[.nestMembers #[47, 59]] #[] 1537 66 #[] #[])
  fields := #[]
  methods := #[]
  instanceTypes := #[]
  staticTypes := #[]
  resolved := Array.replicate 131 none
  statics := none }

def pool8 : Array CpInfo := pool [(1, .class_ 2), (0, u "java/lang/constant/ConstantDesc"), (0, .class_ 4), (0, u "java/lang/Object")] 32

/-- java/lang/constant/ConstantDesc -/
def k8 : Class := { plain "java/lang/constant/ConstantDesc" (some 0) with
  accessFlags := 1537
  interfaces := #[]
  cf := some (fileOf pool8 1 #[] #[] 1537 3 #[] #[])
  fields := #[]
  methods := #[]
  instanceTypes := #[]
  staticTypes := #[]
  resolved := Array.replicate 37 none
  statics := none }

def pool9 : Array CpInfo := pool [(1, .methodref 2 3), (0, .class_ 4), (0, .nameAndType 5 6), (0, u "java/lang/Object"), (0, u "<init>"), (0, u "()V"), (0, .string 8), (0, u ""), (0, .fieldref 10 11), (0, .class_ 12), (0, .nameAndType 13 14), (0, u "java/lang/String"), (0, u "value"), (0, u "[B"), (0, .fieldref 10 16), (0, .nameAndType 17 18), (0, u "coder"), (0, u "B"), (2, u "hash"), (0, u "I"), (2, u "hashIsZero"), (0, u "Z"), (0, .methodref 10 28), (0, .nameAndType 5 29), (0, u "([CIILjava/lang/Void;)V"), (8, .fieldref 10 39), (0, .nameAndType 40 26), (0, u "COMPACT_STRINGS"), (1, .class_ 44), (1, u "java/lang/StringUTF16"), (0, u "compress"), (1, .methodref 42 48), (0, .nameAndType 49 50), (0, u "coderFromArrayLen"), (0, u "([BI)B"), (56, .class_ 109), (1, u "java/lang/StringLatin1"), (67, .methodref 42 178), (0, .nameAndType 45 179), (0, u "([CII)[B"), (361, .methodref 107 542), (0, .nameAndType 543 544), (0, u "equals"), (0, u "([B[B)Z"), (28, u "(Ljava/lang/Object;)Z"), (1, .class_ 576), (0, u "java/lang/CharSequence"), (22, u "CASE_INSENSITIVE_ORDER"), (0, u "Ljava/util/Comparator;"), (409, u "([C)V"), (90, u "serialPersistentFields"), (0, u "[Ljava/io/ObjectStreamField;"), (0, .class_ 1104), (0, u "java/lang/String$CaseInsensitiveComparator"), (1, .class_ 1107), (0, u "java/io/Serializable"), (0, .class_ 1109), (0, u "java/lang/Comparable"), (0, .class_ 1111), (0, u "java/lang/constant/Constable"), (0, .class_ 1113), (0, u "java/lang/constant/ConstantDesc"), (2, u "serialVersionUID"), (0, u "J"), (3, u "REPL"), (0, u "C"), (2, u "LATIN1"), (1, u "UTF16")] 323

def k9m0 : Method := { name := "<init>", desc := "()V", sig := { parameters := [], returnType := none }, accessFlags := 1, code := none }
def k9c1 : Code := { maxStack := 5, maxLocals := 2, code := jdk_42_method_3_code, exceptionTable := #[], attributes := #[] }
def k9m1 : Method := { name := "<init>", desc := "([C)V", sig := { parameters := [(.array .char)], returnType := none }, accessFlags := 1, code := some k9c1 }
def k9c2 : Code := { maxStack := 2, maxLocals := 3, code := jdk_42_method_66_code, exceptionTable := #[], attributes := #[] }
def k9m2 : Method := { name := "equals", desc := "(Ljava/lang/Object;)Z", sig := { parameters := [(.object "java/lang/Object")], returnType := some .boolean }, accessFlags := 1, code := some k9c2 }
def k9c3 : Code := { maxStack := 4, maxLocals := 6, code := jdk_42_method_149_code, exceptionTable := #[], attributes := #[] }
def k9m3 : Method := { name := "<init>", desc := "([CIILjava/lang/Void;)V", sig := { parameters := [(.array .char), .int, .int, (.object "java/lang/Void")], returnType := none }, accessFlags := 2, code := some k9c3 }
/-- java/lang/String -/
def k9 : Class := { plain "java/lang/String" (some 0) with
  accessFlags := 49
  interfaces := #[4, 3, 7, 2, 8]
  cf := some (fileOf pool9 10 #[.nestMembers #[1103]] #[{ accessFlags := 1, nameIndex := 5, descriptorIndex := 6, attributes := #[] }, { accessFlags := 1, nameIndex := 5, descriptorIndex := 1010, attributes := #[] }, { accessFlags := 1, nameIndex := 543, descriptorIndex := 573, attributes := #[] }, { accessFlags := 2, nameIndex := 5, descriptorIndex := 29, attributes := #[] }] 49 2 #[1106, 1108, 575, 1110, 1112] #[{ accessFlags := 18, nameIndex := 13, descriptorIndex := 14, attributes := #[] }, { accessFlags := 18, nameIndex := 17, descriptorIndex := 18, attributes := #[] }, { accessFlags := 2, nameIndex := 21, descriptorIndex := 22, attributes := #[] }, { accessFlags := 2, nameIndex := 25, descriptorIndex := 26, attributes := #[] }, { accessFlags := 26, nameIndex := 1116, descriptorIndex := 1117, attributes := #[] }, { accessFlags := 24, nameIndex := 40, descriptorIndex := 26, attributes := #[] }, { accessFlags := 26, nameIndex := 1101, descriptorIndex := 1102, attributes := #[] }, { accessFlags := 26, nameIndex := 1121, descriptorIndex := 1122, attributes := #[] }, { accessFlags := 25, nameIndex := 599, descriptorIndex := 600, attributes := #[] }, { accessFlags := 24, nameIndex := 1125, descriptorIndex := 18, attributes := #[] }, { accessFlags := 24, nameIndex := 1127, descriptorIndex := 18, attributes := #[] }])
  fields := #[{ name := "value", type := (.array .byte), accessFlags := 18, slot := 0, constantValue := 0 }, { name := "coder", type := .byte, accessFlags := 18, slot := 1, constantValue := 0 }, { name := "hash", type := .int, accessFlags := 2, slot := 2, constantValue := 0 }, { name := "hashIsZero", type := .boolean, accessFlags := 2, slot := 3, constantValue := 0 }, { name := "serialVersionUID", type := .long, accessFlags := 26, slot := 0, constantValue := 0 }, { name := "COMPACT_STRINGS", type := .boolean, accessFlags := 24, slot := 1, constantValue := 0 }, { name := "serialPersistentFields", type := (.array (.object "java/io/ObjectStreamField")), accessFlags := 26, slot := 2, constantValue := 0 }, { name := "REPL", type := .char, accessFlags := 26, slot := 3, constantValue := 0 }, { name := "CASE_INSENSITIVE_ORDER", type := (.object "java/util/Comparator"), accessFlags := 25, slot := 4, constantValue := 0 }, { name := "LATIN1", type := .byte, accessFlags := 24, slot := 5, constantValue := 0 }, { name := "UTF16", type := .byte, accessFlags := 24, slot := 6, constantValue := 0 }]
  methods := #[k9m0, k9m1, k9m2, k9m3]
  instanceTypes := #[(.array .byte), .byte, .int, .boolean]
  staticTypes := #[.long, .boolean, (.array (.object "java/io/ObjectStreamField")), .char, (.object "java/util/Comparator"), .byte, .byte]
  resolved := Array.replicate 1451 none
  statics := some 1 }

def pool10 : Array CpInfo := pool [(6, .class_ 8), (1, u "java/lang/Object"), (0, u "<init>"), (0, u "()V"), (1, .class_ 14), (1, u "java/lang/StringUTF16"), (31, u "$assertionsDisabled"), (0, u "Z"), (13, u "HI_BYTE_SHIFT"), (0, u "I"), (2, u "LO_BYTE_SHIFT"), (49, .methodref 12 116), (0, .nameAndType 117 118), (0, u "compress"), (0, u "([CI[BII)I"), (3, u "([CII)[B"), (138, u "coderFromArrayLen"), (0, u "([BI)B"), (106, .class_ 371), (1, u "java/lang/StringUTF16$LinesSpliterator"), (58, u "MAX_LENGTH"), (196, .class_ 628), (0, u "java/lang/StringUTF16$CodePointsSpliterator"), (0, .class_ 630), (0, u "java/lang/StringUTF16$CharsSpliterator")] 4

def k10m0 : Method := { name := "<init>", desc := "()V", sig := { parameters := [], returnType := none }, accessFlags := 0, code := none }
def k10c1 : Code := { maxStack := 2, maxLocals := 2, code := jdk_52_method_15_code, exceptionTable := #[], attributes := #[] }
def k10m1 : Method := { name := "coderFromArrayLen", desc := "([BI)B", sig := { parameters := [(.array .byte), .int], returnType := some .byte }, accessFlags := 8, code := some k10c1 }
def k10c2 : Code := { maxStack := 5, maxLocals := 6, code := jdk_52_method_16_code, exceptionTable := #[], attributes := #[] }
def k10m2 : Method := { name := "compress", desc := "([CII)[B", sig := { parameters := [(.array .char), .int, .int], returnType := some (.array .byte) }, accessFlags := 9, code := some k10c2 }
def k10c3 : Code := { maxStack := 3, maxLocals := 7, code := jdk_52_method_21_code, exceptionTable := #[], attributes := #[] }
def k10m3 : Method := { name := "compress", desc := "([CI[BII)I", sig := { parameters := [(.array .char), .int, (.array .byte), .int, .int], returnType := some .int }, accessFlags := 9, code := some k10c3 }
/-- java/lang/StringUTF16 -/
def k10 : Class := { plain "java/lang/StringUTF16" (some 0) with
  accessFlags := 48
  interfaces := #[]
  cf := some (fileOf pool10 12 #[.nestMembers #[627, 629, 369]] #[{ accessFlags := 0, nameIndex := 9, descriptorIndex := 10, attributes := #[] }, { accessFlags := 8, nameIndex := 261, descriptorIndex := 262, attributes := #[] }, { accessFlags := 9, nameIndex := 117, descriptorIndex := 122, attributes := #[] }, { accessFlags := 9, nameIndex := 117, descriptorIndex := 118, attributes := #[] }] 48 6 #[] #[{ accessFlags := 26, nameIndex := 61, descriptorIndex := 62, attributes := #[] }, { accessFlags := 26, nameIndex := 65, descriptorIndex := 62, attributes := #[] }, { accessFlags := 24, nameIndex := 430, descriptorIndex := 62, attributes := #[] }, { accessFlags := 4120, nameIndex := 46, descriptorIndex := 47, attributes := #[] }])
  fields := #[{ name := "HI_BYTE_SHIFT", type := .int, accessFlags := 26, slot := 0, constantValue := 0 }, { name := "LO_BYTE_SHIFT", type := .int, accessFlags := 26, slot := 1, constantValue := 0 }, { name := "MAX_LENGTH", type := .int, accessFlags := 24, slot := 2, constantValue := 0 }, { name := "$assertionsDisabled", type := .boolean, accessFlags := 4120, slot := 3, constantValue := 0 }]
  methods := #[k10m0, k10m1, k10m2, k10m3]
  instanceTypes := #[]
  staticTypes := #[.int, .int, .int, .boolean]
  resolved := Array.replicate 635 none
  statics := none }

def pool11 : Array CpInfo := pool [(1, .methodref 2 3), (0, .class_ 4), (0, .nameAndType 5 6), (0, u "java/lang/Object"), (0, u "<init>"), (0, u "()V"), (0, .string 8), (0, u "status"), (0, .methodref 10 11), (0, .class_ 12), (0, .nameAndType 13 14), (0, u "java/util/Objects"), (0, u "requireNonNull"), (0, u "(Ljava/lang/Object;Ljava/lang/String;)Ljava/lang/Object;"), (0, .class_ 16), (0, u "com/example/equipe/equipe/JobResult$Status"), (0, .fieldref 18 19), (0, .class_ 20), (0, .nameAndType 8 21), (0, u "com/example/equipe/equipe/JobResult"), (0, u "Lcom/example/equipe/equipe/JobResult$Status;"), (0, .string 23), (0, u "info"), (0, .class_ 25), (0, u "java/lang/String"), (0, .fieldref 18 27), (0, .nameAndType 23 28), (0, u "Ljava/lang/String;"), (0, .methodref 24 30), (0, .nameAndType 31 32), (0, u "equals"), (0, u "(Ljava/lang/Object;)Z"), (4, u "(Lcom/example/equipe/equipe/JobResult$Status;Ljava/lang/String;)V")] 12

def k11c0 : Code := { maxStack := 3, maxLocals := 3, code := prog_5_method_1_code, exceptionTable := #[], attributes := #[] }
def k11m0 : Method := { name := "<init>", desc := "(Lcom/example/equipe/equipe/JobResult$Status;Ljava/lang/String;)V", sig := { parameters := [(.object "com/example/equipe/equipe/JobResult$Status"), (.object "java/lang/String")], returnType := none }, accessFlags := 1, code := some k11c0 }
def k11c1 : Code := { maxStack := 2, maxLocals := 3, code := prog_5_method_4_code, exceptionTable := #[], attributes := #[] }
def k11m1 : Method := { name := "equals", desc := "(Ljava/lang/Object;)Z", sig := { parameters := [(.object "java/lang/Object")], returnType := some .boolean }, accessFlags := 1, code := some k11c1 }
/-- com/example/equipe/equipe/JobResult -/
def k11 : Class := { plain "com/example/equipe/equipe/JobResult" (some 0) with
  accessFlags := 33
  interfaces := #[]
  cf := some (fileOf pool11 18 #[.nestMembers #[15]] #[{ accessFlags := 1, nameIndex := 5, descriptorIndex := 37, attributes := #[] }, { accessFlags := 1, nameIndex := 31, descriptorIndex := 32, attributes := #[] }] 33 2 #[] #[{ accessFlags := 18, nameIndex := 8, descriptorIndex := 21, attributes := #[] }, { accessFlags := 18, nameIndex := 23, descriptorIndex := 28, attributes := #[] }])
  fields := #[{ name := "status", type := (.object "com/example/equipe/equipe/JobResult$Status"), accessFlags := 18, slot := 0, constantValue := 0 }, { name := "info", type := (.object "java/lang/String"), accessFlags := 18, slot := 1, constantValue := 0 }]
  methods := #[k11m0, k11m1]
  instanceTypes := #[(.object "com/example/equipe/equipe/JobResult$Status"), (.object "java/lang/String")]
  staticTypes := #[]
  resolved := Array.replicate 50 none
  statics := none }

def pool12 : Array CpInfo := pool [(2, .class_ 4), (1, u "java/lang/Object"), (0, u "<init>"), (0, u "()V"), (35, .class_ 44), (1, u "java/util/Objects"), (0, u "requireNonNull"), (48, u "(Ljava/lang/Object;Ljava/lang/String;)Ljava/lang/Object;")] 89

def k12m0 : Method := { name := "<init>", desc := "()V", sig := { parameters := [], returnType := none }, accessFlags := 2, code := none }
def k12c1 : Code := { maxStack := 3, maxLocals := 2, code := jdk_31_method_11_code, exceptionTable := #[], attributes := #[] }
def k12m1 : Method := { name := "requireNonNull", desc := "(Ljava/lang/Object;Ljava/lang/String;)Ljava/lang/Object;", sig := { parameters := [(.object "java/lang/Object"), (.object "java/lang/String")], returnType := some (.object "java/lang/Object") }, accessFlags := 9, code := some k12c1 }
/-- java/util/Objects -/
def k12 : Class := { plain "java/util/Objects" (some 0) with
  accessFlags := 49
  interfaces := #[]
  cf := some (fileOf pool12 42 #[] #[{ accessFlags := 2, nameIndex := 5, descriptorIndex := 6, attributes := #[] }, { accessFlags := 9, nameIndex := 45, descriptorIndex := 94, attributes := #[] }] 49 2 #[] #[])
  fields := #[]
  methods := #[k12m0, k12m1]
  instanceTypes := #[]
  staticTypes := #[]
  resolved := Array.replicate 184 none
  statics := none }

def pool13 : Array CpInfo := pool [(4, .class_ 6), (1, u "java/lang/Object"), (0, u "<init>"), (0, u "()V"), (5, .class_ 16), (1, u "java/lang/StringLatin1"), (104, u "$assertionsDisabled"), (0, u "Z"), (98, .class_ 223), (1, u "java/lang/StringLatin1$LinesSpliterator"), (57, u "equals"), (0, u "([B[B)Z"), (107, .class_ 391), (0, u "java/lang/StringLatin1$CharsSpliterator")] 3

def k13m0 : Method := { name := "<init>", desc := "()V", sig := { parameters := [], returnType := none }, accessFlags := 0, code := none }
def k13c1 : Code := { maxStack := 3, maxLocals := 3, code := jdk_43_method_13_code, exceptionTable := #[], attributes := #[] }
def k13m1 : Method := { name := "equals", desc := "([B[B)Z", sig := { parameters := [(.array .byte), (.array .byte)], returnType := some .boolean }, accessFlags := 9, code := some k13c1 }
/-- java/lang/StringLatin1 -/
def k13 : Class := { plain "java/lang/StringLatin1" (some 0) with
  accessFlags := 48
  interfaces := #[]
  cf := some (fileOf pool13 14 #[.nestMembers #[390, 221]] #[{ accessFlags := 0, nameIndex := 7, descriptorIndex := 8, attributes := #[] }, { accessFlags := 9, nameIndex := 281, descriptorIndex := 282, attributes := #[] }] 48 4 #[] #[{ accessFlags := 4120, nameIndex := 121, descriptorIndex := 122, attributes := #[] }])
  fields := #[{ name := "$assertionsDisabled", type := .boolean, accessFlags := 4120, slot := 0, constantValue := 0 }]
  methods := #[k13m0, k13m1]
  instanceTypes := #[]
  staticTypes := #[.boolean]
  resolved := Array.replicate 395 none
  statics := none }

def pool14 : Array CpInfo := pool [(2, .class_ 4), (1, u "java/lang/Object"), (0, u "<init>"), (0, u "()V"), (17, .class_ 26), (1, u "jdk/internal/util/Preconditions"), (28, .class_ 56), (0, u "jdk/internal/util/Preconditions$4"), (57, .class_ 115), (0, u "jdk/internal/util/Preconditions$1"), (7, u "SIOOBE_FORMATTER"), (0, u "Ljava/util/function/BiFunction;"), (0, .class_ 126), (0, u "jdk/internal/util/Preconditions$2"), (3, u "AIOOBE_FORMATTER"), (0, .class_ 132), (0, u "jdk/internal/util/Preconditions$3"), (3, u "IOOBE_FORMATTER")] 57

def k14m0 : Method := { name := "<init>", desc := "()V", sig := { parameters := [], returnType := none }, accessFlags := 1, code := none }
/-- jdk/internal/util/Preconditions -/
def k14 : Class := { plain "jdk/internal/util/Preconditions" (some 0) with
  accessFlags := 33
  interfaces := #[]
  cf := some (fileOf pool14 24 #[.nestMembers #[55, 131, 125, 114]] #[{ accessFlags := 1, nameIndex := 5, descriptorIndex := 6, attributes := #[] }] 33 2 #[] #[{ accessFlags := 25, nameIndex := 123, descriptorIndex := 124, attributes := #[] }, { accessFlags := 25, nameIndex := 130, descriptorIndex := 124, attributes := #[] }, { accessFlags := 25, nameIndex := 136, descriptorIndex := 124, attributes := #[] }])
  fields := #[{ name := "SIOOBE_FORMATTER", type := (.object "java/util/function/BiFunction"), accessFlags := 25, slot := 0, constantValue := 0 }, { name := "AIOOBE_FORMATTER", type := (.object "java/util/function/BiFunction"), accessFlags := 25, slot := 1, constantValue := 0 }, { name := "IOOBE_FORMATTER", type := (.object "java/util/function/BiFunction"), accessFlags := 25, slot := 2, constantValue := 0 }]
  methods := #[k14m0]
  instanceTypes := #[]
  staticTypes := #[(.object "java/util/function/BiFunction"), (.object "java/util/function/BiFunction"), (.object "java/util/function/BiFunction")]
  resolved := Array.replicate 194 none
  statics := some 2 }

def pool15 : Array CpInfo := pool [(9, u "<init>"), (6, .class_ 18), (1, u "java/lang/Object"), (0, u "()V"), (1, .class_ 23), (1, u "jdk/internal/util/ArraysSupport"), (0, u "LOG2_ARRAY_LONG_INDEX_SCALE"), (0, u "I"), (2, u "U"), (0, u "Ljdk/internal/misc/Unsafe;"), (8, u "BIG_ENDIAN"), (0, u "Z"), (8, u "LOG2_BYTE_BIT_SIZE"), (4, u "LOG2_ARRAY_INT_INDEX_SCALE"), (54, u "JLA"), (0, u "Ljdk/internal/access/JavaLangAccess;"), (11, u "LOG2_ARRAY_BOOLEAN_INDEX_SCALE"), (9, u "LOG2_ARRAY_BYTE_INDEX_SCALE"), (5, u "LOG2_ARRAY_CHAR_INDEX_SCALE"), (5, u "LOG2_ARRAY_SHORT_INDEX_SCALE"), (18, u "LOG2_ARRAY_FLOAT_INDEX_SCALE"), (24, u "LOG2_ARRAY_DOUBLE_INDEX_SCALE"), (89, u "T_BOOLEAN"), (2, u "T_CHAR"), (1, u "T_FLOAT"), (1, u "T_DOUBLE"), (1, u "T_BYTE"), (1, u "T_SHORT"), (1, u "T_INT"), (1, u "T_LONG"), (1, u "SOFT_MAX_ARRAY_LENGTH")] 83

def k15m0 : Method := { name := "<init>", desc := "()V", sig := { parameters := [], returnType := none }, accessFlags := 2, code := none }
/-- jdk/internal/util/ArraysSupport -/
def k15 : Class := { plain "jdk/internal/util/ArraysSupport" (some 0) with
  accessFlags := 33
  interfaces := #[]
  cf := some (fileOf pool15 21 #[] #[{ accessFlags := 2, nameIndex := 9, descriptorIndex := 19, attributes := #[] }] 33 16 #[] #[{ accessFlags := 24, nameIndex := 28, descriptorIndex := 29, attributes := #[] }, { accessFlags := 26, nameIndex := 38, descriptorIndex := 39, attributes := #[] }, { accessFlags := 25, nameIndex := 121, descriptorIndex := 25, attributes := #[] }, { accessFlags := 25, nameIndex := 131, descriptorIndex := 25, attributes := #[] }, { accessFlags := 25, nameIndex := 137, descriptorIndex := 25, attributes := #[] }, { accessFlags := 25, nameIndex := 143, descriptorIndex := 25, attributes := #[] }, { accessFlags := 25, nameIndex := 53, descriptorIndex := 25, attributes := #[] }, { accessFlags := 25, nameIndex := 24, descriptorIndex := 25, attributes := #[] }, { accessFlags := 25, nameIndex := 162, descriptorIndex := 25, attributes := #[] }, { accessFlags := 25, nameIndex := 187, descriptorIndex := 25, attributes := #[] }, { accessFlags := 26, nameIndex := 48, descriptorIndex := 25, attributes := #[] }, { accessFlags := 25, nameIndex := 277, descriptorIndex := 25, attributes := #[] }, { accessFlags := 25, nameIndex := 280, descriptorIndex := 25, attributes := #[] }, { accessFlags := 25, nameIndex := 282, descriptorIndex := 25, attributes := #[] }, { accessFlags := 25, nameIndex := 284, descriptorIndex := 25, attributes := #[] }, { accessFlags := 25, nameIndex := 286, descriptorIndex := 25, attributes := #[] }, { accessFlags := 25, nameIndex := 288, descriptorIndex := 25, attributes := #[] }, { accessFlags := 25, nameIndex := 290, descriptorIndex := 25, attributes := #[] }, { accessFlags := 25, nameIndex := 292, descriptorIndex := 25, attributes := #[] }, { accessFlags := 26, nameIndex := 108, descriptorIndex := 109, attributes := #[] }, { accessFlags := 25, nameIndex := 294, descriptorIndex := 25, attributes := #[] }])
  fields := #[{ name := "U", type := (.object "jdk/internal/misc/Unsafe"), accessFlags := 24, slot := 0, constantValue := 0 }, { name := "BIG_ENDIAN", type := .boolean, accessFlags := 26, slot := 1, constantValue := 0 }, { name := "LOG2_ARRAY_BOOLEAN_INDEX_SCALE", type := .int, accessFlags := 25, slot := 2, constantValue := 0 }, { name := "LOG2_ARRAY_BYTE_INDEX_SCALE", type := .int, accessFlags := 25, slot := 3, constantValue := 0 }, { name := "LOG2_ARRAY_CHAR_INDEX_SCALE", type := .int, accessFlags := 25, slot := 4, constantValue := 0 }, { name := "LOG2_ARRAY_SHORT_INDEX_SCALE", type := .int, accessFlags := 25, slot := 5, constantValue := 0 }, { name := "LOG2_ARRAY_INT_INDEX_SCALE", type := .int, accessFlags := 25, slot := 6, constantValue := 0 }, { name := "LOG2_ARRAY_LONG_INDEX_SCALE", type := .int, accessFlags := 25, slot := 7, constantValue := 0 }, { name := "LOG2_ARRAY_FLOAT_INDEX_SCALE", type := .int, accessFlags := 25, slot := 8, constantValue := 0 }, { name := "LOG2_ARRAY_DOUBLE_INDEX_SCALE", type := .int, accessFlags := 25, slot := 9, constantValue := 0 }, { name := "LOG2_BYTE_BIT_SIZE", type := .int, accessFlags := 26, slot := 10, constantValue := 0 }, { name := "T_BOOLEAN", type := .int, accessFlags := 25, slot := 11, constantValue := 0 }, { name := "T_CHAR", type := .int, accessFlags := 25, slot := 12, constantValue := 0 }, { name := "T_FLOAT", type := .int, accessFlags := 25, slot := 13, constantValue := 0 }, { name := "T_DOUBLE", type := .int, accessFlags := 25, slot := 14, constantValue := 0 }, { name := "T_BYTE", type := .int, accessFlags := 25, slot := 15, constantValue := 0 }, { name := "T_SHORT", type := .int, accessFlags := 25, slot := 16, constantValue := 0 }, { name := "T_INT", type := .int, accessFlags := 25, slot := 17, constantValue := 0 }, { name := "T_LONG", type := .int, accessFlags := 25, slot := 18, constantValue := 0 }, { name := "JLA", type := (.object "jdk/internal/access/JavaLangAccess"), accessFlags := 26, slot := 19, constantValue := 0 }, { name := "SOFT_MAX_ARRAY_LENGTH", type := .int, accessFlags := 25, slot := 20, constantValue := 0 }]
  methods := #[k15m0]
  instanceTypes := #[]
  staticTypes := #[(.object "jdk/internal/misc/Unsafe"), .boolean, .int, .int, .int, .int, .int, .int, .int, .int, .int, .int, .int, .int, .int, .int, .int, .int, .int, (.object "jdk/internal/access/JavaLangAccess"), .int]
  resolved := Array.replicate 378 none
  statics := none }

def pool16 : Array CpInfo := pool [(1, u "java/lang/Cloneable"), (0, .class_ 1), (0, u "java/lang/Object"), (0, .class_ 3)] 3

/-- java/lang/Cloneable -/
def k16 : Class := { plain "java/lang/Cloneable" (some 0) with
  accessFlags := 1537
  interfaces := #[]
  cf := some (fileOf pool16 2 #[] #[] 1537 4 #[] #[])
  fields := #[]
  methods := #[]
  instanceTypes := #[]
  staticTypes := #[]
  resolved := Array.replicate 8 none
  statics := none }

/-- the primitive byte -/
def k17 : Class := { plain "byte" none with kind := .primitive 'B', accessFlags := 0x411 }
/-- [B -/
def k18 : Class := { plain "[B" (some 0) with kind := .array 17 .byte, interfaces := #[16, 4], accessFlags := 1041 }

/-- the primitive char -/
def k19 : Class := { plain "char" none with kind := .primitive 'C', accessFlags := 0x411 }
/-- [C -/
def k20 : Class := { plain "[C" (some 0) with kind := .array 19 .char, interfaces := #[16, 4], accessFlags := 1041 }

/-- the primitive int -/
def k21 : Class := { plain "int" none with kind := .primitive 'I', accessFlags := 0x411 }
/-- [I -/
def k22 : Class := { plain "[I" (some 0) with kind := .array 21 .int, interfaces := #[16, 4], accessFlags := 1041 }

def heap : Heap := #[{ cls := 6, slots := #[.ref 3, .ref 4, .null], vm := .statics 6 },
  { cls := 9, slots := #[.long 0, .int 1, .null, .int 0, .null, .int 0, .int 0], vm := .statics 9 },
  { cls := 14, slots := #[.null, .null, .null], vm := .statics 14 },
  { cls := 6, slots := #[.null, .int 0, .int 0], vm := .none },
  { cls := 6, slots := #[.null, .int 1, .int 0], vm := .none }]
def classes : Array Class := #[k0, k1, k2, k3, k4, k5, k6, k7, k8, k9, k10, k11, k12, k13, k14, k15, k16, k17, k18, k19, k20, k21, k22]
def interned : List (Array UInt16 × Addr) := []
def slotsUsed : Nat := 19
def theMethod : MethodId := ⟨1, 2⟩
def args0 : Array Value := #[.int 5, .int 5, .int 5, .int 5, .int 5]
def aboutOver (below : List Frame) : State where
  vm := { classes := classes, interned := interned.toArray }
  heap := heap
  slotsUsed := slotsUsed
  threads := #[{ frames := .invoking theMethod args0 :: below }]
def below0 : List Frame := [.native { method := ⟨0, 0⟩, args := #[] }]
def about1 : State := aboutOver below0
def p0 : Program := .bare "" "" ""
def e0 : Env := launch0.env 0 0 0
theorem w_frames : about1.frames = Frame.invoking theMethod args0 :: below0 := rfl
set_option maxRecDepth 65536 in
theorem w_args : argsFit about1.vm theMethod args0 = true := by decide +kernel
set_option maxRecDepth 65536 in
theorem w_heap : heapFits about1 = true := by decide +kernel
set_option maxRecDepth 65536 in
theorem w_runnable : about1.curStatus? = some .runnable := by decide +kernel
set_option maxRecDepth 65536 in
theorem w_alone : about1.alone = true := by decide +kernel
set_option maxRecDepth 65536 in
theorem w_named : about1.methodNamed? x = some theMethod := by decide +kernel
set_option maxRecDepth 65536 in
theorem w_hears : about1.hears theMethod below0 = true := by decide +kernel
set_option maxRecDepth 65536 in
theorem w_ripe : about1.ripe theMethod args0 below0 = true := by decide +kernel
theorem w_running : about1.status = .running := rfl
set_option maxRecDepth 65536 in
theorem w_room : about1.hasRoom e0.platform room_1 = true :=
  launch0.hasRoom_least _ room_1 (by decide +kernel) (by decide +kernel) (by decide +kernel) (by decide +kernel) (by decide +kernel) (by decide +kernel)
theorem allAtoms_all (ts : List Jvm.Cond) (a : Array Jvm.Value) (st : Jvm.State) : (allAtoms ts).before a st = ts.all (fun c => c.before a st) := by
  induction ts with
  | nil => rfl
  | cons c t ih =>
    show (Jvm.Cond.and c (allAtoms t)).before a st = _
    rw [Jvm.Cond.before_and, ih, List.all_cons]
def words1 : List Jvm.Cond := Jvm.Cond.code x code maxLocals ret :: tables_1
/-- a 'code' word, met by the world's own term for the bytes: nothing is compared byte by byte -/
theorem code_word {y : MethodName} {bytes : ByteArray} {mx : Nat} {rt : Option FieldType} {a : Array Value} {s : State} {m : MethodId} {meth : Method} {c : Code} (h1 : s.methodNamed? y = some m) (h2 : s.vm.method? m = some meth) (h3 : meth.code = some c) (h4 : c.code = bytes)
    (h5 : (c.maxLocals == mx && c.exceptionTable.isEmpty && decide (c.maxStack ≤ mostOperands) && decide (meth.sig.returnType = rt) && !meth.locks && decide (parseMethodDescriptor y.desc = some meth.sig)) = true) : (Jvm.Cond.code y bytes mx rt).before a s = true := by
  simp only [Bool.and_eq_true, beq_iff_eq, Bool.not_eq_true', decide_eq_true_eq] at h5
  obtain ⟨⟨⟨⟨⟨g1, g2⟩, g3⟩, g4⟩, g5⟩, g6⟩ := h5
  simp [Cond.before, Cond.holds, Cond.value, h1, h2, h3, h4, g1, g2, g3, g4, g5, g6]
def isCode : Jvm.Cond → Bool
  | .code _ _ _ _ => true
  | _ => false
theorem all_split {L : List Jvm.Cond} {P : Jvm.Cond → Bool} (h1 : L.all (fun c => isCode c || P c) = true) (h2 : ∀ c ∈ L.filter isCode, P c = true) : L.all P = true := by
  refine List.all_eq_true.mpr fun c hc => ?_
  have h := List.all_eq_true.mp h1 c hc
  rcases Bool.eq_false_or_eq_true (isCode c) with hi | hi
  · exact h2 c (List.mem_filter.mpr ⟨hc, hi⟩)
  · simpa [hi] using h
set_option maxRecDepth 65536 in
theorem w_c0 : (Jvm.Cond.code x code maxLocals ret).before args0 about1 = true := code_word (m := ⟨1, 2⟩) (meth := k1m2) (c := k1c2) (by decide +kernel) rfl rfl rfl (by decide +kernel)
set_option maxRecDepth 65536 in
theorem w_c1 : (Jvm.Cond.code ({ cls := "com/example/equipe/equipe/JobResultEqualsPinLaw", name := "mk", desc := "(ICC)Ljava/lang/String;" } : Jvm.MethodName) method_2_code (3 : Nat) (Option.some (Jvm.ClassFile.FieldType.object "java/lang/String"))).before args0 about1 = true := code_word (m := ⟨1, 1⟩) (meth := k1m1) (c := k1c1) (by decide +kernel) rfl rfl rfl (by decide +kernel)
set_option maxRecDepth 65536 in
theorem w_c2 : (Jvm.Cond.code ({ cls := "java/lang/String", name := "<init>", desc := "([C)V" } : Jvm.MethodName) jdk_42_method_3_code (2 : Nat) (Option.none : Option Jvm.ClassFile.FieldType)).before args0 about1 = true := code_word (m := ⟨9, 1⟩) (meth := k9m1) (c := k9c1) (by decide +kernel) rfl rfl rfl (by decide +kernel)
set_option maxRecDepth 65536 in
theorem w_c3 : (Jvm.Cond.code ({ cls := "java/lang/String", name := "<init>", desc := "([CIILjava/lang/Void;)V" } : Jvm.MethodName) jdk_42_method_149_code (6 : Nat) (Option.none : Option Jvm.ClassFile.FieldType)).before args0 about1 = true := code_word (m := ⟨9, 3⟩) (meth := k9m3) (c := k9c3) (by decide +kernel) rfl rfl rfl (by decide +kernel)
set_option maxRecDepth 65536 in
theorem w_c4 : (Jvm.Cond.code ({ cls := "java/lang/Object", name := "<init>", desc := "()V" } : Jvm.MethodName) object_method_1_code (1 : Nat) (Option.none : Option Jvm.ClassFile.FieldType)).before args0 about1 = true := code_word (m := ⟨0, 0⟩) (meth := k0m0) (c := k0c0) (by decide +kernel) rfl rfl rfl (by decide +kernel)
set_option maxRecDepth 65536 in
theorem w_c5 : (Jvm.Cond.code ({ cls := "java/lang/StringUTF16", name := "compress", desc := "([CII)[B" } : Jvm.MethodName) jdk_52_method_16_code (6 : Nat) (Option.some (Jvm.ClassFile.FieldType.array Jvm.ClassFile.FieldType.byte))).before args0 about1 = true := code_word (m := ⟨10, 2⟩) (meth := k10m2) (c := k10c2) (by decide +kernel) rfl rfl rfl (by decide +kernel)
set_option maxRecDepth 65536 in
theorem w_c6 : (Jvm.Cond.code ({ cls := "java/lang/StringUTF16", name := "compress", desc := "([CI[BII)I" } : Jvm.MethodName) jdk_52_method_21_code (7 : Nat) (Option.some Jvm.ClassFile.FieldType.int)).before args0 about1 = true := code_word (m := ⟨10, 3⟩) (meth := k10m3) (c := k10c3) (by decide +kernel) rfl rfl rfl (by decide +kernel)
set_option maxRecDepth 65536 in
theorem w_c7 : (Jvm.Cond.code ({ cls := "java/lang/StringUTF16", name := "coderFromArrayLen", desc := "([BI)B" } : Jvm.MethodName) jdk_52_method_15_code (2 : Nat) (Option.some Jvm.ClassFile.FieldType.byte)).before args0 about1 = true := code_word (m := ⟨10, 1⟩) (meth := k10m1) (c := k10c1) (by decide +kernel) rfl rfl rfl (by decide +kernel)
set_option maxRecDepth 65536 in
theorem w_c8 : (Jvm.Cond.code ({ cls := "com/example/equipe/equipe/JobResult", name := "<init>", desc := "(Lcom/example/equipe/equipe/JobResult$Status;Ljava/lang/String;)V" } : Jvm.MethodName) prog_5_method_1_code (3 : Nat) (Option.none : Option Jvm.ClassFile.FieldType)).before args0 about1 = true := code_word (m := ⟨11, 0⟩) (meth := k11m0) (c := k11c0) (by decide +kernel) rfl rfl rfl (by decide +kernel)
set_option maxRecDepth 65536 in
theorem w_c9 : (Jvm.Cond.code ({ cls := "java/util/Objects", name := "requireNonNull", desc := "(Ljava/lang/Object;Ljava/lang/String;)Ljava/lang/Object;" } : Jvm.MethodName) jdk_31_method_11_code (2 : Nat) (Option.some (Jvm.ClassFile.FieldType.object "java/lang/Object"))).before args0 about1 = true := code_word (m := ⟨12, 1⟩) (meth := k12m1) (c := k12c1) (by decide +kernel) rfl rfl rfl (by decide +kernel)
set_option maxRecDepth 65536 in
theorem w_c10 : (Jvm.Cond.code ({ cls := "com/example/equipe/equipe/JobResult", name := "equals", desc := "(Ljava/lang/Object;)Z" } : Jvm.MethodName) prog_5_method_4_code (3 : Nat) (Option.some Jvm.ClassFile.FieldType.boolean)).before args0 about1 = true := code_word (m := ⟨11, 1⟩) (meth := k11m1) (c := k11c1) (by decide +kernel) rfl rfl rfl (by decide +kernel)
set_option maxRecDepth 65536 in
theorem w_c11 : (Jvm.Cond.code ({ cls := "java/lang/String", name := "equals", desc := "(Ljava/lang/Object;)Z" } : Jvm.MethodName) jdk_42_method_66_code (3 : Nat) (Option.some Jvm.ClassFile.FieldType.boolean)).before args0 about1 = true := code_word (m := ⟨9, 2⟩) (meth := k9m2) (c := k9c2) (by decide +kernel) rfl rfl rfl (by decide +kernel)
set_option maxRecDepth 65536 in
theorem w_c12 : (Jvm.Cond.code ({ cls := "java/lang/StringLatin1", name := "equals", desc := "([B[B)Z" } : Jvm.MethodName) jdk_43_method_13_code (3 : Nat) (Option.some Jvm.ClassFile.FieldType.boolean)).before args0 about1 = true := code_word (m := ⟨13, 1⟩) (meth := k13m1) (c := k13c1) (by decide +kernel) rfl rfl rfl (by decide +kernel)
def codes1 : List Jvm.Cond := [Jvm.Cond.code x code maxLocals ret, Jvm.Cond.code ({ cls := "com/example/equipe/equipe/JobResultEqualsPinLaw", name := "mk", desc := "(ICC)Ljava/lang/String;" } : Jvm.MethodName) method_2_code (3 : Nat) (Option.some (Jvm.ClassFile.FieldType.object "java/lang/String")), Jvm.Cond.code ({ cls := "java/lang/String", name := "<init>", desc := "([C)V" } : Jvm.MethodName) jdk_42_method_3_code (2 : Nat) (Option.none : Option Jvm.ClassFile.FieldType), Jvm.Cond.code ({ cls := "java/lang/String", name := "<init>", desc := "([CIILjava/lang/Void;)V" } : Jvm.MethodName) jdk_42_method_149_code (6 : Nat) (Option.none : Option Jvm.ClassFile.FieldType), Jvm.Cond.code ({ cls := "java/lang/Object", name := "<init>", desc := "()V" } : Jvm.MethodName) object_method_1_code (1 : Nat) (Option.none : Option Jvm.ClassFile.FieldType), Jvm.Cond.code ({ cls := "java/lang/StringUTF16", name := "compress", desc := "([CII)[B" } : Jvm.MethodName) jdk_52_method_16_code (6 : Nat) (Option.some (Jvm.ClassFile.FieldType.array Jvm.ClassFile.FieldType.byte)), Jvm.Cond.code ({ cls := "java/lang/StringUTF16", name := "compress", desc := "([CI[BII)I" } : Jvm.MethodName) jdk_52_method_21_code (7 : Nat) (Option.some Jvm.ClassFile.FieldType.int), Jvm.Cond.code ({ cls := "java/lang/StringUTF16", name := "coderFromArrayLen", desc := "([BI)B" } : Jvm.MethodName) jdk_52_method_15_code (2 : Nat) (Option.some Jvm.ClassFile.FieldType.byte), Jvm.Cond.code ({ cls := "com/example/equipe/equipe/JobResult", name := "<init>", desc := "(Lcom/example/equipe/equipe/JobResult$Status;Ljava/lang/String;)V" } : Jvm.MethodName) prog_5_method_1_code (3 : Nat) (Option.none : Option Jvm.ClassFile.FieldType), Jvm.Cond.code ({ cls := "java/util/Objects", name := "requireNonNull", desc := "(Ljava/lang/Object;Ljava/lang/String;)Ljava/lang/Object;" } : Jvm.MethodName) jdk_31_method_11_code (2 : Nat) (Option.some (Jvm.ClassFile.FieldType.object "java/lang/Object")), Jvm.Cond.code ({ cls := "com/example/equipe/equipe/JobResult", name := "equals", desc := "(Ljava/lang/Object;)Z" } : Jvm.MethodName) prog_5_method_4_code (3 : Nat) (Option.some Jvm.ClassFile.FieldType.boolean), Jvm.Cond.code ({ cls := "java/lang/String", name := "equals", desc := "(Ljava/lang/Object;)Z" } : Jvm.MethodName) jdk_42_method_66_code (3 : Nat) (Option.some Jvm.ClassFile.FieldType.boolean), Jvm.Cond.code ({ cls := "java/lang/StringLatin1", name := "equals", desc := "([B[B)Z" } : Jvm.MethodName) jdk_43_method_13_code (3 : Nat) (Option.some Jvm.ClassFile.FieldType.boolean)]
set_option maxRecDepth 65536 in
theorem codes_eq : words1.filter isCode = codes1 := rfl
theorem w_codes : ∀ c ∈ words1.filter isCode, c.before args0 about1 = true := by
  rw [codes_eq]
  intro c hc
  simp only [codes1, List.mem_cons, List.not_mem_nil, or_false] at hc
  rcases hc with rfl | rfl | rfl | rfl | rfl | rfl | rfl | rfl | rfl | rfl | rfl | rfl | rfl
  · exact w_c0
  · exact w_c1
  · exact w_c2
  · exact w_c3
  · exact w_c4
  · exact w_c5
  · exact w_c6
  · exact w_c7
  · exact w_c8
  · exact w_c9
  · exact w_c10
  · exact w_c11
  · exact w_c12
set_option maxRecDepth 65536 in
theorem w_t1 : (words1.take 24).all (fun c => isCode c || c.before args0 about1) = true := by decide +kernel
set_option maxRecDepth 65536 in
theorem w_t2 : ((words1.drop 24).take 24).all (fun c => isCode c || c.before args0 about1) = true := by decide +kernel
set_option maxRecDepth 65536 in
theorem w_t3 : (((words1.drop 24).drop 24).take 24).all (fun c => isCode c || c.before args0 about1) = true := by decide +kernel
set_option maxRecDepth 65536 in
theorem w_t4 : (((words1.drop 24).drop 24).drop 24).all (fun c => isCode c || c.before args0 about1) = true := by decide +kernel
theorem w_tables : (allAtoms (Jvm.Cond.code x code maxLocals ret :: tables_1)).before args0 about1 = true := by
  rw [allAtoms_all]
  show words1.all (fun c => c.before args0 about1) = true
  refine all_split ?_ w_codes
  rw [← List.take_append_drop 24 words1, List.all_append, w_t1, ← List.take_append_drop 24 (words1.drop 24), List.all_append, w_t2, ← List.take_append_drop 24 ((words1.drop 24).drop 24), List.all_append, w_t3, w_t4]
  rfl
set_option maxRecDepth 65536 in
theorem w_rest : rest_1_c.before args0 about1 = true := by decide +kernel
set_option maxRecDepth 65536 in
theorem w_case : (Jvm.Cond.and given_1 narrow_1).before args0 about1 = true := by decide +kernel
set_option maxRecDepth 65536 in
theorem w_consts : constsHeld consts_1 about1 := Jvm.Lit.constsHeldB_iff.mp (by decide +kernel)
theorem w_applies : (headSpec (Jvm.Cond.code x code maxLocals ret :: tables_1) room_1).applies x e0.platform about1 = true :=
  (Spec.applies_iff w_frames).mpr ⟨w_running, w_runnable, w_alone, w_named, w_hears, w_ripe, w_room, w_tables⟩
theorem atStart : AtStart classFile x code maxLocals ret World_1 tables_1 room_1 Calls_1 rest_1 Pre_1 launch0 p0 e0 about1 theMethod args0 below0 :=
  ⟨lists_1, trivial, launch0.admits_env _ _ _, launch0.least_env, fairChoices_fair.cas, fairChoices_fair.clock, w_frames, w_args, w_heap, w_applies, ⟨w_consts, trivial⟩, w_rest, w_case⟩
end start1
theorem witness_1 : WitnessClaimed_1 := ⟨start1.p0, start1.e0, start1.about1, start1.theMethod, start1.args0, start1.below0, start1.atStart⟩
end Jvm.Pilot.@@N@@
