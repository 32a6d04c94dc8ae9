import JvmDerived
import JvmDerived.Pilot.@@N@@Statement
import JvmDerived.Pilot.@@N@@Code
set_option linter.unusedVariables false
set_option linter.unusedSimpArgs false
namespace Jvm.Pilot.@@N@@
open Jvm Jvm.ClassFile Sem Op Lib Jvm.Free Jvm.Stand Jvm.LawKit Jvm.RoadKit Bundle Jvm.Pilot.@@N@@.Jvm.D
abbrev jv (x : Int64) : Slot := .val (.long x)
theorem ow {Z : State} {a0 : Array Value} (hw : ∀ d ∈ tables_1, d.before a0 Z = true) (i : Nat) {d : Jvm.Cond} (h : tables_1[i]? = some d) : d.before a0 Z = true := hw _ (List.mem_of_getElem? h)
section OwnKit
variable {p : Program} {l : Launch} {e : Env} {R : Room} {s : State} {m : MethodId} {args : Array Value} {below : List Frame} {meth : Method} {c : Code} {T T' : State} {locs : List Loc} {cells slots kc ks : Nat} {Q : Option Value → Heap → List Loc → Prop} {g g' : JFrame}
/-- from this state and frame on the body ends, and Q holds of what it returns, of the heap and of the places written -/
def OwnG (p : Program) (e : Env) (below : List Frame) (s : State) (kc ks : Nat) (Q : Option Value → Heap → List Loc → Prop) (T : State) (g : JFrame) : Prop :=
  ∃ s₂ o, Steps p.tables e below (T.setTop g) s₂ ∧ s₂.status = .running ∧ Ended s₂ below o ∧ ∃ v L, o = .returned v ∧ Q v s₂.heap L ∧ FrameEnd s o s₂ L kc ks
theorem own_by (k : ∀ t, Steps p.tables e below (T'.setTop g') t → Steps p.tables e below (T.setTop g) t) (h : OwnG p e below s kc ks Q T' g') : OwnG p e below s kc ks Q T g := by
  obtain ⟨s₂, o, st, r⟩ := h
  exact ⟨s₂, o, k _ st, r⟩
theorem own_out (X : Stand p l e R s m args below meth c T locs cells slots) (hlk : meth.locks = false) {v : Option Value} (hv : meth.sig.returnType = none → v = none)
    (hst : ∀ fs, (∀ (f : JFrame) (acts : List Action), f.method = m → f.locked = none → f.entered = [] → (doReturn e (T.setTop f) acts v).1 = T.setFrames fs) → Steps p.tables e below (T.setTop g) (T.setFrames fs))
    (hq : Q v T.heap locs) (hc : cells ≤ kc) (hs : slots ≤ ks) : OwnG p e below s kc ks Q T g := by
  obtain ⟨fs, hr, hrun, hended, hW, hsame⟩ := X.leave (v := v) hv hlk
  exact ⟨_, _, hst fs hr, hrun, hended, v, locs, rfl, hq, ⟨_, rfl⟩, hW, hsame.mono hc hs⟩
def OwnGW (p : Program) (e : Env) (below : List Frame) (s : State) (kc ks : Nat) (Q : Option Value → Heap → List Loc → Prop) (T : State) (g : JFrame) : Prop :=
  ∃ s₂ o, Steps p.tables e below (T.setTop g) s₂ ∧ s₂.status = .running ∧ Ended s₂ below o ∧ ∃ v L, o = .returned v ∧ Q v s₂.heap L ∧ ReturnedEndW s o s₂ L kc ks
theorem own_byW (k : ∀ t, Steps p.tables e below (T'.setTop g') t → Steps p.tables e below (T.setTop g) t) (h : OwnGW p e below s kc ks Q T' g') : OwnGW p e below s kc ks Q T g := by
  obtain ⟨s₂, o, st, r⟩ := h
  exact ⟨s₂, o, k _ st, r⟩
theorem own_outW {vm : Vm} {k : Nat} (X : Stand p l e R (s.setVm vm) m args below meth c T locs cells slots) (hS : s.Since vm k) (hk : k ≤ T.heap.size) (hlk : meth.locks = false) {v : Option Value} (hv : meth.sig.returnType = none → v = none)
    (hst : ∀ fs, (∀ (f : JFrame) (acts : List Action), f.method = m → f.locked = none → f.entered = [] → (doReturn e (T.setTop f) acts v).1 = T.setFrames fs) → Steps p.tables e below (T.setTop g) (T.setFrames fs))
    (hq : Q v T.heap locs) (hc : cells ≤ kc) (hs : slots ≤ ks) : OwnGW p e below s kc ks Q T g := by
  obtain ⟨fs, hr, hrun, hended, h1, h2, h3, h4⟩ := X.leaveW hS hk (v := v) hv hlk
  exact ⟨_, _, hst fs hr, hrun, hended, v, locs, rfl, hq, h1, h2, h3, h4.mono hc hs⟩
def OwnGH (p : Program) (e : Env) (below : List Frame) (s Z : State) (EL : List (String × Nat)) (kc ks : Nat) (Q : Option Value → Heap → List Loc → Prop) (T : State) (g : JFrame) : Prop :=
  ∃ s₂ o, Steps p.tables e below (T.setTop g) s₂ ∧ s₂.status = .running ∧ Ended s₂ below o ∧ ∃ v L, o = .returned v ∧ Q v s₂.heap L ∧ CHr Z EL s.vm s.heap s₂.vm s₂.heap ∧ ReturnedEndW s o s₂ L kc ks
theorem own_byH {Z : State} {EL : List (String × Nat)} (k : ∀ t, Steps p.tables e below (T'.setTop g') t → Steps p.tables e below (T.setTop g) t) (h : OwnGH p e below s Z EL kc ks Q T' g') : OwnGH p e below s Z EL kc ks Q T g := by
  obtain ⟨s₂, o, st, r⟩ := h
  exact ⟨s₂, o, k _ st, r⟩
theorem own_outH {Z : State} {a0 : Array Value} {EL : List (String × Nat)} {h0 : Heap} {vm : Vm} {k : Nat} (X : Stand p l e R (s.setVm vm) m args below meth c T locs cells slots) (hh : s.heap = h0) (hEL : EW Z a0 EL) (hS : s.Since vm k) (hk : k ≤ T.heap.size) (HR : CHr Z EL s.vm h0 vm T.heap) (hZ : Z.Warmed39 vm) (hlk : meth.locks = false) {v : Option Value} (hv : meth.sig.returnType = none → v = none)
    (hst : ∀ fs, (∀ (f : JFrame) (acts : List Action), f.method = m → f.locked = none → f.entered = [] → (doReturn e (T.setTop f) acts v).1 = T.setFrames fs) → Steps p.tables e below (T.setTop g) (T.setFrames fs))
    (hq : Q v T.heap locs) (hc : cells ≤ kc) (hs : slots ≤ ks) : OwnGH p e below s Z EL kc ks Q T g := by
  obtain ⟨fs, hr, hrun, hended, h1, h2, h3, h4⟩ := X.leaveW hS hk (v := v) hv hlk
  have C := HR.trans (CHv.at X hZ hEL HR.1)
  exact ⟨_, _, hst fs hr, hrun, hended, v, locs, rfl, hq, (by rw [hh]; exact C), h1, h2, h3, h4.mono hc hs⟩
theorem own_lt (x y : Int64) : lcmpW x y < 0 ↔ x < y := by rw [lcW]; exact lc_lt x y
theorem own_gt (x y : Int64) : 0 < lcmpW x y ↔ y < x := by rw [lcW]; exact lc_gt x y
theorem own_eq (x y : Int64) : lcmpW x y = 0 ↔ x = y := by rw [lcW]; exact lc_eq x y
theorem own_fldI {Z : State} {a : Addr} {t : Jvm.Term} {C n d : String} {k : Int32} (ev : t.eval args Z none [] Z = some (.ref a)) (h : (Jvm.Cond.eq (Jvm.Term.field t C n d) (Jvm.Term.int k)).value args Z none Z [] = some true) : Fld Z Z.heap a C n d (.int k) := by
  obtain ⟨x, y, h1, h2, h3, h4⟩ := cmp_v (Or.inl h)
  cases (Term.int_eval k).symm.trans h2
  obtain ⟨z, rfl⟩ := h4
  rw [fld_at ev] at h1
  have h5 : (Jvm.Cond.eq (Jvm.Term.field t C n d) (Jvm.Term.int k)).value args Z none Z [] = some (decide (z = k)) := by simp [Jvm.Cond.value, fld_at ev, h1, Term.int_eval]
  cases gotT h5 h
  exact Fld.start h1
theorem own_fldJ {Z : State} {a : Addr} {t : Jvm.Term} {C n d : String} {k : Int64} (ev : t.eval args Z none [] Z = some (.ref a)) (h : (Jvm.Cond.eq (Jvm.Term.field t C n d) (Jvm.Term.long k)).value args Z none Z [] = some true) : Fld Z Z.heap a C n d (.long k) := by
  obtain ⟨x, y, h1, h2, h3, h4⟩ := cmp_v (Or.inl h)
  cases (long_at k).symm.trans h2
  obtain ⟨z, rfl⟩ := h4
  have h5 := gotT (eq_L h1 (long_at k)) h
  rw [fld_at ev] at h1
  cases h5
  exact Fld.start h1
theorem own_fldN {Z : State} {a : Addr} {t : Jvm.Term} {C n d : String} (ev : t.eval args Z none [] Z = some (.ref a)) (h : (Jvm.Cond.eq (Jvm.Term.field t C n d) Jvm.Term.null).value args Z none Z [] = some true) : Fld Z Z.heap a C n d .null := by
  have h1 := null_v h
  rw [fld_at ev] at h1
  exact Fld.start h1
theorem own_e0 {P : Prop} [Decidable P] (h : (if P then (1 : Int32) else (0 : Int32)) = 0) : ¬ P := fun q => by rw [if_pos q] at h; exact absurd h (by decide)
theorem own_e1 {P : Prop} [Decidable P] (h : ¬ (if P then (1 : Int32) else (0 : Int32)) = 0) : P := by
  by_cases q : P
  · exact q
  · exact absurd (if_neg q) h
theorem own_n2 {P Q : Prop} [Decidable P] [Decidable Q] {A : Int32} (h : ¬ (P ∧ Q)) : (if P then (if Q then A else (0 : Int32)) else (0 : Int32)) = 0 := by
  by_cases p : P
  · rw [if_pos p, if_neg (fun q => h ⟨p, q⟩)]
  · rw [if_neg p]
theorem own_narR {v : Value} {C : String} (h : v.isRef = true) : narrow (.object C) v = v := by rcases ref_cases h with rfl | ⟨_, rfl⟩ <;> rfl
theorem own_fitR {v : Value} {C : String} (h : v.isRef = true) : fits (.object C) v = true := by rcases ref_cases h with rfl | ⟨_, rfl⟩ <;> rfl
theorem own_len {Z : State} {t : Jvm.Term} {a : Addr} {cl : Cell} {ty : FieldType} {k : Int32} (et : t.eval args Z none [] Z = some (.ref a)) (A : Arr Z Z.heap a cl ty) (h : (Jvm.Term.length t).eval args Z none [] Z = some (.int k)) : cl.slots.size < 2 ^ 31 ∧ cl.slots.size.toInt32 = k := by
  have hA := A.fin (Vm.Alike.refl Z.vm)
  by_cases q : cl.slots.size < 2 ^ 31
  · rw [len_f et hA q] at h; exact ⟨q, by simpa using h⟩
  · simp [Jvm.Term.eval, et, hA] at h; exact absurd h.1 q
theorem own_mvM {Z : State} {a0 : Array Value} {own host : String} {index : Nat} {y : MethodName} (hZ : Z.Warmed39 s.vm) (w : (Jvm.Cond.methodLinkNest own index y host).before a0 Z = true) : (Jvm.Cond.methodLinkNest own index y host).before args s = true := (Cond.methodLinkNest_wide hZ w :)
end OwnKit
theorem d1_0 : decode jdk_42_method_3_code 0 = .ok (.aload_n 0, 1) := by decide +kernel
theorem d1_1 : decode jdk_42_method_3_code 1 = .ok (.aload_n 1, 1) := by decide +kernel
theorem d1_2 : decode jdk_42_method_3_code 2 = .ok (.iconst 0, 1) := by decide +kernel
theorem d1_3 : decode jdk_42_method_3_code 3 = .ok (.aload_n 1, 1) := by decide +kernel
theorem d1_4 : decode jdk_42_method_3_code 4 = .ok (.arraylength, 1) := by decide +kernel
theorem d1_5 : decode jdk_42_method_3_code 5 = .ok (.aconst_null, 1) := by decide +kernel
theorem d1_6 : decode jdk_42_method_3_code 6 = .ok (.invokespecial 27, 3) := by decide +kernel
theorem d1_9 : decode jdk_42_method_3_code 9 = .ok (.return_, 1) := by decide +kernel
theorem d2_0 : decode jdk_42_method_149_code 0 = .ok (.aload_n 0, 1) := by decide +kernel
theorem d2_1 : decode jdk_42_method_149_code 1 = .ok (.invokespecial 1, 3) := by decide +kernel
theorem d2_4 : decode jdk_42_method_149_code 4 = .ok (.iload_n 3, 1) := by decide +kernel
theorem d2_5 : decode jdk_42_method_149_code 5 = .ok (.ifCond .ne 22, 3) := by decide +kernel
theorem d2_27 : decode jdk_42_method_149_code 27 = .ok (.getstatic 38, 3) := by decide +kernel
theorem d2_30 : decode jdk_42_method_149_code 30 = .ok (.ifCond .eq 28, 3) := by decide +kernel
theorem d2_33 : decode jdk_42_method_149_code 33 = .ok (.aload_n 1, 1) := by decide +kernel
theorem d2_34 : decode jdk_42_method_149_code 34 = .ok (.iload_n 2, 1) := by decide +kernel
theorem d2_35 : decode jdk_42_method_149_code 35 = .ok (.iload_n 3, 1) := by decide +kernel
theorem d2_36 : decode jdk_42_method_149_code 36 = .ok (.invokestatic 177, 3) := by decide +kernel
theorem d2_39 : decode jdk_42_method_149_code 39 = .ok (.astore 5, 2) := by decide +kernel
theorem d2_41 : decode jdk_42_method_149_code 41 = .ok (.aload_n 0, 1) := by decide +kernel
theorem d2_42 : decode jdk_42_method_149_code 42 = .ok (.aload 5, 2) := by decide +kernel
theorem d2_44 : decode jdk_42_method_149_code 44 = .ok (.iload_n 3, 1) := by decide +kernel
theorem d2_45 : decode jdk_42_method_149_code 45 = .ok (.invokestatic 47, 3) := by decide +kernel
theorem d2_48 : decode jdk_42_method_149_code 48 = .ok (.putfield 15, 3) := by decide +kernel
theorem d2_51 : decode jdk_42_method_149_code 51 = .ok (.aload_n 0, 1) := by decide +kernel
theorem d2_52 : decode jdk_42_method_149_code 52 = .ok (.aload 5, 2) := by decide +kernel
theorem d2_54 : decode jdk_42_method_149_code 54 = .ok (.putfield 9, 3) := by decide +kernel
theorem d2_57 : decode jdk_42_method_149_code 57 = .ok (.return_, 1) := by decide +kernel
theorem d4_0 : decode jdk_52_method_16_code 0 = .ok (.iload_n 2, 1) := by decide +kernel
theorem d4_1 : decode jdk_52_method_16_code 1 = .ok (.newarray .byte, 2) := by decide +kernel
theorem d4_3 : decode jdk_52_method_16_code 3 = .ok (.astore_n 3, 1) := by decide +kernel
theorem d4_4 : decode jdk_52_method_16_code 4 = .ok (.aload_n 0, 1) := by decide +kernel
theorem d4_5 : decode jdk_52_method_16_code 5 = .ok (.iload_n 1, 1) := by decide +kernel
theorem d4_6 : decode jdk_52_method_16_code 6 = .ok (.aload_n 3, 1) := by decide +kernel
theorem d4_7 : decode jdk_52_method_16_code 7 = .ok (.iconst 0, 1) := by decide +kernel
theorem d4_8 : decode jdk_52_method_16_code 8 = .ok (.iload_n 2, 1) := by decide +kernel
theorem d4_9 : decode jdk_52_method_16_code 9 = .ok (.invokestatic 115, 3) := by decide +kernel
theorem d4_12 : decode jdk_52_method_16_code 12 = .ok (.istore 4, 2) := by decide +kernel
theorem d4_14 : decode jdk_52_method_16_code 14 = .ok (.iload 4, 2) := by decide +kernel
theorem d4_16 : decode jdk_52_method_16_code 16 = .ok (.iload_n 2, 1) := by decide +kernel
theorem d4_17 : decode jdk_52_method_16_code 17 = .ok (.if_icmp .eq 40, 3) := by decide +kernel
theorem d4_57 : decode jdk_52_method_16_code 57 = .ok (.aload_n 3, 1) := by decide +kernel
theorem d4_58 : decode jdk_52_method_16_code 58 = .ok (.areturn, 1) := by decide +kernel
theorem d5_0 : decode jdk_52_method_21_code 0 = .ok (.iconst 0, 1) := by decide +kernel
theorem d5_1 : decode jdk_52_method_21_code 1 = .ok (.istore 5, 2) := by decide +kernel
theorem d5_3 : decode jdk_52_method_21_code 3 = .ok (.iload 5, 2) := by decide +kernel
theorem d5_5 : decode jdk_52_method_21_code 5 = .ok (.iload 4, 2) := by decide +kernel
theorem d5_7 : decode jdk_52_method_21_code 7 = .ok (.if_icmp .ge 37, 3) := by decide +kernel
theorem d5_10 : decode jdk_52_method_21_code 10 = .ok (.aload_n 0, 1) := by decide +kernel
theorem d5_11 : decode jdk_52_method_21_code 11 = .ok (.iload_n 1, 1) := by decide +kernel
theorem d5_12 : decode jdk_52_method_21_code 12 = .ok (.caload, 1) := by decide +kernel
theorem d5_13 : decode jdk_52_method_21_code 13 = .ok (.istore 6, 2) := by decide +kernel
theorem d5_15 : decode jdk_52_method_21_code 15 = .ok (.iload 6, 2) := by decide +kernel
theorem d5_17 : decode jdk_52_method_21_code 17 = .ok (.sipush 255, 3) := by decide +kernel
theorem d5_20 : decode jdk_52_method_21_code 20 = .ok (.if_icmp .le 6, 3) := by decide +kernel
theorem d5_26 : decode jdk_52_method_21_code 26 = .ok (.aload_n 2, 1) := by decide +kernel
theorem d5_27 : decode jdk_52_method_21_code 27 = .ok (.iload_n 3, 1) := by decide +kernel
theorem d5_28 : decode jdk_52_method_21_code 28 = .ok (.iload 6, 2) := by decide +kernel
theorem d5_30 : decode jdk_52_method_21_code 30 = .ok (.i2b, 1) := by decide +kernel
theorem d5_31 : decode jdk_52_method_21_code 31 = .ok (.bastore, 1) := by decide +kernel
theorem d5_32 : decode jdk_52_method_21_code 32 = .ok (.iinc 1 1, 3) := by decide +kernel
theorem d5_35 : decode jdk_52_method_21_code 35 = .ok (.iinc 3 1, 3) := by decide +kernel
theorem d5_38 : decode jdk_52_method_21_code 38 = .ok (.iinc 5 1, 3) := by decide +kernel
theorem d5_41 : decode jdk_52_method_21_code 41 = .ok (.goto (-38), 3) := by decide +kernel
theorem d5_44 : decode jdk_52_method_21_code 44 = .ok (.iload 4, 2) := by decide +kernel
theorem d5_46 : decode jdk_52_method_21_code 46 = .ok (.ireturn, 1) := by decide +kernel
theorem d6_0 : decode jdk_52_method_15_code 0 = .ok (.iload_n 1, 1) := by decide +kernel
theorem d6_1 : decode jdk_52_method_15_code 1 = .ok (.aload_n 0, 1) := by decide +kernel
theorem d6_2 : decode jdk_52_method_15_code 2 = .ok (.arraylength, 1) := by decide +kernel
theorem d6_3 : decode jdk_52_method_15_code 3 = .ok (.isub, 1) := by decide +kernel
theorem d6_4 : decode jdk_52_method_15_code 4 = .ok (.bipush 31, 2) := by decide +kernel
theorem d6_6 : decode jdk_52_method_15_code 6 = .ok (.iushr, 1) := by decide +kernel
theorem d6_7 : decode jdk_52_method_15_code 7 = .ok (.i2b, 1) := by decide +kernel
theorem d6_8 : decode jdk_52_method_15_code 8 = .ok (.ireturn, 1) := by decide +kernel
theorem d7_0 : decode prog_1_method_2_code 0 = .ok (.aload_n 0, 1) := by decide +kernel
theorem d7_1 : decode prog_1_method_2_code 1 = .ok (.invokespecial 7, 3) := by decide +kernel
theorem d7_4 : decode prog_1_method_2_code 4 = .ok (.aload_n 0, 1) := by decide +kernel
theorem d7_5 : decode prog_1_method_2_code 5 = .ok (.lload_n 1, 1) := by decide +kernel
theorem d7_6 : decode prog_1_method_2_code 6 = .ok (.putfield 12, 3) := by decide +kernel
theorem d7_9 : decode prog_1_method_2_code 9 = .ok (.aload_n 0, 1) := by decide +kernel
theorem d7_10 : decode prog_1_method_2_code 10 = .ok (.lload_n 3, 1) := by decide +kernel
theorem d7_11 : decode prog_1_method_2_code 11 = .ok (.putfield 16, 3) := by decide +kernel
theorem d7_14 : decode prog_1_method_2_code 14 = .ok (.aload_n 0, 1) := by decide +kernel
theorem d7_15 : decode prog_1_method_2_code 15 = .ok (.aload 5, 2) := by decide +kernel
theorem d7_17 : decode prog_1_method_2_code 17 = .ok (.ldc 19, 2) := by decide +kernel
theorem d7_19 : decode prog_1_method_2_code 19 = .ok (.invokestatic 21, 3) := by decide +kernel
theorem d7_22 : decode prog_1_method_2_code 22 = .ok (.checkcast 27, 3) := by decide +kernel
theorem d7_25 : decode prog_1_method_2_code 25 = .ok (.putfield 29, 3) := by decide +kernel
theorem d7_28 : decode prog_1_method_2_code 28 = .ok (.aload_n 0, 1) := by decide +kernel
theorem d7_29 : decode prog_1_method_2_code 29 = .ok (.aload 6, 2) := by decide +kernel
theorem d7_31 : decode prog_1_method_2_code 31 = .ok (.invokevirtual 32, 3) := by decide +kernel
theorem d7_34 : decode prog_1_method_2_code 34 = .ok (.checkcast 33, 3) := by decide +kernel
theorem d7_37 : decode prog_1_method_2_code 37 = .ok (.putfield 38, 3) := by decide +kernel
theorem d7_40 : decode prog_1_method_2_code 40 = .ok (.return_, 1) := by decide +kernel
theorem d8_0 : decode jdk_31_method_11_code 0 = .ok (.aload_n 0, 1) := by decide +kernel
theorem d8_1 : decode jdk_31_method_11_code 1 = .ok (.ifnonnull 12, 3) := by decide +kernel
theorem d8_13 : decode jdk_31_method_11_code 13 = .ok (.aload_n 0, 1) := by decide +kernel
theorem d8_14 : decode jdk_31_method_11_code 14 = .ok (.areturn, 1) := by decide +kernel
theorem d9_0 : decode prog_1_method_7_code 0 = .ok (.aload_n 0, 1) := by decide +kernel
theorem d9_1 : decode prog_1_method_7_code 1 = .ok (.getfield 38, 3) := by decide +kernel
theorem d9_4 : decode prog_1_method_7_code 4 = .ok (.arraylength, 1) := by decide +kernel
theorem d9_5 : decode prog_1_method_7_code 5 = .ok (.iconst 1, 1) := by decide +kernel
theorem d9_6 : decode prog_1_method_7_code 6 = .ok (.if_icmp .eq 35, 3) := by decide +kernel
theorem d9_41 : decode prog_1_method_7_code 41 = .ok (.aload_n 0, 1) := by decide +kernel
theorem d9_42 : decode prog_1_method_7_code 42 = .ok (.getfield 38, 3) := by decide +kernel
theorem d9_45 : decode prog_1_method_7_code 45 = .ok (.iconst 0, 1) := by decide +kernel
theorem d9_46 : decode prog_1_method_7_code 46 = .ok (.laload, 1) := by decide +kernel
theorem d9_47 : decode prog_1_method_7_code 47 = .ok (.lreturn, 1) := by decide +kernel
theorem d10_0 : decode prog_1_method_6_code 0 = .ok (.aload_n 0, 1) := by decide +kernel
theorem d10_1 : decode prog_1_method_6_code 1 = .ok (.getfield 38, 3) := by decide +kernel
theorem d10_4 : decode prog_1_method_6_code 4 = .ok (.invokevirtual 32, 3) := by decide +kernel
theorem d10_7 : decode prog_1_method_6_code 7 = .ok (.checkcast 33, 3) := by decide +kernel
theorem d10_10 : decode prog_1_method_6_code 10 = .ok (.areturn, 1) := by decide +kernel
theorem pn_0 : plainName "java/lang/StringUTF16" = true := by first | (simp [plainName, overriddenIn]; done) | decide +kernel
theorem pn_1 : plainName "java/lang/String" = true := by first | (simp [plainName, overriddenIn]; done) | decide +kernel
theorem pn_2 : plainName "java/util/Objects" = true := by first | (simp [plainName, overriddenIn]; done) | decide +kernel
theorem pn_3 : plainName "com/example/rhadamanthus/rhadamanthus/board/Entry" = true := by first | (simp [plainName, overriddenIn]; done) | decide +kernel
theorem pn_4 : plainName "com/example/rhadamanthus/rhadamanthus/board/EntryGetPointsPinLaw" = true := by first | (simp [plainName, overriddenIn]; done) | decide +kernel
theorem pd_0 : parseMethodDescriptor "([CI[BII)I" = some ⟨[(.array .char), .int, (.array .byte), .int, .int], some .int⟩ := by decide +kernel
theorem pd_1 : parseMethodDescriptor "([CII)[B" = some ⟨[(.array .char), .int, .int], some (.array .byte)⟩ := by decide +kernel
theorem pd_2 : parseMethodDescriptor "([BI)B" = some ⟨[(.array .byte), .int], some .byte⟩ := by decide +kernel
theorem pd_3 : parseMethodDescriptor "([CIILjava/lang/Void;)V" = some ⟨[(.array .char), .int, .int, (.object "java/lang/Void")], none⟩ := by decide +kernel
theorem pd_4 : parseMethodDescriptor "(Ljava/lang/Object;Ljava/lang/String;)Ljava/lang/Object;" = some ⟨[(.object "java/lang/Object"), (.object "java/lang/String")], some (.object "java/lang/Object")⟩ := by decide +kernel
theorem pd_5 : parseMethodDescriptor "([C)V" = some ⟨[(.array .char)], none⟩ := by decide +kernel
theorem pd_6 : parseMethodDescriptor "(JJLjava/lang/String;[J)V" = some ⟨[.long, .long, (.object "java/lang/String"), (.array .long)], none⟩ := by decide +kernel
theorem pd_7 : parseMethodDescriptor "()J" = some ⟨[], some .long⟩ := by decide +kernel
theorem pd_8 : parseMethodDescriptor "()[J" = some ⟨[], some (.array .long)⟩ := by decide +kernel
theorem ef_rmC2_2 (m : MethodId) (x0 : Addr) (x1 : Int32) (x2 : Addr) (x3 : Int32) (x4 : Int32) : entryFrame m #[(.ref x0), (.int x1), (.ref x2), (.int x3), (.int x4)] 7 = mkF m 0 #[.val (.ref x0), .val (.int x1), .val (.ref x2), .val (.int x3), .val (.int x4), .unset, .unset] [] := by first | (simp [entryFrame, mkF, argsToLocals, Value.category]; done) | rfl
theorem ef_rmC1_2 (m : MethodId) (x0 : Addr) (x1 : Int32) (x2 : Int32) : entryFrame m #[(.ref x0), (.int x1), (.int x2)] 6 = mkF m 0 #[.val (.ref x0), .val (.int x1), .val (.int x2), .unset, .unset, .unset] [] := by first | (simp [entryFrame, mkF, argsToLocals, Value.category]; done) | rfl
theorem ef_rmCo_2 (m : MethodId) (x0 : Addr) (x1 : Int32) : entryFrame m #[(.ref x0), (.int x1)] 2 = mkF m 0 #[.val (.ref x0), .val (.int x1)] [] := by first | (simp [entryFrame, mkF, argsToLocals, Value.category]; done) | rfl
theorem ef_rmS4_2 (m : MethodId) (x0 : Addr) (x1 : Addr) (x2 : Int32) (x3 : Int32) : entryFrame m #[(.ref x0), (.ref x1), (.int x2), (.int x3), .null] 6 = mkF m 0 #[.val (.ref x0), .val (.ref x1), .val (.int x2), .val (.int x3), .val .null, .unset] [] := by first | (simp [entryFrame, mkF, argsToLocals, Value.category]; done) | rfl
theorem ef_rmS1_2 (m : MethodId) (x0 : Addr) (x1 : Addr) : entryFrame m #[(.ref x0), (.ref x1)] 2 = mkF m 0 #[.val (.ref x0), .val (.ref x1)] [] := by first | (simp [entryFrame, mkF, argsToLocals, Value.category]; done) | rfl
theorem ef_rm8 (m : MethodId) (x0 : Addr) (x1 : Addr) : entryFrame m #[(.ref x0), (.ref x1)] 2 = mkF m 0 #[.val (.ref x0), .val (.ref x1)] [] := by first | (simp [entryFrame, mkF, argsToLocals, Value.category]; done) | rfl
theorem ef_rm7 (m : MethodId) (x0 : Addr) (x1 : Int64) (x2 : Int64) (x3 : Addr) (x4 : Addr) : entryFrame m #[(.ref x0), (.long x1), (.long x2), (.ref x3), (.ref x4)] 7 = mkF m 0 #[.val (.ref x0), .val (.long x1), .second, .val (.long x2), .second, .val (.ref x3), .val (.ref x4)] [] := by first | (simp [entryFrame, mkF, argsToLocals, Value.category]; done) | rfl
theorem ef_rm9 (m : MethodId) (x0 : Addr) : entryFrame m #[(.ref x0)] 1 = mkF m 0 #[.val (.ref x0)] [] := by first | (simp [entryFrame, mkF, argsToLocals, Value.category]; done) | rfl
theorem ef_rm10 (m : MethodId) (x0 : Addr) : entryFrame m #[(.ref x0)] 1 = mkF m 0 #[.val (.ref x0)] [] := by first | (simp [entryFrame, mkF, argsToLocals, Value.category]; done) | rfl
theorem ef_rm0 (m : MethodId) (x0 : Int64) (x1 : Int64) (x2 : Int64) (x3 : Int64) (x4 : Int32) : entryFrame m #[(.long x0), (.long x1), (.long x2), (.long x3), (.int x4)] maxLocals = mkF m 0 #[.val (.long x0), .second, .val (.long x1), .second, .val (.long x2), .second, .val (.long x3), .second, .val (.int x4), .unset, .unset, .unset, .unset, .unset, .unset, .unset, .unset] [] := by first | (simp [entryFrame, mkF, argsToLocals, Value.category, maxLocals]; done) | rfl
theorem own_wS {Z : State} {a0 : Array Value} (hw : ∀ d ∈ tables_1, d.before a0 Z = true) : ∀ a ∈ Bundle.stringAtoms, a.before a0 Z = true := by
  intro a ha
  simp only [Bundle.stringAtoms, List.mem_cons, List.not_mem_nil, or_false] at ha
  rcases ha with rfl | rfl | rfl | rfl | rfl | rfl | rfl
  · exact (ow hw 7 rfl)
  · exact (ow hw 6 rfl)
  · exact (ow hw 23 rfl)
  · exact (ow hw 33 rfl)
  · exact (ow hw 31 rfl)
  · exact (ow hw 43 rfl)
  · exact (ow hw 44 rfl)
theorem own_i2c (x : Int32) (h0 : 0 ≤ x.toInt) (h1 : x.toInt ≤ 65535) : x.toUInt32.toUInt16.toUInt32.toInt32 = x := by
  have h := c_i2c x
  exact Int32.toInt_inj.mp (by omega)
theorem own_narc (x : Int32) : nar .char x = x.toUInt32.toUInt16.toUInt32.toInt32 := rfl
theorem own_c8 (x : Int32) : ((x &&& (255 : Int32)).toUInt32.toUInt16.toUInt32.toInt32) = (x &&& (255 : Int32)) := by
  have h := c_and x (255 : Int32) (by decide)
  have h2 : (255 : Int32).toInt = 255 := rfl
  exact own_i2c _ h.1 (by omega)
theorem own_n8 (x : Int32) : nar .char (x &&& (255 : Int32)) = (x &&& (255 : Int32)) := own_c8 x
theorem own_nc {x : Int32} (h0 : ¬ (x < (0 : Int32))) (h1 : ¬ ((255 : Int32) < x)) : nar .char x = x := by
  have a0 : (0 : Int32).toInt = 0 := rfl
  have a1 : (255 : Int32).toInt = 255 := rfl
  rw [Int32.lt_iff_toInt_lt] at h0 h1
  exact own_i2c x (by omega) (by omega)
theorem own_ic {x : Int32} (h0 : ¬ (x < (0 : Int32))) (h1 : ¬ ((255 : Int32) < x)) : x.toUInt32.toUInt16.toUInt32.toInt32 = x := own_nc h0 h1
theorem own_ch8 (x : Int32) : nar .char (((x &&& (255 : Int32)).toUInt32.toUInt16.toUInt32.toInt32)) = (x &&& (255 : Int32)) := by
  have h := c_and x (255 : Int32) (by decide)
  have h2 : (255 : Int32).toInt = 255 := rfl
  rw [own_narc, own_i2c _ h.1 (by omega), own_i2c _ h.1 (by omega)]
theorem own_le255 (x : Int32) : ¬ ((255 : Int32) < (x &&& (255 : Int32))) := by
  have h := c_and x (255 : Int32) (by decide)
  rw [Int32.lt_iff_toInt_lt]; omega
theorem own_ge0 (x : Int32) : ¬ ((x &&& (255 : Int32)) < (0 : Int32)) := by
  have h := c_and x (255 : Int32) (by decide)
  have h2 : (0 : Int32).toInt = 0 := rfl
  rw [Int32.lt_iff_toInt_lt]; omega
theorem own_ob {c d : Int32} (c0 : ¬ (c < (0 : Int32))) (c1 : ¬ ((255 : Int32) < c)) (d0 : ¬ (d < (0 : Int32))) (d1 : ¬ ((255 : Int32) < d)) (h : nar .byte (c.toInt8.toInt32) = nar .byte (d.toInt8.toInt32)) : c = d := by
  have a0 : (0 : Int32).toInt = 0 := rfl
  have a1 : (255 : Int32).toInt = 255 := rfl
  rw [Int32.lt_iff_toInt_lt] at c0 c1 d0 d1
  have e : ∀ x : Int32, (nar .byte (x.toInt8.toInt32)).toInt = x.toInt.bmod 256 := fun x => by
    show (x.toInt8.toInt32.toInt8.toInt32).toInt = _
    rw [Int8.toInt_toInt32, Int32.toInt_toInt8, Int8.toInt_toInt32, Int32.toInt_toInt8]
    simp
  have q : (nar .byte (c.toInt8.toInt32)).toInt = (nar .byte (d.toInt8.toInt32)).toInt := by rw [h]
  rw [e, e] at q
  simp only [Int.bmod] at q
  apply Int32.toInt_inj.mp
  split at q <;> split at q <;> omega
def Q_rmC2_2 (Z : State) (a1 a2 : Addr) (k1 k2 : ClassId) (c0 c1 : Int32) (h0 : Heap) (n0 : Nat) : Option Value → Heap → List Loc → Prop := fun v h L => v = some (.int (2 : Int32)) ∧ Fr n0 L ∧ Keep h0 h [a2] ∧ Arv Z h a2 k2 .byte (2 : Int32) [(.int (nar .byte (c0.toInt8.toInt32))), (.int (nar .byte (c1.toInt8.toInt32)))] (.int (0 : Int32))
set_option maxRecDepth 65536 in
set_option maxHeartbeats 40000000 in
theorem rmC2_2 (l : Launch) (Z : State) (a0 : Array Value) (hw : ∀ d ∈ tables_1, d.before a0 Z = true) (ws : List Jvm.Cond) (a1 a2 : Addr) (k1 k2 : ClassId) (c0 c1 : Int32) (h0 : Heap) (n0 : Nat) (O : Old Z n0 h0) (V_a1 : Arv Z h0 a1 k1 .char (2 : Int32) [(.int c0), (.int c1)] (.int (0 : Int32))) (V_a2 : Arv Z h0 a2 k2 .byte (2 : Int32) [(.int (0 : Int32)), (.int (0 : Int32))] (.int (0 : Int32))) (g_a2 : n0 ≤ a2) (ne_a1_a2 : a1 ≠ a2) (hb0 : ¬ ((255 : Int32) < c0)) (hb1 : ¬ ((255 : Int32) < c1)) :
    MetFree l (⟨"java/lang/StringUTF16", "compress", "([CI[BII)I"⟩ : MethodName) (head1 (Jvm.Cond.code (⟨"java/lang/StringUTF16", "compress", "([CI[BII)I"⟩ : MethodName) jdk_52_method_21_code 7 (some .int) :: ws) ({ frames := 0, cells := 0, slots := 0, locals := 0 } : Room)) (fun a U => a = #[(.ref a1), (.int (0 : Int32)), (.ref a2), (.int (0 : Int32)), (.int (2 : Int32))] ∧ Z.Warmed39 U.vm ∧ U.heap = h0) (fun _ _ _ _ _ => True) (fun _ U o U' => ∃ v L, o = .returned v ∧ (Q_rmC2_2 Z a1 a2 k1 k2 c0 c1 h0 n0) v U'.heap L ∧ FrameEnd U o U' L ({ frames := 0, cells := 0, slots := 0, locals := 0 } : Room).cells ({ frames := 0, cells := 0, slots := 0, locals := 0 } : Room).slots) := by
  refine MetFree.of_bodySF (plainFor_of_name pn_0) hisR ?_
  intro p e s m args below meth c s₁ Bd hml0 hP hK
  obtain ⟨rfl, hZ, hh⟩ := hP
  have hx := Bd.exec
  have hby := Bd.bytes
  have hml : c.maxLocals = 7 := hml0
  have hown : s.vm.findClass "java/lang/StringUTF16" = some m.cls := findClass_of_methodNamed Bd.named
  have hnm := (name_of_methodNamed Bd.named Bd.method).1
  have hlk := BodyLoose.notSynchronized Bd
  have X0 : Stand p l e ({ frames := 0, cells := 0, slots := 0, locals := 0 } : Room) s m #[(.ref a1), (.int (0 : Int32)), (.ref a2), (.int (0 : Int32)), (.int (2 : Int32))] below meth c s₁ [] 0 0 := Stand.of_body Bd
  have e0 : s₁.heap = h0 := by rw [← hh, Bd.state]; rfl
  have N := Fr.nil n0
  have K := Keep.refl h0 [a2]
  obtain ⟨G, hG⟩ : ∃ G : State → JFrame → Prop, G = OwnG p e below s ({ frames := 0, cells := 0, slots := 0, locals := 0 } : Room).cells ({ frames := 0, cells := 0, slots := 0, locals := 0 } : Room).slots (Q_rmC2_2 Z a1 a2 k1 k2 c0 c1 h0 n0) := ⟨_, rfl⟩
  have gb : ∀ {T T' : State} {g g' : JFrame}, (∀ t, Steps p.tables e below (T'.setTop g') t → Steps p.tables e below (T.setTop g) t) → G T' g' → G T g := by subst hG; exact fun k h => own_by k h
  have go : ∀ {T : State} {locs : List Loc} {cells slots : Nat} {g : JFrame} {v : Option Value}, Stand p l e ({ frames := 0, cells := 0, slots := 0, locals := 0 } : Room) s m #[(.ref a1), (.int (0 : Int32)), (.ref a2), (.int (0 : Int32)), (.int (2 : Int32))] below meth c T locs cells slots → (meth.sig.returnType = none → v = none) → (∀ fs, (∀ (f : JFrame) (acts : List Action), f.method = m → f.locked = none → f.entered = [] → (doReturn e (T.setTop f) acts v).1 = T.setFrames fs) → Steps p.tables e below (T.setTop g) (T.setFrames fs)) → (Q_rmC2_2 Z a1 a2 k1 k2 c0 c1 h0 n0) v T.heap locs → cells ≤ ({ frames := 0, cells := 0, slots := 0, locals := 0 } : Room).cells → slots ≤ ({ frames := 0, cells := 0, slots := 0, locals := 0 } : Room).slots → G T g := by subst hG; exact fun X h1 h2 h3 h4 h5 => own_out X hlk h1 h2 h3 h4 h5
  show OwnG p e below s ({ frames := 0, cells := 0, slots := 0, locals := 0 } : Room).cells ({ frames := 0, cells := 0, slots := 0, locals := 0 } : Room).slots (Q_rmC2_2 Z a1 a2 k1 k2 c0 c1 h0 n0) s₁ (entryFrame m #[(.ref a1), (.int (0 : Int32)), (.ref a2), (.int (0 : Int32)), (.int (2 : Int32))] 7)
  rw [← hG, ef_rmC2_2 m a1 (0 : Int32) a2 (0 : Int32) (2 : Int32)]
  clear hG
  show G s₁ (mkF m 0 #[.val (.ref a1), .val (.int (0 : Int32)), .val (.ref a2), .val (.int (0 : Int32)), .val (.int (2 : Int32)), .unset, .unset] [])
  refine gb (fun _ k => XS.iconst X0.here hx rfl (hb hby d5_0) (XS.istore X0.here hx rfl (hb hby d5_1) rfl (l' := #[rv a1, iv 0, rv a2, iv 0, iv 2, iv 0, .unset]) rfl (XS.iload X0.here hx rfl (hb hby d5_3) rfl (XS.iload X0.here hx rfl (hb hby d5_5) rfl (XS.icmpNo X0.here hx rfl (hb hby d5_7) rfl (tlt (by decide : (0 : Int32) < (2 : Int32))).2.1 (XS.aloadN X0.here hx rfl (hb hby d5_10) rfl rfl k)))))) ?_
  show G s₁ (mkF m 11 #[rv a1, iv 0, rv a2, iv 0, iv 2, iv 0, .unset] [.ref a1])
  refine gb (fun _ k => XS.iloadN X0.here hx rfl (hb hby d5_11) rfl k) ?_
  show G s₁ (mkF m 12 #[rv a1, iv 0, rv a2, iv 0, iv 2, iv 0, .unset] [.int 0, .ref a1])
  have V'1 := V_a1
  obtain ⟨cl1, Ar1, qk1, sz1, nn1, hs1, ft1⟩ := V'1
  have hin1 : ¬ ((0 : Int32) < 0 ∨ cl1.slots.size ≤ ((0 : Int32)).toNatClampNeg) := inb_of sz1 ⟨by decide, by decide⟩
  have hat1 : cl1.slots[((0 : Int32)).toNatClampNeg]? = some (.int c0) := hs1.at hin1 rfl
  refine gb (X0.caload hx (j := (0 : Int32)) (v := (.int c0)) (by rw [e0]; exact Ar1.1) (State.isArrayOf_alike hZ.alike Ar1.2.1) Ar1.2.2 hin1 hat1 (g := (mkF m 12 #[rv a1, iv 0, rv a2, iv 0, iv 2, iv 0, .unset] [.int 0, .ref a1])) rfl rfl (hb hby d5_12)) ?_
  show G s₁ (mkF m 13 #[rv a1, iv 0, rv a2, iv 0, iv 2, iv 0, .unset] [.int c0])
  refine gb (fun _ k => XS.istore X0.here hx rfl (hb hby d5_13) rfl (l' := #[rv a1, iv 0, rv a2, iv 0, iv 2, iv 0, iv c0]) rfl (XS.iload X0.here hx rfl (hb hby d5_15) rfl (XS.sipush X0.here hx rfl (hb hby d5_17) (XS.icmpYes X0.here hx rfl (pc0 := 20) (pc' := 26) rfl (hb hby d5_20) rfl (flt hb0).2.2.2 (by decide) (by decide) (XS.aloadN X0.here hx rfl (hb hby d5_26) rfl rfl (XS.iloadN X0.here hx rfl (hb hby d5_27) rfl k)))))) ?_
  show G s₁ (mkF m 28 #[rv a1, iv 0, rv a2, iv 0, iv 2, iv 0, iv c0] [.int 0, .ref a2])
  refine gb (fun _ k => XS.iload X0.here hx rfl (hb hby d5_28) rfl (XS.i2b X0.here hx rfl (hb hby d5_30) rfl k)) ?_
  show G s₁ (mkF m 31 #[rv a1, iv 0, rv a2, iv 0, iv 2, iv 0, iv c0] [.int (c0.toInt8.toInt32), .int 0, .ref a2])
  have V'2 := V_a2
  obtain ⟨cl2, Ar2, qk2, sz2, nn2, hs2, ft2⟩ := V'2
  have hin2 : ¬ ((0 : Int32) < 0 ∨ cl2.slots.size ≤ ((0 : Int32)).toNatClampNeg) := inb_of sz2 ⟨by decide, by decide⟩
  obtain ⟨T3, h3, X3, e3, W3, st3⟩ := stB X0 hx hZ e0 Ar2 (j := (0 : Int32)) hin2 (g := (mkF m 31 #[rv a1, iv 0, rv a2, iv 0, iv 2, iv 0, iv c0] [.int (c0.toInt8.toInt32), .int 0, .ref a2])) rfl rfl (hb hby d5_31)
  have V_a2 : Arv Z h3 a2 k2 .byte (2 : Int32) [(.int (nar .byte (c0.toInt8.toInt32))), (.int (0 : Int32))] (.int (0 : Int32)) := Arv.set Ar2 qk2 sz2 nn2 hs2 ft2 (fits_nar_byte _) W3 0 rfl (Nat.le_of_ble_eq_true rfl)
  have V_a1 := V_a1.other W3 ne_a1_a2
  have O := O.wr W3 g_a2
  have K := K.wr W3 (Or.inl (List.mem_of_getElem? (i := 0) rfl))
  have N := Fr.snoc X3 N g_a2
  refine gb st3 ?_
  show G T3 (mkF m 32 #[rv a1, iv 0, rv a2, iv 0, iv 2, iv 0, iv c0] [])
  refine gb (fun _ k => XS.iinc X3.here hx rfl (hb hby d5_32) rfl (l' := #[rv a1, iv 1, rv a2, iv 0, iv 2, iv 0, iv c0]) rfl (XS.iinc X3.here hx rfl (hb hby d5_35) rfl (l' := #[rv a1, iv 1, rv a2, iv 1, iv 2, iv 0, iv c0]) rfl (XS.iinc X3.here hx rfl (hb hby d5_38) rfl (l' := #[rv a1, iv 1, rv a2, iv 1, iv 2, iv 1, iv c0]) rfl (XS.goto X3.here hx rfl (pc0 := 41) (pc' := 3) rfl (hb hby d5_41) (by decide) (by decide) (XS.iload X3.here hx rfl (hb hby d5_3) rfl (XS.iload X3.here hx rfl (hb hby d5_5) rfl k)))))) ?_
  show G T3 (mkF m 7 #[rv a1, iv 1, rv a2, iv 1, iv 2, iv 1, iv c0] [.int 2, .int 1])
  refine gb (fun _ k => XS.icmpNo X3.here hx rfl (hb hby d5_7) rfl (tlt (by decide : (1 : Int32) < (2 : Int32))).2.1 (XS.aloadN X3.here hx rfl (hb hby d5_10) rfl rfl (XS.iloadN X3.here hx rfl (hb hby d5_11) rfl k))) ?_
  show G T3 (mkF m 12 #[rv a1, iv 1, rv a2, iv 1, iv 2, iv 1, iv c0] [.int 1, .ref a1])
  have V'4 := V_a1
  obtain ⟨cl4, Ar4, qk4, sz4, nn4, hs4, ft4⟩ := V'4
  have hin4 : ¬ ((1 : Int32) < 0 ∨ cl4.slots.size ≤ ((1 : Int32)).toNatClampNeg) := inb_of sz4 ⟨by decide, by decide⟩
  have hat4 : cl4.slots[((1 : Int32)).toNatClampNeg]? = some (.int c1) := hs4.at hin4 rfl
  refine gb (X3.caload hx (j := (1 : Int32)) (v := (.int c1)) (by rw [e3]; exact Ar4.1) (State.isArrayOf_alike hZ.alike Ar4.2.1) Ar4.2.2 hin4 hat4 (g := (mkF m 12 #[rv a1, iv 1, rv a2, iv 1, iv 2, iv 1, iv c0] [.int 1, .ref a1])) rfl rfl (hb hby d5_12)) ?_
  show G T3 (mkF m 13 #[rv a1, iv 1, rv a2, iv 1, iv 2, iv 1, iv c0] [.int c1])
  refine gb (fun _ k => XS.istore X3.here hx rfl (hb hby d5_13) rfl (l' := #[rv a1, iv 1, rv a2, iv 1, iv 2, iv 1, iv c1]) rfl (XS.iload X3.here hx rfl (hb hby d5_15) rfl (XS.sipush X3.here hx rfl (hb hby d5_17) (XS.icmpYes X3.here hx rfl (pc0 := 20) (pc' := 26) rfl (hb hby d5_20) rfl (flt hb1).2.2.2 (by decide) (by decide) (XS.aloadN X3.here hx rfl (hb hby d5_26) rfl rfl (XS.iloadN X3.here hx rfl (hb hby d5_27) rfl k)))))) ?_
  show G T3 (mkF m 28 #[rv a1, iv 1, rv a2, iv 1, iv 2, iv 1, iv c1] [.int 1, .ref a2])
  refine gb (fun _ k => XS.iload X3.here hx rfl (hb hby d5_28) rfl (XS.i2b X3.here hx rfl (hb hby d5_30) rfl k)) ?_
  show G T3 (mkF m 31 #[rv a1, iv 1, rv a2, iv 1, iv 2, iv 1, iv c1] [.int (c1.toInt8.toInt32), .int 1, .ref a2])
  have V'5 := V_a2
  obtain ⟨cl5, Ar5, qk5, sz5, nn5, hs5, ft5⟩ := V'5
  have hin5 : ¬ ((1 : Int32) < 0 ∨ cl5.slots.size ≤ ((1 : Int32)).toNatClampNeg) := inb_of sz5 ⟨by decide, by decide⟩
  obtain ⟨T6, h6, X6, e6, W6, st6⟩ := stB X3 hx hZ e3 Ar5 (j := (1 : Int32)) hin5 (g := (mkF m 31 #[rv a1, iv 1, rv a2, iv 1, iv 2, iv 1, iv c1] [.int (c1.toInt8.toInt32), .int 1, .ref a2])) rfl rfl (hb hby d5_31)
  have V_a2 : Arv Z h6 a2 k2 .byte (2 : Int32) [(.int (nar .byte (c0.toInt8.toInt32))), (.int (nar .byte (c1.toInt8.toInt32)))] (.int (0 : Int32)) := Arv.set Ar5 qk5 sz5 nn5 hs5 ft5 (fits_nar_byte _) W6 1 rfl (Nat.le_of_ble_eq_true rfl)
  have V_a1 := V_a1.other W6 ne_a1_a2
  have O := O.wr W6 g_a2
  have K := K.wr W6 (Or.inl (List.mem_of_getElem? (i := 0) rfl))
  have N := Fr.snoc X6 N g_a2
  refine gb st6 ?_
  show G T6 (mkF m 32 #[rv a1, iv 1, rv a2, iv 1, iv 2, iv 1, iv c1] [])
  refine gb (fun _ k => XS.iinc X6.here hx rfl (hb hby d5_32) rfl (l' := #[rv a1, iv 2, rv a2, iv 1, iv 2, iv 1, iv c1]) rfl (XS.iinc X6.here hx rfl (hb hby d5_35) rfl (l' := #[rv a1, iv 2, rv a2, iv 2, iv 2, iv 1, iv c1]) rfl (XS.iinc X6.here hx rfl (hb hby d5_38) rfl (l' := #[rv a1, iv 2, rv a2, iv 2, iv 2, iv 2, iv c1]) rfl (XS.goto X6.here hx rfl (pc0 := 41) (pc' := 3) rfl (hb hby d5_41) (by decide) (by decide) (XS.iload X6.here hx rfl (hb hby d5_3) rfl (XS.iload X6.here hx rfl (hb hby d5_5) rfl k)))))) ?_
  show G T6 (mkF m 7 #[rv a1, iv 2, rv a2, iv 2, iv 2, iv 2, iv c1] [.int 2, .int 2])
  refine gb (fun _ k => XS.icmpYes X6.here hx rfl (pc0 := 7) (pc' := 44) rfl (hb hby d5_7) rfl (flt (by decide : ¬ ((2 : Int32) < (2 : Int32)))).2.1 (by decide) (by decide) (XS.iload X6.here hx rfl (hb hby d5_44) rfl k)) ?_
  show G T6 (mkF m 46 #[rv a1, iv 2, rv a2, iv 2, iv 2, iv 2, iv c1] [.int 2])
  exact go X6 (v := (some (.int (2 : Int32)))) (fun h => by rw [Bd.returns] at h; cases h) (fun fs hr => retOut X6 hx Bd.returns rfl (Or.inl ⟨rfl, by simp, _, rfl⟩) (hb hby d5_46) hr) (by rw [e6]; exact ⟨rfl, N, K, V_a2⟩) (by decide) (by decide)
def Q_rmC1_2 (Z : State) (a1 : Addr) (k1 : ClassId) (c0 c1 : Int32) (h0 : Heap) (n0 : Nat) : Option Value → Heap → List Loc → Prop := fun v h L => ∃ (b : Addr) (kb : ClassId), v = some (.ref b) ∧ Fr n0 L ∧ Keep h0 h [] ∧ n0 ≤ b ∧ h0.size ≤ b ∧ Arv Z h b kb .byte (2 : Int32) [(.int (nar .byte (c0.toInt8.toInt32))), (.int (nar .byte (c1.toInt8.toInt32)))] (.int (0 : Int32))
set_option maxRecDepth 65536 in
set_option maxHeartbeats 40000000 in
theorem rmC1_2 (l : Launch) (Z : State) (a0 : Array Value) (hw : ∀ d ∈ tables_1, d.before a0 Z = true) (ws : List Jvm.Cond) (a1 : Addr) (k1 : ClassId) (c0 c1 : Int32) (h0 : Heap) (n0 : Nat) (O : Old Z n0 h0) (V_a1 : Arv Z h0 a1 k1 .char (2 : Int32) [(.int c0), (.int c1)] (.int (0 : Int32))) (hb0 : ¬ ((255 : Int32) < c0)) (hb1 : ¬ ((255 : Int32) < c1)) :
    MetFree l (⟨"java/lang/StringUTF16", "compress", "([CII)[B"⟩ : MethodName) (head1 (Jvm.Cond.code (⟨"java/lang/StringUTF16", "compress", "([CII)[B"⟩ : MethodName) jdk_52_method_16_code 6 (some (.array .byte)) :: ws) ({ frames := 1, cells := 1, slots := 2, locals := 18 } : Room)) (fun a U => a = #[(.ref a1), (.int (0 : Int32)), (.int (2 : Int32))] ∧ Z.Warmed39 U.vm ∧ U.heap = h0) (fun _ _ _ _ _ => True) (fun _ U o U' => ∃ v L, o = .returned v ∧ (Q_rmC1_2 Z a1 k1 c0 c1 h0 n0) v U'.heap L ∧ FrameEnd U o U' L ({ frames := 1, cells := 1, slots := 2, locals := 18 } : Room).cells ({ frames := 1, cells := 1, slots := 2, locals := 18 } : Room).slots) := by
  refine MetFree.of_bodySF (plainFor_of_name pn_0) hisR ?_
  intro p e s m args below meth c s₁ Bd hml0 hP hK
  obtain ⟨rfl, hZ, hh⟩ := hP
  have hx := Bd.exec
  have hby := Bd.bytes
  have hml : c.maxLocals = 6 := hml0
  have hown : s.vm.findClass "java/lang/StringUTF16" = some m.cls := findClass_of_methodNamed Bd.named
  have hnm := (name_of_methodNamed Bd.named Bd.method).1
  have hlk := BodyLoose.notSynchronized Bd
  have X0 : Stand p l e ({ frames := 1, cells := 1, slots := 2, locals := 18 } : Room) s m #[(.ref a1), (.int (0 : Int32)), (.int (2 : Int32))] below meth c s₁ [] 0 0 := Stand.of_body Bd
  have e0 : s₁.heap = h0 := by rw [← hh, Bd.state]; rfl
  have N := Fr.nil n0
  have K := Keep.refl h0 []
  obtain ⟨G, hG⟩ : ∃ G : State → JFrame → Prop, G = OwnG p e below s ({ frames := 1, cells := 1, slots := 2, locals := 18 } : Room).cells ({ frames := 1, cells := 1, slots := 2, locals := 18 } : Room).slots (Q_rmC1_2 Z a1 k1 c0 c1 h0 n0) := ⟨_, rfl⟩
  have gb : ∀ {T T' : State} {g g' : JFrame}, (∀ t, Steps p.tables e below (T'.setTop g') t → Steps p.tables e below (T.setTop g) t) → G T' g' → G T g := by subst hG; exact fun k h => own_by k h
  have go : ∀ {T : State} {locs : List Loc} {cells slots : Nat} {g : JFrame} {v : Option Value}, Stand p l e ({ frames := 1, cells := 1, slots := 2, locals := 18 } : Room) s m #[(.ref a1), (.int (0 : Int32)), (.int (2 : Int32))] below meth c T locs cells slots → (meth.sig.returnType = none → v = none) → (∀ fs, (∀ (f : JFrame) (acts : List Action), f.method = m → f.locked = none → f.entered = [] → (doReturn e (T.setTop f) acts v).1 = T.setFrames fs) → Steps p.tables e below (T.setTop g) (T.setFrames fs)) → (Q_rmC1_2 Z a1 k1 c0 c1 h0 n0) v T.heap locs → cells ≤ ({ frames := 1, cells := 1, slots := 2, locals := 18 } : Room).cells → slots ≤ ({ frames := 1, cells := 1, slots := 2, locals := 18 } : Room).slots → G T g := by subst hG; exact fun X h1 h2 h3 h4 h5 => own_out X hlk h1 h2 h3 h4 h5
  show OwnG p e below s ({ frames := 1, cells := 1, slots := 2, locals := 18 } : Room).cells ({ frames := 1, cells := 1, slots := 2, locals := 18 } : Room).slots (Q_rmC1_2 Z a1 k1 c0 c1 h0 n0) s₁ (entryFrame m #[(.ref a1), (.int (0 : Int32)), (.int (2 : Int32))] 6)
  rw [← hG, ef_rmC1_2 m a1 (0 : Int32) (2 : Int32)]
  clear hG
  show G s₁ (mkF m 0 #[.val (.ref a1), .val (.int (0 : Int32)), .val (.int (2 : Int32)), .unset, .unset, .unset] [])
  refine gb (fun _ k => XS.iloadN X0.here hx rfl (hb hby d4_0) rfl k) ?_
  show G s₁ (mkF m 1 #[rv a1, iv 0, iv 2, .unset, .unset, .unset] [.int 2])
  obtain ⟨T1, h1, kA1, X1, e1, E1, A1, st1⟩ := newP X0 hx hZ (ow hw 23 rfl) e0 (g := (mkF m 1 #[rv a1, iv 0, iv 2, .unset, .unset, .unset] [.int 2])) rfl (hb hby d4_1) rfl (by decide) (cap := 2) (by decide) (by decide) (by decide) (by decide)
  obtain ⟨b1, g1⟩ : ∃ z, z = h0.size := ⟨_, rfl⟩
  rw [← g1] at A1 st1
  have g_b1 : n0 ≤ b1 := Nat.le_trans (by have := O.2.1; rw [O.1] at this; exact this) (Nat.le_of_eq g1.symm)
  have sz_b1 : h0.size ≤ b1 := Nat.le_trans K.1 (Nat.le_of_eq g1.symm)
  have ne_a1_b1 : a1 ≠ b1 := Nat.ne_of_lt (Nat.lt_of_lt_of_le V_a1.lt (Nat.le_of_eq g1.symm))
  have V_a1 := V_a1.ext E1
  have O := O.ext E1
  have K := K.ext E1
  have V_b1 : Arv Z h1 b1 kA1 .byte (2 : Int32) [(.int (0 : Int32)), (.int (0 : Int32))] (.int (0 : Int32)) := (Arv.new A1 (by decide)).pad (pad_rep [] (.int (0 : Int32)) 2)
  refine gb st1 ?_
  show G T1 (mkF m 3 #[rv a1, iv 0, iv 2, .unset, .unset, .unset] [.ref b1])
  refine gb (fun _ k => XS.astoreN X1.here hx rfl (hb hby d4_3) rfl rfl (l' := #[rv a1, iv 0, iv 2, rv b1, .unset, .unset]) rfl (XS.aloadN X1.here hx rfl (hb hby d4_4) rfl rfl (XS.iloadN X1.here hx rfl (hb hby d4_5) rfl (XS.aloadN X1.here hx rfl (hb hby d4_6) rfl rfl (XS.iconst X1.here hx rfl (hb hby d4_7) (XS.iloadN X1.here hx rfl (hb hby d4_8) rfl k)))))) ?_
  show G T1 (mkF m 9 #[rv a1, iv 0, iv 2, rv b1, .unset, .unset] [.int 2, .int 0, .ref b1, .int 0, .ref a1])
  obtain ⟨_, _, ⟨T2, Lz2, kz2, nz2⟩, -, X2, ⟨Lc2, hQ2, lq2, yq2, zq2⟩, st2⟩ := Jvm.LawKit.callS X1 hx (y := (⟨"java/lang/StringUTF16", "compress", "([CI[BII)I"⟩ : MethodName)) hown (mvT hZ (ow hw 24 rfl)) (mvT hZ (ow hw 25 rfl)) (mvT hZ (ow hw 21 rfl)) (mvT hZ (ow hw 26 rfl)) (by decide) (backOf (W := 0) (rmC2_2 l Z a0 hw [] a1 b1 k1 kA1 c0 c1 h1 n0 O V_a1 V_b1 g_b1 ne_a1_b1 hb0 hb1) hZ (ow hw 26 rfl) (ow hw 21 rfl) (by decide) (by decide)) (g := (mkF m 9 #[rv a1, iv 0, iv 2, rv b1, .unset, .unset] [.int 2, .int 0, .ref b1, .int 0, .ref a1])) rfl (by rw [hml]; rfl) (argsL := [(.ref a1), (.int (0 : Int32)), (.ref b1), (.int (0 : Int32)), (.int (2 : Int32))]) (rest := []) (lenOf pd_0 rfl) rfl (by show 2 * 0 + _ ≤ _; exact Nat.le_of_eq rfl) (hb hby d4_9) (fun _ _ => ⟨rfl, e1, (by decide : 1 + 0 ≤ _), (by decide : 2 + 0 ≤ _)⟩)
  dsimp only [Pt.U, Pt.locs, Pt.cells, Pt.slots] at X2 lq2 yq2 zq2 st2 hQ2
  subst lq2 yq2 zq2
  obtain ⟨h2, e2⟩ : ∃ z, z = T2.heap := ⟨_, rfl⟩
  rw [← e2] at hQ2
  replace e2 := e2.symm
  obtain ⟨rfl, Nq2, Kq2, hR2⟩ := hQ2
  have N := Fr.app N Nq2
  have V_a1 := V_a1.keep Kq2 (ninS ne_a1_b1 nin0)
  have V_b1 := hR2
  have O := O.keep Kq2 (allS g_b1 all0)
  have K := K.trans Kq2 (allS (Or.inr sz_b1) all0)
  refine gb st2 ?_
  show G T2 (mkF m 12 #[rv a1, iv 0, iv 2, rv b1, .unset, .unset] [.int 2])
  refine gb (fun _ k => XS.istore X2.here hx rfl (hb hby d4_12) rfl (l' := #[rv a1, iv 0, iv 2, rv b1, iv 2, .unset]) rfl (XS.iload X2.here hx rfl (hb hby d4_14) rfl (XS.iloadN X2.here hx rfl (hb hby d4_16) rfl (XS.icmpYes X2.here hx rfl (pc0 := 17) (pc' := 57) rfl (hb hby d4_17) rfl (teq (by decide : (2 : Int32) = (2 : Int32))).1 (by decide) (by decide) (XS.aloadN X2.here hx rfl (hb hby d4_57) rfl rfl k))))) ?_
  show G T2 (mkF m 58 #[rv a1, iv 0, iv 2, rv b1, iv 2, .unset] [.ref b1])
  exact go X2 (v := (some (.ref b1))) (fun h => by rw [Bd.returns] at h; cases h) (fun fs hr => retOut X2 hx Bd.returns rfl (Or.inr (Or.inr (Or.inr (Or.inr ⟨rfl, rfl, rfl⟩)))) (hb hby d4_58) hr) (by rw [e2]; exact ⟨_, _, rfl, N, K, g_b1, sz_b1, V_b1⟩) (by decide) (by decide)
def Q_rmCo_2 (Z : State) (a1 : Addr) (k1 : ClassId) (vs1 : List Value) (h0 : Heap) (n0 : Nat) : Option Value → Heap → List Loc → Prop := fun v h L => v = some (.int (0 : Int32)) ∧ L = [] ∧ h = h0
set_option maxRecDepth 65536 in
set_option maxHeartbeats 40000000 in
theorem rmCo_2 (l : Launch) (Z : State) (a0 : Array Value) (hw : ∀ d ∈ tables_1, d.before a0 Z = true) (ws : List Jvm.Cond) (a1 : Addr) (k1 : ClassId) (vs1 : List Value) (h0 : Heap) (n0 : Nat) (O : Old Z n0 h0) (V_a1 : Arv Z h0 a1 k1 .byte (2 : Int32) vs1 (.int (0 : Int32))) :
    MetFree l (⟨"java/lang/StringUTF16", "coderFromArrayLen", "([BI)B"⟩ : MethodName) (head1 (Jvm.Cond.code (⟨"java/lang/StringUTF16", "coderFromArrayLen", "([BI)B"⟩ : MethodName) jdk_52_method_15_code 2 (some .byte) :: ws) ({ frames := 0, cells := 0, slots := 0, locals := 0 } : Room)) (fun a U => a = #[(.ref a1), (.int (2 : Int32))] ∧ Z.Warmed39 U.vm ∧ U.heap = h0) (fun _ _ _ _ _ => True) (fun _ U o U' => ∃ v L, o = .returned v ∧ (Q_rmCo_2 Z a1 k1 vs1 h0 n0) v U'.heap L ∧ FrameEnd U o U' L ({ frames := 0, cells := 0, slots := 0, locals := 0 } : Room).cells ({ frames := 0, cells := 0, slots := 0, locals := 0 } : Room).slots) := by
  refine MetFree.of_bodySF (plainFor_of_name pn_0) hisR ?_
  intro p e s m args below meth c s₁ Bd hml0 hP hK
  obtain ⟨rfl, hZ, hh⟩ := hP
  have hx := Bd.exec
  have hby := Bd.bytes
  have hml : c.maxLocals = 2 := hml0
  have hown : s.vm.findClass "java/lang/StringUTF16" = some m.cls := findClass_of_methodNamed Bd.named
  have hnm := (name_of_methodNamed Bd.named Bd.method).1
  have hlk := BodyLoose.notSynchronized Bd
  have X0 : Stand p l e ({ frames := 0, cells := 0, slots := 0, locals := 0 } : Room) s m #[(.ref a1), (.int (2 : Int32))] below meth c s₁ [] 0 0 := Stand.of_body Bd
  have e0 : s₁.heap = h0 := by rw [← hh, Bd.state]; rfl
  have N := Fr.nil n0
  obtain ⟨G, hG⟩ : ∃ G : State → JFrame → Prop, G = OwnG p e below s ({ frames := 0, cells := 0, slots := 0, locals := 0 } : Room).cells ({ frames := 0, cells := 0, slots := 0, locals := 0 } : Room).slots (Q_rmCo_2 Z a1 k1 vs1 h0 n0) := ⟨_, rfl⟩
  have gb : ∀ {T T' : State} {g g' : JFrame}, (∀ t, Steps p.tables e below (T'.setTop g') t → Steps p.tables e below (T.setTop g) t) → G T' g' → G T g := by subst hG; exact fun k h => own_by k h
  have go : ∀ {T : State} {locs : List Loc} {cells slots : Nat} {g : JFrame} {v : Option Value}, Stand p l e ({ frames := 0, cells := 0, slots := 0, locals := 0 } : Room) s m #[(.ref a1), (.int (2 : Int32))] below meth c T locs cells slots → (meth.sig.returnType = none → v = none) → (∀ fs, (∀ (f : JFrame) (acts : List Action), f.method = m → f.locked = none → f.entered = [] → (doReturn e (T.setTop f) acts v).1 = T.setFrames fs) → Steps p.tables e below (T.setTop g) (T.setFrames fs)) → (Q_rmCo_2 Z a1 k1 vs1 h0 n0) v T.heap locs → cells ≤ ({ frames := 0, cells := 0, slots := 0, locals := 0 } : Room).cells → slots ≤ ({ frames := 0, cells := 0, slots := 0, locals := 0 } : Room).slots → G T g := by subst hG; exact fun X h1 h2 h3 h4 h5 => own_out X hlk h1 h2 h3 h4 h5
  show OwnG p e below s ({ frames := 0, cells := 0, slots := 0, locals := 0 } : Room).cells ({ frames := 0, cells := 0, slots := 0, locals := 0 } : Room).slots (Q_rmCo_2 Z a1 k1 vs1 h0 n0) s₁ (entryFrame m #[(.ref a1), (.int (2 : Int32))] 2)
  rw [← hG, ef_rmCo_2 m a1 (2 : Int32)]
  clear hG
  show G s₁ (mkF m 0 #[.val (.ref a1), .val (.int (2 : Int32))] [])
  refine gb (fun _ k => XS.iloadN X0.here hx rfl (hb hby d6_0) rfl (XS.aloadN X0.here hx rfl (hb hby d6_1) rfl rfl k)) ?_
  show G s₁ (mkF m 2 #[rv a1, iv 2] [.ref a1, .int 2])
  have V'1 := V_a1
  obtain ⟨cl1, Ar1, qk1, sz1, nn1, hs1, ft1⟩ := V'1
  refine gb (X0.arraylength hx (by rw [e0]; exact Ar1.1) (State.isArrayOf_alike hZ.alike Ar1.2.1) (g := (mkF m 2 #[rv a1, iv 2] [.ref a1, .int 2])) rfl rfl (hb hby d6_2)) ?_
  rw [len_of sz1 nn1]
  show G s₁ (mkF m 3 #[rv a1, iv 2] [.int 2, .int 2])
  refine gb (fun _ k => XS.isub X0.here hx rfl (hb hby d6_3) rfl (XS.bipush X0.here hx rfl (hb hby d6_4) (XS.iushr X0.here hx rfl (hb hby d6_6) rfl (XS.i2b X0.here hx rfl (hb hby d6_7) rfl k)))) ?_
  show G s₁ (mkF m 8 #[rv a1, iv 2] [.int 0])
  exact go X0 (v := (some (.int (0 : Int32)))) (fun h => by rw [Bd.returns] at h; cases h) (fun fs hr => retOut X0 hx Bd.returns rfl (Or.inl ⟨rfl, by simp, _, rfl⟩) (hb hby d6_8) hr) (⟨rfl, rfl, e0⟩) (by decide) (by decide)
def Q_rmS4_2 (Z : State) (a1 a2 : Addr) (k2 : ClassId) (c0 c1 : Int32) (h0 : Heap) (n0 : Nat) (zc : Int32) : Option Value → Heap → List Loc → Prop := fun v h L => ∃ (b : Addr) (kb : ClassId), v = none ∧ Fr n0 L ∧ Keep h0 h [a1] ∧ Exa Z h a1 "java/lang/String" ∧ Fld Z h a1 "java/lang/String" "coder" "B" (.int (0 : Int32)) ∧ Fld Z h a1 "java/lang/String" "value" "[B" (.ref b) ∧ n0 ≤ b ∧ h0.size ≤ b ∧ Arv Z h b kb .byte (2 : Int32) [(.int (nar .byte (c0.toInt8.toInt32))), (.int (nar .byte (c1.toInt8.toInt32)))] (.int (0 : Int32))
set_option maxRecDepth 65536 in
set_option maxHeartbeats 40000000 in
theorem rmS4_2 (l : Launch) (Z : State) (a0 : Array Value) (hw : ∀ d ∈ tables_1, d.before a0 Z = true) (ws : List Jvm.Cond) (a1 a2 : Addr) (k2 : ClassId) (c0 c1 : Int32) (h0 : Heap) (n0 : Nat) (O : Old Z n0 h0) (E_a1 : Exa Z h0 a1 "java/lang/String") (F_coder_a1 : Fld Z h0 a1 "java/lang/String" "coder" "B" (.int (0 : Int32))) (F_value_a1 : Fld Z h0 a1 "java/lang/String" "value" "[B" .null) (g_a1 : n0 ≤ a1) (V_a2 : Arv Z h0 a2 k2 .char (2 : Int32) [(.int c0), (.int c1)] (.int (0 : Int32))) (ne_a2_a1 : a2 ≠ a1) (hb0 : ¬ ((255 : Int32) < c0)) (hb1 : ¬ ((255 : Int32) < c1)) (zc : Int32) (S_cs : Sta Z Z.heap "java/lang/String" "COMPACT_STRINGS" "Z" (.int zc)) (hzc : ¬ zc = (0 : Int32)) :
    MetFree l (⟨"java/lang/String", "<init>", "([CIILjava/lang/Void;)V"⟩ : MethodName) (head1 (Jvm.Cond.code (⟨"java/lang/String", "<init>", "([CIILjava/lang/Void;)V"⟩ : MethodName) jdk_42_method_149_code 6 none :: ws) ({ frames := 2, cells := 1, slots := 2, locals := 35 } : Room)) (fun a U => a = #[(.ref a1), (.ref a2), (.int (0 : Int32)), (.int (2 : Int32)), .null] ∧ Z.Warmed39 U.vm ∧ U.heap = h0) (fun _ _ _ _ _ => True) (fun _ U o U' => ∃ v L, o = .returned v ∧ (Q_rmS4_2 Z a1 a2 k2 c0 c1 h0 n0 zc) v U'.heap L ∧ FrameEnd U o U' L ({ frames := 2, cells := 1, slots := 2, locals := 35 } : Room).cells ({ frames := 2, cells := 1, slots := 2, locals := 35 } : Room).slots) := by
  refine MetFree.of_bodySF (plainFor_of_name pn_1) hisR ?_
  intro p e s m args below meth c s₁ Bd hml0 hP hK
  obtain ⟨rfl, hZ, hh⟩ := hP
  have hx := Bd.exec
  have hby := Bd.bytes
  have hml : c.maxLocals = 6 := hml0
  have hown : s.vm.findClass "java/lang/String" = some m.cls := findClass_of_methodNamed Bd.named
  have hnm := (name_of_methodNamed Bd.named Bd.method).1
  have hlk := BodyLoose.notSynchronized Bd
  have X0 : Stand p l e ({ frames := 2, cells := 1, slots := 2, locals := 35 } : Room) s m #[(.ref a1), (.ref a2), (.int (0 : Int32)), (.int (2 : Int32)), .null] below meth c s₁ [] 0 0 := Stand.of_body Bd
  have e0 : s₁.heap = h0 := by rw [← hh, Bd.state]; rfl
  have N := Fr.nil n0
  have K := Keep.refl h0 [a1]
  obtain ⟨G, hG⟩ : ∃ G : State → JFrame → Prop, G = OwnG p e below s ({ frames := 2, cells := 1, slots := 2, locals := 35 } : Room).cells ({ frames := 2, cells := 1, slots := 2, locals := 35 } : Room).slots (Q_rmS4_2 Z a1 a2 k2 c0 c1 h0 n0 zc) := ⟨_, rfl⟩
  have gb : ∀ {T T' : State} {g g' : JFrame}, (∀ t, Steps p.tables e below (T'.setTop g') t → Steps p.tables e below (T.setTop g) t) → G T' g' → G T g := by subst hG; exact fun k h => own_by k h
  have go : ∀ {T : State} {locs : List Loc} {cells slots : Nat} {g : JFrame} {v : Option Value}, Stand p l e ({ frames := 2, cells := 1, slots := 2, locals := 35 } : Room) s m #[(.ref a1), (.ref a2), (.int (0 : Int32)), (.int (2 : Int32)), .null] below meth c T locs cells slots → (meth.sig.returnType = none → v = none) → (∀ fs, (∀ (f : JFrame) (acts : List Action), f.method = m → f.locked = none → f.entered = [] → (doReturn e (T.setTop f) acts v).1 = T.setFrames fs) → Steps p.tables e below (T.setTop g) (T.setFrames fs)) → (Q_rmS4_2 Z a1 a2 k2 c0 c1 h0 n0 zc) v T.heap locs → cells ≤ ({ frames := 2, cells := 1, slots := 2, locals := 35 } : Room).cells → slots ≤ ({ frames := 2, cells := 1, slots := 2, locals := 35 } : Room).slots → G T g := by subst hG; exact fun X h1 h2 h3 h4 h5 => own_out X hlk h1 h2 h3 h4 h5
  show OwnG p e below s ({ frames := 2, cells := 1, slots := 2, locals := 35 } : Room).cells ({ frames := 2, cells := 1, slots := 2, locals := 35 } : Room).slots (Q_rmS4_2 Z a1 a2 k2 c0 c1 h0 n0 zc) s₁ (entryFrame m #[(.ref a1), (.ref a2), (.int (0 : Int32)), (.int (2 : Int32)), .null] 6)
  rw [← hG, ef_rmS4_2 m a1 a2 (0 : Int32) (2 : Int32)]
  clear hG
  show G s₁ (mkF m 0 #[.val (.ref a1), .val (.ref a2), .val (.int (0 : Int32)), .val (.int (2 : Int32)), .val .null, .unset] [])
  refine gb (fun _ k => XS.aloadN X0.here hx rfl (hb hby d2_0) rfl rfl k) ?_
  show G s₁ (mkF m 1 #[rv a1, rv a2, iv 0, iv 2, .val .null, .unset] [.ref a1])
  obtain ⟨T1, X1, e1, st1⟩ := initO X0 hx hZ hown (ow hw 15 rfl) (ow hw 16 rfl) (ow hw 17 rfl) e0 (g := (mkF m 1 #[rv a1, rv a2, iv 0, iv 2, .val .null, .unset] [.ref a1])) rfl (by rw [hml]; rfl) rfl (hb hby d2_1) (by decide) (W := 0) (by show 2 * 0 + _ ≤ _; exact Nat.le_of_eq rfl) (by decide)
  refine gb st1 ?_
  show G T1 (mkF m 4 #[rv a1, rv a2, iv 0, iv 2, .val .null, .unset] [])
  refine gb (fun _ k => XS.iloadN X1.here hx rfl (hb hby d2_4) rfl (XS.ifYes X1.here hx rfl (pc0 := 5) (pc' := 27) rfl (hb hby d2_5) rfl ((if0 _ _).trans (feq (by decide : ¬ ((2 : Int32) = (0 : Int32)))).2) (by decide) (by decide) k)) ?_
  show G T1 (mkF m 27 #[rv a1, rv a2, iv 0, iv 2, .val .null, .unset] [])
  obtain ⟨T2, X2, e2, st2⟩ := getS2 X1 hx hZ hown (host := "") (Or.inl (ow hw 18 rfl)) Via.refl e1 (S_cs.ext O.2) (g := (mkF m 27 #[rv a1, rv a2, iv 0, iv 2, .val .null, .unset] [])) rfl (hb hby d2_27)
  refine gb st2 ?_
  show G T2 (mkF m 30 #[rv a1, rv a2, iv 0, iv 2, .val .null, .unset] [.int zc])
  refine gb (fun _ k => XS.ifNo X2.here hx rfl (hb hby d2_30) rfl ((if0 _ _).trans (feq hzc).1) (XS.aloadN X2.here hx rfl (hb hby d2_33) rfl rfl (XS.iloadN X2.here hx rfl (hb hby d2_34) rfl (XS.iloadN X2.here hx rfl (hb hby d2_35) rfl k)))) ?_
  show G T2 (mkF m 36 #[rv a1, rv a2, iv 0, iv 2, .val .null, .unset] [.int 2, .int 0, .ref a2])
  have lt_a1 := E_a1.lt
  have lt_a2 := V_a2.lt
  have szK := K.1
  obtain ⟨_, _, ⟨T3, Lz3, kz3, nz3⟩, -, X3, ⟨Lc3, hQ3, lq3, yq3, zq3⟩, st3⟩ := Jvm.LawKit.callS X2 hx (y := (⟨"java/lang/StringUTF16", "compress", "([CII)[B"⟩ : MethodName)) hown (mvT hZ (ow hw 19 rfl)) (mvT hZ (ow hw 20 rfl)) (mvT hZ (ow hw 21 rfl)) (mvT hZ (ow hw 22 rfl)) (by decide) (backOf (W := 0) (rmC1_2 l Z a0 hw [] a2 k2 c0 c1 h0 n0 O V_a2 hb0 hb1) hZ (ow hw 22 rfl) (ow hw 21 rfl) (by decide) (by decide)) (g := (mkF m 36 #[rv a1, rv a2, iv 0, iv 2, .val .null, .unset] [.int 2, .int 0, .ref a2])) rfl (by rw [hml]; rfl) (argsL := [(.ref a2), (.int (0 : Int32)), (.int (2 : Int32))]) (rest := []) (lenOf pd_1 rfl) rfl (by show 2 * 0 + _ ≤ _; exact Nat.le_of_eq rfl) (hb hby d2_36) (fun _ _ => ⟨rfl, e2, (by decide : 0 + 1 ≤ _), (by decide : 0 + 2 ≤ _)⟩)
  dsimp only [Pt.U, Pt.locs, Pt.cells, Pt.slots] at X3 lq3 yq3 zq3 st3 hQ3
  subst lq3 yq3 zq3
  obtain ⟨h3, e3⟩ : ∃ z, z = T3.heap := ⟨_, rfl⟩
  rw [← e3] at hQ3
  replace e3 := e3.symm
  obtain ⟨b3, kb3, rfl, Nq3, Kq3, hR3⟩ := hQ3
  have N := Fr.app N Nq3
  have E_a1 := E_a1.keep Kq3
  have F_coder_a1 := F_coder_a1.keep Kq3 nin0
  have F_value_a1 := F_value_a1.keep Kq3 nin0
  have V_a2 := V_a2.keep Kq3 nin0
  obtain ⟨g_b3, sz_b3, V_b3⟩ := hR3
  have O := O.keep Kq3 all0
  have K := K.trans Kq3 all0
  have ne_a1_b3 : a1 ≠ b3 := Nat.ne_of_lt (Nat.lt_of_lt_of_le lt_a1 sz_b3)
  have ne_a2_b3 : a2 ≠ b3 := Nat.ne_of_lt (Nat.lt_of_lt_of_le lt_a2 sz_b3)
  have sz_b3 := Nat.le_trans szK sz_b3
  refine gb st3 ?_
  show G T3 (mkF m 39 #[rv a1, rv a2, iv 0, iv 2, .val .null, .unset] [.ref b3])
  refine gb (fun _ k => XS.astore X3.here hx rfl (hb hby d2_39) rfl rfl (l' := #[rv a1, rv a2, iv 0, iv 2, .val .null, rv b3]) rfl (XS.aloadN X3.here hx rfl (hb hby d2_41) rfl rfl (XS.aload X3.here hx rfl (hb hby d2_42) rfl rfl (XS.iloadN X3.here hx rfl (hb hby d2_44) rfl k)))) ?_
  show G T3 (mkF m 45 #[rv a1, rv a2, iv 0, iv 2, .val .null, rv b3] [.int 2, .ref b3, .ref a1])
  obtain ⟨_, _, ⟨T4, Lz4, kz4, nz4⟩, -, X4, ⟨Lc4, hQ4, lq4, yq4, zq4⟩, st4⟩ := Jvm.LawKit.callS X3 hx (y := (⟨"java/lang/StringUTF16", "coderFromArrayLen", "([BI)B"⟩ : MethodName)) hown (mvT hZ (ow hw 27 rfl)) (mvT hZ (ow hw 28 rfl)) (mvT hZ (ow hw 21 rfl)) (mvT hZ (ow hw 29 rfl)) (by decide) (backOf (W := 1) (rmCo_2 l Z a0 hw [] b3 kb3 _ h3 n0 O V_b3) hZ (ow hw 29 rfl) (ow hw 21 rfl) (by decide) (by decide)) (g := (mkF m 45 #[rv a1, rv a2, iv 0, iv 2, .val .null, rv b3] [.int 2, .ref b3, .ref a1])) rfl (by rw [hml]; rfl) (argsL := [(.ref b3), (.int (2 : Int32))]) (rest := [(.ref a1)]) (lenOf pd_2 rfl) rfl (by show 2 * 0 + _ ≤ _; exact Nat.le_of_eq rfl) (hb hby d2_45) (fun _ _ => ⟨rfl, e3, (by decide : 1 + 0 ≤ _), (by decide : 2 + 0 ≤ _)⟩)
  dsimp only [Pt.U, Pt.locs, Pt.cells, Pt.slots] at X4 lq4 yq4 zq4 st4 hQ4
  subst lq4 yq4 zq4
  obtain ⟨rfl, rfl, e4⟩ := hQ4
  try rw [List.append_nil] at X4
  refine gb st4 ?_
  show G T4 (mkF m 48 #[rv a1, rv a2, iv 0, iv 2, .val .null, rv b3] [.int 0, .ref a1])
  obtain ⟨T5, h5, X5, e5, W5, st5⟩ := putFN X4 hx hZ hown (ow hw 30 rfl) Via.refl e4 F_coder_a1 E_a1 (Or.inr ⟨(ow hw 31 rfl), rfl, hnm⟩) (ow hw 6 rfl) (ty := .byte) (v' := (.int (0 : Int32))) (by decide) rfl (by decide) (g := (mkF m 48 #[rv a1, rv a2, iv 0, iv 2, .val .null, rv b3] [.int 0, .ref a1])) rfl rfl (hb hby d2_48)
  refine gb st5 ?_
  have F_coder_a1 := F_coder_a1.same W5
  have E_a1 := E_a1.wr W5
  have F_value_a1 := F_value_a1.other W5 (Or.inr (slot_ne (Or.inr (ow hw 33 rfl)) (Or.inr (ow hw 31 rfl)) (by decide) (t := (.array .byte)) (t' := .byte) (by decide) (by decide)))
  have V_a2 := V_a2.other W5 ne_a2_a1
  have V_b3 := V_b3.other W5 (Ne.symm ne_a1_b3)
  have O := O.wr W5 g_a1
  have K := K.wr W5 (Or.inl (List.mem_of_getElem? (i := 0) rfl))
  have N := Fr.snoc X5 N g_a1
  show G T5 (mkF m 51 #[rv a1, rv a2, iv 0, iv 2, .val .null, rv b3] [])
  refine gb (fun _ k => XS.aloadN X5.here hx rfl (hb hby d2_51) rfl rfl (XS.aload X5.here hx rfl (hb hby d2_52) rfl rfl k)) ?_
  show G T5 (mkF m 54 #[rv a1, rv a2, iv 0, iv 2, .val .null, rv b3] [.ref b3, .ref a1])
  obtain ⟨T6, h6, X6, e6, W6, st6⟩ := putF X5 hx hZ hown (host := "") (Or.inl (ow hw 32 rfl)) Via.refl e5 F_value_a1 E_a1 (Or.inr ⟨(ow hw 33 rfl), rfl, hnm⟩) (ow hw 6 rfl) (ty := (.array .byte)) (by decide) rfl rfl (g := (mkF m 54 #[rv a1, rv a2, iv 0, iv 2, .val .null, rv b3] [.ref b3, .ref a1])) rfl rfl (hb hby d2_54)
  refine gb st6 ?_
  have F_value_a1 := F_value_a1.same W6
  have E_a1 := E_a1.wr W6
  have V_a2 := V_a2.other W6 ne_a2_a1
  have V_b3 := V_b3.other W6 (Ne.symm ne_a1_b3)
  have F_coder_a1 := F_coder_a1.other W6 (Or.inr (slot_ne (Or.inr (ow hw 31 rfl)) (Or.inr (ow hw 33 rfl)) (by decide) (t := .byte) (t' := (.array .byte)) (by decide) (by decide)))
  have O := O.wr W6 g_a1
  have K := K.wr W6 (Or.inl (List.mem_of_getElem? (i := 0) rfl))
  have N := Fr.snoc X6 N g_a1
  show G T6 (mkF m 57 #[rv a1, rv a2, iv 0, iv 2, .val .null, rv b3] [])
  exact go X6 (v := none) (fun _ => rfl) (fun fs hr => X6.returnOut hx Bd.returns (hb hby d2_57) hr) (by rw [e6]; exact ⟨_, _, rfl, N, K, E_a1, F_coder_a1, F_value_a1, g_b3, sz_b3, V_b3⟩) (by decide) (by decide)
def Q_rmS1_2 (Z : State) (a1 a2 : Addr) (k2 : ClassId) (c0 c1 : Int32) (h0 : Heap) (n0 : Nat) (zc : Int32) : Option Value → Heap → List Loc → Prop := fun v h L => ∃ (b : Addr) (kb : ClassId), v = none ∧ Fr n0 L ∧ Keep h0 h [a1] ∧ Exa Z h a1 "java/lang/String" ∧ Fld Z h a1 "java/lang/String" "coder" "B" (.int (0 : Int32)) ∧ Fld Z h a1 "java/lang/String" "value" "[B" (.ref b) ∧ n0 ≤ b ∧ h0.size ≤ b ∧ Arv Z h b kb .byte (2 : Int32) [(.int (nar .byte (c0.toInt8.toInt32))), (.int (nar .byte (c1.toInt8.toInt32)))] (.int (0 : Int32))
set_option maxRecDepth 65536 in
set_option maxHeartbeats 40000000 in
theorem rmS1_2 (l : Launch) (Z : State) (a0 : Array Value) (hw : ∀ d ∈ tables_1, d.before a0 Z = true) (ws : List Jvm.Cond) (a1 a2 : Addr) (k2 : ClassId) (c0 c1 : Int32) (h0 : Heap) (n0 : Nat) (O : Old Z n0 h0) (E_a1 : Exa Z h0 a1 "java/lang/String") (F_coder_a1 : Fld Z h0 a1 "java/lang/String" "coder" "B" (.int (0 : Int32))) (F_value_a1 : Fld Z h0 a1 "java/lang/String" "value" "[B" .null) (g_a1 : n0 ≤ a1) (V_a2 : Arv Z h0 a2 k2 .char (2 : Int32) [(.int c0), (.int c1)] (.int (0 : Int32))) (ne_a2_a1 : a2 ≠ a1) (hb0 : ¬ ((255 : Int32) < c0)) (hb1 : ¬ ((255 : Int32) < c1)) (zc : Int32) (S_cs : Sta Z Z.heap "java/lang/String" "COMPACT_STRINGS" "Z" (.int zc)) (hzc : ¬ zc = (0 : Int32)) :
    MetFree l (⟨"java/lang/String", "<init>", "([C)V"⟩ : MethodName) (head1 (Jvm.Cond.code (⟨"java/lang/String", "<init>", "([C)V"⟩ : MethodName) jdk_42_method_3_code 2 none :: ws) ({ frames := 3, cells := 1, slots := 2, locals := 52 } : Room)) (fun a U => a = #[(.ref a1), (.ref a2)] ∧ Z.Warmed39 U.vm ∧ U.heap = h0) (fun _ _ _ _ _ => True) (fun _ U o U' => ∃ v L, o = .returned v ∧ (Q_rmS1_2 Z a1 a2 k2 c0 c1 h0 n0 zc) v U'.heap L ∧ FrameEnd U o U' L ({ frames := 3, cells := 1, slots := 2, locals := 52 } : Room).cells ({ frames := 3, cells := 1, slots := 2, locals := 52 } : Room).slots) := by
  refine MetFree.of_bodySF (plainFor_of_name pn_1) hisR ?_
  intro p e s m args below meth c s₁ Bd hml0 hP hK
  obtain ⟨rfl, hZ, hh⟩ := hP
  have hx := Bd.exec
  have hby := Bd.bytes
  have hml : c.maxLocals = 2 := hml0
  have hown : s.vm.findClass "java/lang/String" = some m.cls := findClass_of_methodNamed Bd.named
  have hnm := (name_of_methodNamed Bd.named Bd.method).1
  have hlk := BodyLoose.notSynchronized Bd
  have X0 : Stand p l e ({ frames := 3, cells := 1, slots := 2, locals := 52 } : Room) s m #[(.ref a1), (.ref a2)] below meth c s₁ [] 0 0 := Stand.of_body Bd
  have e0 : s₁.heap = h0 := by rw [← hh, Bd.state]; rfl
  have N := Fr.nil n0
  have K := Keep.refl h0 [a1]
  obtain ⟨G, hG⟩ : ∃ G : State → JFrame → Prop, G = OwnG p e below s ({ frames := 3, cells := 1, slots := 2, locals := 52 } : Room).cells ({ frames := 3, cells := 1, slots := 2, locals := 52 } : Room).slots (Q_rmS1_2 Z a1 a2 k2 c0 c1 h0 n0 zc) := ⟨_, rfl⟩
  have gb : ∀ {T T' : State} {g g' : JFrame}, (∀ t, Steps p.tables e below (T'.setTop g') t → Steps p.tables e below (T.setTop g) t) → G T' g' → G T g := by subst hG; exact fun k h => own_by k h
  have go : ∀ {T : State} {locs : List Loc} {cells slots : Nat} {g : JFrame} {v : Option Value}, Stand p l e ({ frames := 3, cells := 1, slots := 2, locals := 52 } : Room) s m #[(.ref a1), (.ref a2)] below meth c T locs cells slots → (meth.sig.returnType = none → v = none) → (∀ fs, (∀ (f : JFrame) (acts : List Action), f.method = m → f.locked = none → f.entered = [] → (doReturn e (T.setTop f) acts v).1 = T.setFrames fs) → Steps p.tables e below (T.setTop g) (T.setFrames fs)) → (Q_rmS1_2 Z a1 a2 k2 c0 c1 h0 n0 zc) v T.heap locs → cells ≤ ({ frames := 3, cells := 1, slots := 2, locals := 52 } : Room).cells → slots ≤ ({ frames := 3, cells := 1, slots := 2, locals := 52 } : Room).slots → G T g := by subst hG; exact fun X h1 h2 h3 h4 h5 => own_out X hlk h1 h2 h3 h4 h5
  show OwnG p e below s ({ frames := 3, cells := 1, slots := 2, locals := 52 } : Room).cells ({ frames := 3, cells := 1, slots := 2, locals := 52 } : Room).slots (Q_rmS1_2 Z a1 a2 k2 c0 c1 h0 n0 zc) s₁ (entryFrame m #[(.ref a1), (.ref a2)] 2)
  rw [← hG, ef_rmS1_2 m a1 a2]
  clear hG
  show G s₁ (mkF m 0 #[.val (.ref a1), .val (.ref a2)] [])
  refine gb (fun _ k => XS.aloadN X0.here hx rfl (hb hby d1_0) rfl rfl (XS.aloadN X0.here hx rfl (hb hby d1_1) rfl rfl (XS.iconst X0.here hx rfl (hb hby d1_2) (XS.aloadN X0.here hx rfl (hb hby d1_3) rfl rfl k)))) ?_
  show G s₁ (mkF m 4 #[rv a1, rv a2] [.ref a2, .int 0, .ref a2, .ref a1])
  have V'1 := V_a2
  obtain ⟨cl1, Ar1, qk1, sz1, nn1, hs1, ft1⟩ := V'1
  refine gb (X0.arraylength hx (by rw [e0]; exact Ar1.1) (State.isArrayOf_alike hZ.alike Ar1.2.1) (g := (mkF m 4 #[rv a1, rv a2] [.ref a2, .int 0, .ref a2, .ref a1])) rfl rfl (hb hby d1_4)) ?_
  rw [len_of sz1 nn1]
  show G s₁ (mkF m 5 #[rv a1, rv a2] [.int 2, .int 0, .ref a2, .ref a1])
  refine gb (fun _ k => XS.aconstNull X0.here hx rfl (hb hby d1_5) k) ?_
  show G s₁ (mkF m 6 #[rv a1, rv a2] [.null, .int 2, .int 0, .ref a2, .ref a1])
  obtain ⟨_, _, ⟨T2, Lz2, kz2, nz2⟩, -, X2, ⟨Lc2, hQ2, lq2, yq2, zq2⟩, st2⟩ := X0.specialBack hx (y := (⟨"java/lang/String", "<init>", "([CIILjava/lang/Void;)V"⟩ : MethodName)) rfl hown (mvT hZ (ow hw 11 rfl)) (mvT hZ (ow hw 12 rfl)) (mvT hZ (ow hw 14 rfl)) (by decide) (backOf (W := 0) (rmS4_2 l Z a0 hw [] a1 a2 k2 c0 c1 h0 n0 O E_a1 F_coder_a1 F_value_a1 g_a1 V_a2 ne_a2_a1 hb0 hb1 zc S_cs hzc) hZ (ow hw 14 rfl) (ow hw 7 rfl) (by decide) (by decide)) (g := (mkF m 6 #[rv a1, rv a2] [.null, .int 2, .int 0, .ref a2, .ref a1])) rfl (by rw [hml]; rfl) (Steps.refl _) (a := a1) (argsL := [(.ref a2), (.int (0 : Int32)), (.int (2 : Int32)), .null]) (rest := []) (lenOf pd_3 rfl) rfl (by show 2 * 0 + _ ≤ _; exact Nat.le_of_eq rfl) (hb hby d1_6) (fun _ _ => ⟨rfl, e0, (by decide : 0 + 1 ≤ _), (by decide : 0 + 2 ≤ _)⟩)
  dsimp only [Pt.U, Pt.locs, Pt.cells, Pt.slots] at X2 lq2 yq2 zq2 st2 hQ2
  subst lq2 yq2 zq2
  obtain ⟨h2, e2⟩ : ∃ z, z = T2.heap := ⟨_, rfl⟩
  rw [← e2] at hQ2
  replace e2 := e2.symm
  obtain ⟨b2, kb2, rfl, Nq2, Kq2, hR2⟩ := hQ2
  have N := Fr.app N Nq2
  have E_a1 := E_a1.keep Kq2
  have V_a2 := V_a2.keep Kq2 (ninS ne_a2_a1 nin0)
  obtain ⟨E_a1, Fc2, Fv2, gb2, sb2, Vb2⟩ := hR2
  have O := O.keep Kq2 (allS g_a1 all0)
  have K := K.trans Kq2 (allS (Or.inl (List.mem_of_getElem? (i := 0) rfl)) all0)
  refine gb (fun _ k => st2.trans k) ?_
  show G T2 (mkF m 9 #[rv a1, rv a2] [])
  exact go X2 (v := none) (fun _ => rfl) (fun fs hr => X2.returnOut hx Bd.returns (hb hby d1_9) hr) (by rw [e2]; exact ⟨_, _, rfl, N, K, E_a1, Fc2, Fv2, gb2, sb2, Vb2⟩) (by decide) (by decide)
def Q_rm8 (Z : State) (a1 a2 : Addr) (h0 : Heap) (n0 : Nat) : Option Value → Heap → List Loc → Prop := fun v h L => v = some (.ref a1) ∧ L = [] ∧ h = h0
set_option maxRecDepth 65536 in
set_option maxHeartbeats 40000000 in
theorem rm8 (l : Launch) (Z : State) (a0 : Array Value) (hw : ∀ d ∈ tables_1, d.before a0 Z = true) (ws : List Jvm.Cond) (a1 a2 : Addr) (h0 : Heap) (n0 : Nat) (O : Old Z n0 h0) :
    MetFree l (⟨"java/util/Objects", "requireNonNull", "(Ljava/lang/Object;Ljava/lang/String;)Ljava/lang/Object;"⟩ : MethodName) (head1 (Jvm.Cond.code (⟨"java/util/Objects", "requireNonNull", "(Ljava/lang/Object;Ljava/lang/String;)Ljava/lang/Object;"⟩ : MethodName) jdk_31_method_11_code 2 (some (.object "java/lang/Object")) :: ws) ({ frames := 0, cells := 0, slots := 0, locals := 0 } : Room)) (fun a U => a = #[(.ref a1), (.ref a2)] ∧ Z.Warmed39 U.vm ∧ U.heap = h0) (fun _ _ _ _ _ => True) (fun _ U o U' => ∃ v L, o = .returned v ∧ (Q_rm8 Z a1 a2 h0 n0) v U'.heap L ∧ FrameEnd U o U' L ({ frames := 0, cells := 0, slots := 0, locals := 0 } : Room).cells ({ frames := 0, cells := 0, slots := 0, locals := 0 } : Room).slots) := by
  refine MetFree.of_bodySF (plainFor_of_name pn_2) hisR ?_
  intro p e s m args below meth c s₁ Bd hml0 hP hK
  obtain ⟨rfl, hZ, hh⟩ := hP
  have hx := Bd.exec
  have hby := Bd.bytes
  have hml : c.maxLocals = 2 := hml0
  have hown : s.vm.findClass "java/util/Objects" = some m.cls := findClass_of_methodNamed Bd.named
  have hnm := (name_of_methodNamed Bd.named Bd.method).1
  have hlk := BodyLoose.notSynchronized Bd
  have X0 : Stand p l e ({ frames := 0, cells := 0, slots := 0, locals := 0 } : Room) s m #[(.ref a1), (.ref a2)] below meth c s₁ [] 0 0 := Stand.of_body Bd
  have e0 : s₁.heap = h0 := by rw [← hh, Bd.state]; rfl
  have N := Fr.nil n0
  obtain ⟨G, hG⟩ : ∃ G : State → JFrame → Prop, G = OwnG p e below s ({ frames := 0, cells := 0, slots := 0, locals := 0 } : Room).cells ({ frames := 0, cells := 0, slots := 0, locals := 0 } : Room).slots (Q_rm8 Z a1 a2 h0 n0) := ⟨_, rfl⟩
  have gb : ∀ {T T' : State} {g g' : JFrame}, (∀ t, Steps p.tables e below (T'.setTop g') t → Steps p.tables e below (T.setTop g) t) → G T' g' → G T g := by subst hG; exact fun k h => own_by k h
  have go : ∀ {T : State} {locs : List Loc} {cells slots : Nat} {g : JFrame} {v : Option Value}, Stand p l e ({ frames := 0, cells := 0, slots := 0, locals := 0 } : Room) s m #[(.ref a1), (.ref a2)] below meth c T locs cells slots → (meth.sig.returnType = none → v = none) → (∀ fs, (∀ (f : JFrame) (acts : List Action), f.method = m → f.locked = none → f.entered = [] → (doReturn e (T.setTop f) acts v).1 = T.setFrames fs) → Steps p.tables e below (T.setTop g) (T.setFrames fs)) → (Q_rm8 Z a1 a2 h0 n0) v T.heap locs → cells ≤ ({ frames := 0, cells := 0, slots := 0, locals := 0 } : Room).cells → slots ≤ ({ frames := 0, cells := 0, slots := 0, locals := 0 } : Room).slots → G T g := by subst hG; exact fun X h1 h2 h3 h4 h5 => own_out X hlk h1 h2 h3 h4 h5
  show OwnG p e below s ({ frames := 0, cells := 0, slots := 0, locals := 0 } : Room).cells ({ frames := 0, cells := 0, slots := 0, locals := 0 } : Room).slots (Q_rm8 Z a1 a2 h0 n0) s₁ (entryFrame m #[(.ref a1), (.ref a2)] 2)
  rw [← hG, ef_rm8 m a1 a2]
  clear hG
  show G s₁ (mkF m 0 #[.val (.ref a1), .val (.ref a2)] [])
  refine gb (fun _ k => XS.aloadN X0.here hx rfl (hb hby d8_0) rfl rfl (XS.ifnonnullYes X0.here hx rfl (pc0 := 1) (pc' := 13) rfl (hb hby d8_1) rfl (by decide) (by decide) (XS.aloadN X0.here hx rfl (hb hby d8_13) rfl rfl k))) ?_
  show G s₁ (mkF m 14 #[rv a1, rv a2] [.ref a1])
  exact go X0 (v := (some (.ref a1))) (fun h => by rw [Bd.returns] at h; cases h) (fun fs hr => retOut X0 hx Bd.returns rfl (Or.inr (Or.inr (Or.inr (Or.inr ⟨rfl, rfl, rfl⟩)))) (hb hby d8_14) hr) (⟨rfl, rfl, e0⟩) (by decide) (by decide)
def Q_rm7 (Z : State) (a1 a5 a6 : Addr) (k6 : ClassId) (q1 q2 q3 : Int64) (h0 : Heap) (n0 : Nat) : Option Value → Heap → List Loc → Prop := fun v h L => ∃ (b : Addr), v = none ∧ Fr n0 L ∧ Keep h0 h [a1] ∧ Exa Z h a1 "com/example/rhadamanthus/rhadamanthus/board/Entry" ∧ Fld Z h a1 "com/example/rhadamanthus/rhadamanthus/board/Entry" "values" "[J" (.ref b) ∧ n0 ≤ b ∧ h0.size ≤ b ∧ Exa Z h b "[J" ∧ Arv Z h b k6 .long (1 : Int32) [(.long q3)] (.long (0 : Int64))
set_option maxRecDepth 65536 in
set_option maxHeartbeats 40000000 in
theorem rm7 (l : Launch) (Z : State) (a0 : Array Value) (hw : ∀ d ∈ tables_1, d.before a0 Z = true) (ws : List Jvm.Cond) (a1 a5 a6 : Addr) (k6 : ClassId) (q1 q2 q3 : Int64) (h0 : Heap) (n0 : Nat) (O : Old Z n0 h0) (E_a1 : Exa Z h0 a1 "com/example/rhadamanthus/rhadamanthus/board/Entry") (F_position : Fld Z h0 a1 "com/example/rhadamanthus/rhadamanthus/board/Entry" "position" "J" (.long (0 : Int64))) (F_rank : Fld Z h0 a1 "com/example/rhadamanthus/rhadamanthus/board/Entry" "rank" "J" (.long (0 : Int64))) (F_member : Fld Z h0 a1 "com/example/rhadamanthus/rhadamanthus/board/Entry" "member" "Ljava/lang/String;" .null) (F_values : Fld Z h0 a1 "com/example/rhadamanthus/rhadamanthus/board/Entry" "values" "[J" .null) (g_a1 : n0 ≤ a1) (E_a5 : Exa Z h0 a5 "java/lang/String") (E_a6 : Exa Z h0 a6 "[J") (V_a6 : Arv Z h0 a6 k6 .long (1 : Int32) [(.long q3)] (.long (0 : Int64))) (ne_a6_a1 : a6 ≠ a1) :
    MetFree l (⟨"com/example/rhadamanthus/rhadamanthus/board/Entry", "<init>", "(JJLjava/lang/String;[J)V"⟩ : MethodName) (head1 (Jvm.Cond.code (⟨"com/example/rhadamanthus/rhadamanthus/board/Entry", "<init>", "(JJLjava/lang/String;[J)V"⟩ : MethodName) prog_1_method_2_code 7 none :: ws) ({ frames := 1, cells := 3, slots := 29, locals := 15 } : Room)) (fun a U => a = #[(.ref a1), (.long q1), (.long q2), (.ref a5), (.ref a6)] ∧ Z.Warmed39 U.vm ∧ U.heap = h0) (fun _ _ _ _ _ => True) (fun _ U o U' => ∃ v L, o = .returned v ∧ (Q_rm7 Z a1 a5 a6 k6 q1 q2 q3 h0 n0) v U'.heap L ∧ ReturnedEndW U o U' L ({ frames := 1, cells := 3, slots := 29, locals := 15 } : Room).cells ({ frames := 1, cells := 3, slots := 29, locals := 15 } : Room).slots) := by
  refine MetFree.of_bodySF (plainFor_of_name pn_3) hisR ?_
  intro p e s m args below meth c s₁ Bd hml0 hP hK
  obtain ⟨rfl, hZ, hh⟩ := hP
  have hx := Bd.exec
  have hby := Bd.bytes
  have hml : c.maxLocals = 7 := hml0
  have hown : s.vm.findClass "com/example/rhadamanthus/rhadamanthus/board/Entry" = some m.cls := findClass_of_methodNamed Bd.named
  have hnm := (name_of_methodNamed Bd.named Bd.method).1
  have hlk := BodyLoose.notSynchronized Bd
  have X0 : Stand p l e ({ frames := 1, cells := 3, slots := 29, locals := 15 } : Room) (s.setVm s.vm) m #[(.ref a1), (.long q1), (.long q2), (.ref a5), (.ref a6)] below meth c s₁ [] 0 0 := Stand.of_body Bd
  have e0 : s₁.heap = h0 := by rw [← hh, Bd.state]; rfl
  have N := Fr.nil n0
  have hS : s.Since s.vm h0.size := (State.WarmedH.refl s).since _
  have hk := Nat.le_refl h0.size
  have K := Keep.refl h0 [a1]
  obtain ⟨G, hG⟩ : ∃ G : State → JFrame → Prop, G = OwnGW p e below s ({ frames := 1, cells := 3, slots := 29, locals := 15 } : Room).cells ({ frames := 1, cells := 3, slots := 29, locals := 15 } : Room).slots (Q_rm7 Z a1 a5 a6 k6 q1 q2 q3 h0 n0) := ⟨_, rfl⟩
  have gb : ∀ {T T' : State} {g g' : JFrame}, (∀ t, Steps p.tables e below (T'.setTop g') t → Steps p.tables e below (T.setTop g) t) → G T' g' → G T g := by subst hG; exact fun k h => own_byW k h
  have go : ∀ {T : State} {locs : List Loc} {cells slots : Nat} {g : JFrame} {v : Option Value} {vm : Vm} {k : Nat}, Stand p l e ({ frames := 1, cells := 3, slots := 29, locals := 15 } : Room) (s.setVm vm) m #[(.ref a1), (.long q1), (.long q2), (.ref a5), (.ref a6)] below meth c T locs cells slots → s.Since vm k → k ≤ T.heap.size → (meth.sig.returnType = none → v = none) → (∀ fs, (∀ (f : JFrame) (acts : List Action), f.method = m → f.locked = none → f.entered = [] → (doReturn e (T.setTop f) acts v).1 = T.setFrames fs) → Steps p.tables e below (T.setTop g) (T.setFrames fs)) → (Q_rm7 Z a1 a5 a6 k6 q1 q2 q3 h0 n0) v T.heap locs → cells ≤ ({ frames := 1, cells := 3, slots := 29, locals := 15 } : Room).cells → slots ≤ ({ frames := 1, cells := 3, slots := 29, locals := 15 } : Room).slots → G T g := by subst hG; exact fun X a b h1 h2 h3 h4 h5 => own_outW X a b hlk h1 h2 h3 h4 h5
  show OwnGW p e below s ({ frames := 1, cells := 3, slots := 29, locals := 15 } : Room).cells ({ frames := 1, cells := 3, slots := 29, locals := 15 } : Room).slots (Q_rm7 Z a1 a5 a6 k6 q1 q2 q3 h0 n0) s₁ (entryFrame m #[(.ref a1), (.long q1), (.long q2), (.ref a5), (.ref a6)] 7)
  rw [← hG, ef_rm7 m a1 q1 q2 a5 a6]
  clear hG
  show G s₁ (mkF m 0 #[.val (.ref a1), .val (.long q1), .second, .val (.long q2), .second, .val (.ref a5), .val (.ref a6)] [])
  refine gb (fun _ k => XS.aloadN X0.here hx rfl (hb hby d7_0) rfl rfl k) ?_
  show G s₁ (mkF m 1 #[rv a1, jv q1, .second, jv q2, .second, rv a5, rv a6] [.ref a1])
  obtain ⟨T1, X1, e1, st1⟩ := initO X0 hx hZ hown (ow hw 37 rfl) (ow hw 16 rfl) (ow hw 17 rfl) e0 (g := (mkF m 1 #[rv a1, jv q1, .second, jv q2, .second, rv a5, rv a6] [.ref a1])) rfl (by rw [hml]; rfl) rfl (hb hby d7_1) (by decide) (W := 0) (by show 2 * 0 + _ ≤ _; exact Nat.le_of_eq rfl) (by decide)
  refine gb st1 ?_
  show G T1 (mkF m 4 #[rv a1, jv q1, .second, jv q2, .second, rv a5, rv a6] [])
  refine gb (fun _ k => XS.aloadN X1.here hx rfl (hb hby d7_4) rfl rfl (XS.lloadN X1.here hx rfl (hb hby d7_5) rfl k)) ?_
  show G T1 (mkF m 6 #[rv a1, jv q1, .second, jv q2, .second, rv a5, rv a6] [.long q1, .ref a1])
  obtain ⟨T2, h2, X2, e2, W2, st2⟩ := putF X1 hx hZ hown (host := "") (Or.inl (ow hw 38 rfl)) Via.refl e1 F_position E_a1 (Or.inr ⟨(ow hw 39 rfl), rfl, hnm⟩) (ow hw 3 rfl) (ty := .long) (by decide) rfl rfl (g := (mkF m 6 #[rv a1, jv q1, .second, jv q2, .second, rv a5, rv a6] [.long q1, .ref a1])) rfl rfl (hb hby d7_6)
  refine gb st2 ?_
  have F_position := F_position.same W2
  have E_a1 := E_a1.wr W2
  have F_rank := F_rank.other W2 (Or.inr (slot_ne (Or.inr (ow hw 41 rfl)) (Or.inr (ow hw 39 rfl)) (by decide) (t := .long) (t' := .long) (by decide) (by decide)))
  have F_member := F_member.other W2 (Or.inr (slot_ne (Or.inr (ow hw 51 rfl)) (Or.inr (ow hw 39 rfl)) (by decide) (t := (.object "java/lang/String")) (t' := .long) (by decide) (by decide)))
  have F_values := F_values.other W2 (Or.inr (slot_ne (Or.inr (ow hw 62 rfl)) (Or.inr (ow hw 39 rfl)) (by decide) (t := (.array .long)) (t' := .long) (by decide) (by decide)))
  have E_a5 := E_a5.wr W2
  have E_a6 := E_a6.wr W2
  have V_a6 := V_a6.other W2 ne_a6_a1
  have O := O.wr W2 g_a1
  have hk := Nat.le_trans hk (Keep.of_wr W2).1
  have K := K.wr W2 (Or.inl (List.mem_of_getElem? (i := 0) rfl))
  have N := Fr.snoc X2 N g_a1
  show G T2 (mkF m 9 #[rv a1, jv q1, .second, jv q2, .second, rv a5, rv a6] [])
  refine gb (fun _ k => XS.aloadN X2.here hx rfl (hb hby d7_9) rfl rfl (XS.lloadN X2.here hx rfl (hb hby d7_10) rfl k)) ?_
  show G T2 (mkF m 11 #[rv a1, jv q1, .second, jv q2, .second, rv a5, rv a6] [.long q2, .ref a1])
  obtain ⟨T3, h3, X3, e3, W3, st3⟩ := putF X2 hx hZ hown (host := "") (Or.inl (ow hw 40 rfl)) Via.refl e2 F_rank E_a1 (Or.inr ⟨(ow hw 41 rfl), rfl, hnm⟩) (ow hw 3 rfl) (ty := .long) (by decide) rfl rfl (g := (mkF m 11 #[rv a1, jv q1, .second, jv q2, .second, rv a5, rv a6] [.long q2, .ref a1])) rfl rfl (hb hby d7_11)
  refine gb st3 ?_
  have F_rank := F_rank.same W3
  have E_a1 := E_a1.wr W3
  have F_member := F_member.other W3 (Or.inr (slot_ne (Or.inr (ow hw 51 rfl)) (Or.inr (ow hw 41 rfl)) (by decide) (t := (.object "java/lang/String")) (t' := .long) (by decide) (by decide)))
  have F_values := F_values.other W3 (Or.inr (slot_ne (Or.inr (ow hw 62 rfl)) (Or.inr (ow hw 41 rfl)) (by decide) (t := (.array .long)) (t' := .long) (by decide) (by decide)))
  have E_a5 := E_a5.wr W3
  have E_a6 := E_a6.wr W3
  have V_a6 := V_a6.other W3 ne_a6_a1
  have F_position := F_position.other W3 (Or.inr (slot_ne (Or.inr (ow hw 39 rfl)) (Or.inr (ow hw 41 rfl)) (by decide) (t := .long) (t' := .long) (by decide) (by decide)))
  have O := O.wr W3 g_a1
  have hk := Nat.le_trans hk (Keep.of_wr W3).1
  have K := K.wr W3 (Or.inl (List.mem_of_getElem? (i := 0) rfl))
  have N := Fr.snoc X3 N g_a1
  show G T3 (mkF m 14 #[rv a1, jv q1, .second, jv q2, .second, rv a5, rv a6] [])
  refine gb (fun _ k => XS.aloadN X3.here hx rfl (hb hby d7_14) rfl rfl (XS.aload X3.here hx rfl (hb hby d7_15) rfl rfl k)) ?_
  show G T3 (mkF m 17 #[rv a1, jv q1, .second, jv q2, .second, rv a5, rv a6] [.ref a5, .ref a1])
  obtain ⟨b4, T4, h4, kn4, X4, e4, E4, hS, hk4, hZ, hown, st4⟩ := ldcS X3 hx hZ hown (ow hw 42 rfl) (own_wS hw) e3 hS hk (g := (mkF m 17 #[rv a1, jv q1, .second, jv q2, .second, rv a5, rv a6] [.ref a5, .ref a1])) rfl (hb hby d7_17) (n := 24) (by decide) (by decide) (by decide) (by decide)
  have E_a1 := E_a1.ext E4
  have F_member := F_member.ext E4
  have F_values := F_values.ext E4
  have E_a5 := E_a5.ext E4
  have E_a6 := E_a6.ext E4
  have V_a6 := V_a6.ext E4
  have F_position := F_position.ext E4
  have F_rank := F_rank.ext E4
  have O := O.ext E4
  have hk := Nat.le_trans hk E4.1
  have K := K.ext E4
  have hk := hk4
  refine gb st4 ?_
  show G T4 (mkF m 19 #[rv a1, jv q1, .second, jv q2, .second, rv a5, rv a6] [.ref b4, .ref a5, .ref a1])
  obtain ⟨_, _, ⟨T5, Lz5, kz5, nz5⟩, -, X5, ⟨Lc5, hQ5, lq5, yq5, zq5⟩, st5⟩ := Jvm.LawKit.callS X4 hx (y := (⟨"java/util/Objects", "requireNonNull", "(Ljava/lang/Object;Ljava/lang/String;)Ljava/lang/Object;"⟩ : MethodName)) hown (mvT hZ (ow hw 45 rfl)) (mvT hZ (ow hw 46 rfl)) (mvT hZ (ow hw 47 rfl)) (mvT hZ (ow hw 48 rfl)) (by decide) (backOf (W := 1) (rm8 l Z a0 hw [] a5 b4 h4 n0 O) hZ (ow hw 48 rfl) (ow hw 47 rfl) (by decide) (by decide)) (g := (mkF m 19 #[rv a1, jv q1, .second, jv q2, .second, rv a5, rv a6] [.ref b4, .ref a5, .ref a1])) rfl (by rw [hml]; rfl) (argsL := [(.ref a5), (.ref b4)]) (rest := [(.ref a1)]) (lenOf pd_4 rfl) rfl (by show 2 * 0 + _ ≤ _; exact Nat.le_of_eq rfl) (hb hby d7_19) (fun _ _ => ⟨rfl, e4, (by decide : 2 + 0 ≤ _), (by decide : 28 + 0 ≤ _)⟩)
  dsimp only [Pt.U, Pt.locs, Pt.cells, Pt.slots] at X5 lq5 yq5 zq5 st5 hQ5
  subst lq5 yq5 zq5
  obtain ⟨rfl, rfl, e5⟩ := hQ5
  try rw [List.append_nil] at X5
  refine gb st5 ?_
  show G T5 (mkF m 22 #[rv a1, jv q1, .second, jv q2, .second, rv a5, rv a6] [.ref a5, .ref a1])
  obtain ⟨T6, X6, e6, st6⟩ := castY X5 hx hZ hown (ow hw 49 rfl) e5 (Ins.self E_a5) (g := (mkF m 22 #[rv a1, jv q1, .second, jv q2, .second, rv a5, rv a6] [.ref a5, .ref a1])) rfl rfl (hb hby d7_22)
  refine gb st6 ?_
  show G T6 (mkF m 25 #[rv a1, jv q1, .second, jv q2, .second, rv a5, rv a6] [.ref a5, .ref a1])
  obtain ⟨T7, h7, X7, e7, W7, st7⟩ := putF X6 hx hZ hown (host := "") (Or.inl (ow hw 50 rfl)) Via.refl e6 F_member E_a1 (Or.inr ⟨(ow hw 51 rfl), rfl, hnm⟩) (ow hw 3 rfl) (ty := (.object "java/lang/String")) (by decide) rfl rfl (g := (mkF m 25 #[rv a1, jv q1, .second, jv q2, .second, rv a5, rv a6] [.ref a5, .ref a1])) rfl rfl (hb hby d7_25)
  refine gb st7 ?_
  have F_member := F_member.same W7
  have E_a1 := E_a1.wr W7
  have F_values := F_values.other W7 (Or.inr (slot_ne (Or.inr (ow hw 62 rfl)) (Or.inr (ow hw 51 rfl)) (by decide) (t := (.array .long)) (t' := (.object "java/lang/String")) (by decide) (by decide)))
  have E_a5 := E_a5.wr W7
  have E_a6 := E_a6.wr W7
  have V_a6 := V_a6.other W7 ne_a6_a1
  have F_position := F_position.other W7 (Or.inr (slot_ne (Or.inr (ow hw 39 rfl)) (Or.inr (ow hw 51 rfl)) (by decide) (t := .long) (t' := (.object "java/lang/String")) (by decide) (by decide)))
  have F_rank := F_rank.other W7 (Or.inr (slot_ne (Or.inr (ow hw 41 rfl)) (Or.inr (ow hw 51 rfl)) (by decide) (t := .long) (t' := (.object "java/lang/String")) (by decide) (by decide)))
  have O := O.wr W7 g_a1
  have hk := Nat.le_trans hk (Keep.of_wr W7).1
  have K := K.wr W7 (Or.inl (List.mem_of_getElem? (i := 0) rfl))
  have N := Fr.snoc X7 N g_a1
  show G T7 (mkF m 28 #[rv a1, jv q1, .second, jv q2, .second, rv a5, rv a6] [])
  refine gb (fun _ k => XS.aloadN X7.here hx rfl (hb hby d7_28) rfl rfl (XS.aload X7.here hx rfl (hb hby d7_29) rfl rfl k)) ?_
  show G T7 (mkF m 31 #[rv a1, jv q1, .second, jv q2, .second, rv a5, rv a6] [.ref a6, .ref a1])
  obtain ⟨T8, h8, X8, e8, E8, A8, P8, st8⟩ := cloneH X7 hx hZ hown (ow hw 52 rfl) (ow hw 53 rfl) (ow hw 57 rfl) (ow hw 55 rfl) (ow hw 56 rfl) (ow hw 58 rfl) e7 (V_a6.arh) E_a6 (g := (mkF m 31 #[rv a1, jv q1, .second, jv q2, .second, rv a5, rv a6] [.ref a6, .ref a1])) rfl (by rw [hml]; rfl) rfl (hb hby d7_31) (by decide) (W := 1) (by show 2 * 0 + _ ≤ _; exact Nat.le_of_eq rfl) (by decide) (cap := 1) (by decide) (by decide) (by decide)
  obtain ⟨b8, g8⟩ : ∃ z, z = h7.size := ⟨_, rfl⟩
  rw [← g8] at A8 P8 st8
  have g_b8 : n0 ≤ b8 := Nat.le_trans (by have := O.2.1; rw [O.1] at this; exact this) (Nat.le_of_eq g8.symm)
  have sz_b8 : h0.size ≤ b8 := Nat.le_trans K.1 (Nat.le_of_eq g8.symm)
  have ne_a1_b8 : a1 ≠ b8 := Nat.ne_of_lt (Nat.lt_of_lt_of_le E_a1.lt (Nat.le_of_eq g8.symm))
  have ne_a5_b8 : a5 ≠ b8 := Nat.ne_of_lt (Nat.lt_of_lt_of_le E_a5.lt (Nat.le_of_eq g8.symm))
  have ne_a6_b8 : a6 ≠ b8 := Nat.ne_of_lt (Nat.lt_of_lt_of_le E_a6.lt (Nat.le_of_eq g8.symm))
  have E_a1 := E_a1.ext E8
  have F_values := F_values.ext E8
  have E_a5 := E_a5.ext E8
  have E_a6 := E_a6.ext E8
  have V_a6 := V_a6.ext E8
  have F_position := F_position.ext E8
  have F_rank := F_rank.ext E8
  have F_member := F_member.ext E8
  have O := O.ext E8
  have hk := Nat.le_trans hk E8.1
  have K := K.ext E8
  have V_b8 : Arv Z h8 b8 k6 .long (1 : Int32) [(.long q3)] (.long (0 : Int64)) := A8
  have E_b8 := P8
  refine gb st8 ?_
  show G T8 (mkF m 34 #[rv a1, jv q1, .second, jv q2, .second, rv a5, rv a6] [.ref b8, .ref a1])
  obtain ⟨T9, X9, e9, st9⟩ := castY X8 hx hZ hown (ow hw 59 rfl) e8 (Ins.self E_b8) (g := (mkF m 34 #[rv a1, jv q1, .second, jv q2, .second, rv a5, rv a6] [.ref b8, .ref a1])) rfl rfl (hb hby d7_34)
  refine gb st9 ?_
  show G T9 (mkF m 37 #[rv a1, jv q1, .second, jv q2, .second, rv a5, rv a6] [.ref b8, .ref a1])
  obtain ⟨T10, h10, X10, e10, W10, st10⟩ := putF X9 hx hZ hown (host := "") (Or.inl (ow hw 61 rfl)) Via.refl e9 F_values E_a1 (Or.inr ⟨(ow hw 62 rfl), rfl, hnm⟩) (ow hw 3 rfl) (ty := (.array .long)) (by decide) rfl rfl (g := (mkF m 37 #[rv a1, jv q1, .second, jv q2, .second, rv a5, rv a6] [.ref b8, .ref a1])) rfl rfl (hb hby d7_37)
  refine gb st10 ?_
  have F_values := F_values.same W10
  have E_a1 := E_a1.wr W10
  have E_a5 := E_a5.wr W10
  have E_a6 := E_a6.wr W10
  have V_a6 := V_a6.other W10 ne_a6_a1
  have F_position := F_position.other W10 (Or.inr (slot_ne (Or.inr (ow hw 39 rfl)) (Or.inr (ow hw 62 rfl)) (by decide) (t := .long) (t' := (.array .long)) (by decide) (by decide)))
  have F_rank := F_rank.other W10 (Or.inr (slot_ne (Or.inr (ow hw 41 rfl)) (Or.inr (ow hw 62 rfl)) (by decide) (t := .long) (t' := (.array .long)) (by decide) (by decide)))
  have F_member := F_member.other W10 (Or.inr (slot_ne (Or.inr (ow hw 51 rfl)) (Or.inr (ow hw 62 rfl)) (by decide) (t := (.object "java/lang/String")) (t' := (.array .long)) (by decide) (by decide)))
  have E_b8 := E_b8.wr W10
  have V_b8 := V_b8.other W10 (Ne.symm ne_a1_b8)
  have O := O.wr W10 g_a1
  have hk := Nat.le_trans hk (Keep.of_wr W10).1
  have K := K.wr W10 (Or.inl (List.mem_of_getElem? (i := 0) rfl))
  have N := Fr.snoc X10 N g_a1
  show G T10 (mkF m 40 #[rv a1, jv q1, .second, jv q2, .second, rv a5, rv a6] [])
  exact go X10 hS (by rw [e10]; exact hk) (v := none) (fun _ => rfl) (fun fs hr => X10.returnOut hx Bd.returns (hb hby d7_40) hr) (by rw [e10]; exact ⟨_, rfl, N, K, E_a1, F_values, g_b8, sz_b8, E_b8, V_b8⟩) (by decide) (by decide)
def Q_rm9 (Z : State) (a1 a6 : Addr) (k6 : ClassId) (q3 : Int64) (h0 : Heap) (n0 : Nat) : Option Value → Heap → List Loc → Prop := fun v h L => v = some (.long q3) ∧ L = [] ∧ h = h0
set_option maxRecDepth 65536 in
set_option maxHeartbeats 40000000 in
theorem rm9 (l : Launch) (Z : State) (a0 : Array Value) (hw : ∀ d ∈ tables_1, d.before a0 Z = true) (ws : List Jvm.Cond) (a1 a6 : Addr) (k6 : ClassId) (q3 : Int64) (h0 : Heap) (n0 : Nat) (O : Old Z n0 h0) (F_values : Fld Z h0 a1 "com/example/rhadamanthus/rhadamanthus/board/Entry" "values" "[J" (.ref a6)) (V_a6 : Arv Z h0 a6 k6 .long (1 : Int32) [(.long q3)] (.long (0 : Int64))) :
    MetFree l (⟨"com/example/rhadamanthus/rhadamanthus/board/Entry", "getPoints", "()J"⟩ : MethodName) (head1 (Jvm.Cond.code (⟨"com/example/rhadamanthus/rhadamanthus/board/Entry", "getPoints", "()J"⟩ : MethodName) prog_1_method_7_code 1 (some .long) :: ws) ({ frames := 0, cells := 0, slots := 0, locals := 0 } : Room)) (fun a U => a = #[(.ref a1)] ∧ Z.Warmed39 U.vm ∧ U.heap = h0) (fun _ _ _ _ _ => True) (fun _ U o U' => ∃ v L, o = .returned v ∧ (Q_rm9 Z a1 a6 k6 q3 h0 n0) v U'.heap L ∧ FrameEnd U o U' L ({ frames := 0, cells := 0, slots := 0, locals := 0 } : Room).cells ({ frames := 0, cells := 0, slots := 0, locals := 0 } : Room).slots) := by
  refine MetFree.of_bodySF (plainFor_of_name pn_3) hisR ?_
  intro p e s m args below meth c s₁ Bd hml0 hP hK
  obtain ⟨rfl, hZ, hh⟩ := hP
  have hx := Bd.exec
  have hby := Bd.bytes
  have hml : c.maxLocals = 1 := hml0
  have hown : s.vm.findClass "com/example/rhadamanthus/rhadamanthus/board/Entry" = some m.cls := findClass_of_methodNamed Bd.named
  have hnm := (name_of_methodNamed Bd.named Bd.method).1
  have hlk := BodyLoose.notSynchronized Bd
  have X0 : Stand p l e ({ frames := 0, cells := 0, slots := 0, locals := 0 } : Room) s m #[(.ref a1)] below meth c s₁ [] 0 0 := Stand.of_body Bd
  have e0 : s₁.heap = h0 := by rw [← hh, Bd.state]; rfl
  have N := Fr.nil n0
  obtain ⟨G, hG⟩ : ∃ G : State → JFrame → Prop, G = OwnG p e below s ({ frames := 0, cells := 0, slots := 0, locals := 0 } : Room).cells ({ frames := 0, cells := 0, slots := 0, locals := 0 } : Room).slots (Q_rm9 Z a1 a6 k6 q3 h0 n0) := ⟨_, rfl⟩
  have gb : ∀ {T T' : State} {g g' : JFrame}, (∀ t, Steps p.tables e below (T'.setTop g') t → Steps p.tables e below (T.setTop g) t) → G T' g' → G T g := by subst hG; exact fun k h => own_by k h
  have go : ∀ {T : State} {locs : List Loc} {cells slots : Nat} {g : JFrame} {v : Option Value}, Stand p l e ({ frames := 0, cells := 0, slots := 0, locals := 0 } : Room) s m #[(.ref a1)] below meth c T locs cells slots → (meth.sig.returnType = none → v = none) → (∀ fs, (∀ (f : JFrame) (acts : List Action), f.method = m → f.locked = none → f.entered = [] → (doReturn e (T.setTop f) acts v).1 = T.setFrames fs) → Steps p.tables e below (T.setTop g) (T.setFrames fs)) → (Q_rm9 Z a1 a6 k6 q3 h0 n0) v T.heap locs → cells ≤ ({ frames := 0, cells := 0, slots := 0, locals := 0 } : Room).cells → slots ≤ ({ frames := 0, cells := 0, slots := 0, locals := 0 } : Room).slots → G T g := by subst hG; exact fun X h1 h2 h3 h4 h5 => own_out X hlk h1 h2 h3 h4 h5
  show OwnG p e below s ({ frames := 0, cells := 0, slots := 0, locals := 0 } : Room).cells ({ frames := 0, cells := 0, slots := 0, locals := 0 } : Room).slots (Q_rm9 Z a1 a6 k6 q3 h0 n0) s₁ (entryFrame m #[(.ref a1)] 1)
  rw [← hG, ef_rm9 m a1]
  clear hG
  show G s₁ (mkF m 0 #[.val (.ref a1)] [])
  refine gb (fun _ k => XS.aloadN X0.here hx rfl (hb hby d9_0) rfl rfl k) ?_
  show G s₁ (mkF m 1 #[rv a1] [.ref a1])
  obtain ⟨T1, X1, e1, st1⟩ := getF X0 hx hZ hown (host := "") (Or.inl (ow hw 61 rfl)) Via.refl e0 F_values (g := (mkF m 1 #[rv a1] [.ref a1])) rfl rfl (hb hby d9_1)
  refine gb st1 ?_
  show G T1 (mkF m 4 #[rv a1] [.ref a6])
  have V'2 := V_a6
  obtain ⟨cl2, Ar2, qk2, sz2, nn2, hs2, ft2⟩ := V'2
  refine gb (X1.arraylength hx (by rw [e1]; exact Ar2.1) (State.isArrayOf_alike hZ.alike Ar2.2.1) (g := (mkF m 4 #[rv a1] [.ref a6])) rfl rfl (hb hby d9_4)) ?_
  rw [len_of sz2 nn2]
  show G T1 (mkF m 5 #[rv a1] [.int 1])
  refine gb (fun _ k => XS.iconst X1.here hx rfl (hb hby d9_5) (XS.icmpYes X1.here hx rfl (pc0 := 6) (pc' := 41) rfl (hb hby d9_6) rfl (teq (by decide : (1 : Int32) = (1 : Int32))).1 (by decide) (by decide) (XS.aloadN X1.here hx rfl (hb hby d9_41) rfl rfl k))) ?_
  show G T1 (mkF m 42 #[rv a1] [.ref a1])
  obtain ⟨T3, X3, e3, st3⟩ := getF X1 hx hZ hown (host := "") (Or.inl (ow hw 61 rfl)) Via.refl e1 F_values (g := (mkF m 42 #[rv a1] [.ref a1])) rfl rfl (hb hby d9_42)
  refine gb st3 ?_
  show G T3 (mkF m 45 #[rv a1] [.ref a6])
  refine gb (fun _ k => XS.iconst X3.here hx rfl (hb hby d9_45) k) ?_
  show G T3 (mkF m 46 #[rv a1] [.int 0, .ref a6])
  have V'4 := V_a6
  obtain ⟨cl4, Ar4, qk4, sz4, nn4, hs4, ft4⟩ := V'4
  have hin4 : ¬ ((0 : Int32) < 0 ∨ cl4.slots.size ≤ ((0 : Int32)).toNatClampNeg) := inb_of sz4 ⟨by decide, by decide⟩
  have hat4 : cl4.slots[((0 : Int32)).toNatClampNeg]? = some (.long q3) := hs4.at hin4 rfl
  refine gb (X3.laload hx (j := (0 : Int32)) (v := (.long q3)) (by rw [e3]; exact Ar4.1) (State.isArrayOf_alike hZ.alike Ar4.2.1) Ar4.2.2 hin4 hat4 (g := (mkF m 46 #[rv a1] [.int 0, .ref a6])) rfl rfl (hb hby d9_46)) ?_
  show G T3 (mkF m 47 #[rv a1] [.long q3])
  exact go X3 (v := (some (.long q3))) (fun h => by rw [Bd.returns] at h; cases h) (fun fs hr => retOut X3 hx Bd.returns rfl (Or.inr (Or.inl ⟨rfl, rfl, _, rfl⟩)) (hb hby d9_47) hr) (⟨rfl, rfl, e3⟩) (by decide) (by decide)
def Q_rm10 (Z : State) (a1 a6 : Addr) (k6 : ClassId) (q3 : Int64) (h0 : Heap) (n0 : Nat) : Option Value → Heap → List Loc → Prop := fun v h L => ∃ (b : Addr), v = some (.ref b) ∧ Fr n0 L ∧ Keep h0 h [] ∧ n0 ≤ b ∧ h0.size ≤ b ∧ Arv Z h b k6 .long (1 : Int32) [(.long q3)] (.long (0 : Int64))
set_option maxRecDepth 65536 in
set_option maxHeartbeats 40000000 in
theorem rm10 (l : Launch) (Z : State) (a0 : Array Value) (hw : ∀ d ∈ tables_1, d.before a0 Z = true) (ws : List Jvm.Cond) (a1 a6 : Addr) (k6 : ClassId) (q3 : Int64) (h0 : Heap) (n0 : Nat) (O : Old Z n0 h0) (F_values : Fld Z h0 a1 "com/example/rhadamanthus/rhadamanthus/board/Entry" "values" "[J" (.ref a6)) (E_a6 : Exa Z h0 a6 "[J") (V_a6 : Arv Z h0 a6 k6 .long (1 : Int32) [(.long q3)] (.long (0 : Int64))) :
    MetFree l (⟨"com/example/rhadamanthus/rhadamanthus/board/Entry", "getValues", "()[J"⟩ : MethodName) (head1 (Jvm.Cond.code (⟨"com/example/rhadamanthus/rhadamanthus/board/Entry", "getValues", "()[J"⟩ : MethodName) prog_1_method_6_code 1 (some (.array .long)) :: ws) ({ frames := 1, cells := 1, slots := 1, locals := 14 } : Room)) (fun a U => a = #[(.ref a1)] ∧ Z.Warmed39 U.vm ∧ U.heap = h0) (fun _ _ _ _ _ => True) (fun _ U o U' => ∃ v L, o = .returned v ∧ (Q_rm10 Z a1 a6 k6 q3 h0 n0) v U'.heap L ∧ FrameEnd U o U' L ({ frames := 1, cells := 1, slots := 1, locals := 14 } : Room).cells ({ frames := 1, cells := 1, slots := 1, locals := 14 } : Room).slots) := by
  refine MetFree.of_bodySF (plainFor_of_name pn_3) hisR ?_
  intro p e s m args below meth c s₁ Bd hml0 hP hK
  obtain ⟨rfl, hZ, hh⟩ := hP
  have hx := Bd.exec
  have hby := Bd.bytes
  have hml : c.maxLocals = 1 := hml0
  have hown : s.vm.findClass "com/example/rhadamanthus/rhadamanthus/board/Entry" = some m.cls := findClass_of_methodNamed Bd.named
  have hnm := (name_of_methodNamed Bd.named Bd.method).1
  have hlk := BodyLoose.notSynchronized Bd
  have X0 : Stand p l e ({ frames := 1, cells := 1, slots := 1, locals := 14 } : Room) s m #[(.ref a1)] below meth c s₁ [] 0 0 := Stand.of_body Bd
  have e0 : s₁.heap = h0 := by rw [← hh, Bd.state]; rfl
  have N := Fr.nil n0
  have K := Keep.refl h0 []
  obtain ⟨G, hG⟩ : ∃ G : State → JFrame → Prop, G = OwnG p e below s ({ frames := 1, cells := 1, slots := 1, locals := 14 } : Room).cells ({ frames := 1, cells := 1, slots := 1, locals := 14 } : Room).slots (Q_rm10 Z a1 a6 k6 q3 h0 n0) := ⟨_, rfl⟩
  have gb : ∀ {T T' : State} {g g' : JFrame}, (∀ t, Steps p.tables e below (T'.setTop g') t → Steps p.tables e below (T.setTop g) t) → G T' g' → G T g := by subst hG; exact fun k h => own_by k h
  have go : ∀ {T : State} {locs : List Loc} {cells slots : Nat} {g : JFrame} {v : Option Value}, Stand p l e ({ frames := 1, cells := 1, slots := 1, locals := 14 } : Room) s m #[(.ref a1)] below meth c T locs cells slots → (meth.sig.returnType = none → v = none) → (∀ fs, (∀ (f : JFrame) (acts : List Action), f.method = m → f.locked = none → f.entered = [] → (doReturn e (T.setTop f) acts v).1 = T.setFrames fs) → Steps p.tables e below (T.setTop g) (T.setFrames fs)) → (Q_rm10 Z a1 a6 k6 q3 h0 n0) v T.heap locs → cells ≤ ({ frames := 1, cells := 1, slots := 1, locals := 14 } : Room).cells → slots ≤ ({ frames := 1, cells := 1, slots := 1, locals := 14 } : Room).slots → G T g := by subst hG; exact fun X h1 h2 h3 h4 h5 => own_out X hlk h1 h2 h3 h4 h5
  show OwnG p e below s ({ frames := 1, cells := 1, slots := 1, locals := 14 } : Room).cells ({ frames := 1, cells := 1, slots := 1, locals := 14 } : Room).slots (Q_rm10 Z a1 a6 k6 q3 h0 n0) s₁ (entryFrame m #[(.ref a1)] 1)
  rw [← hG, ef_rm10 m a1]
  clear hG
  show G s₁ (mkF m 0 #[.val (.ref a1)] [])
  refine gb (fun _ k => XS.aloadN X0.here hx rfl (hb hby d10_0) rfl rfl k) ?_
  show G s₁ (mkF m 1 #[rv a1] [.ref a1])
  obtain ⟨T1, X1, e1, st1⟩ := getF X0 hx hZ hown (host := "") (Or.inl (ow hw 61 rfl)) Via.refl e0 F_values (g := (mkF m 1 #[rv a1] [.ref a1])) rfl rfl (hb hby d10_1)
  refine gb st1 ?_
  show G T1 (mkF m 4 #[rv a1] [.ref a6])
  obtain ⟨T2, h2, X2, e2, E2, A2, P2, st2⟩ := cloneH X1 hx hZ hown (ow hw 52 rfl) (ow hw 53 rfl) (ow hw 57 rfl) (ow hw 55 rfl) (ow hw 56 rfl) (ow hw 58 rfl) e1 (V_a6.arh) E_a6 (g := (mkF m 4 #[rv a1] [.ref a6])) rfl (by rw [hml]; rfl) rfl (hb hby d10_4) (by decide) (W := 0) (by show 2 * 0 + _ ≤ _; exact Nat.le_of_eq rfl) (by decide) (cap := 1) (by decide) (by decide) (by decide)
  obtain ⟨b2, g2⟩ : ∃ z, z = h0.size := ⟨_, rfl⟩
  rw [← g2] at A2 P2 st2
  have g_b2 : n0 ≤ b2 := Nat.le_trans (by have := O.2.1; rw [O.1] at this; exact this) (Nat.le_of_eq g2.symm)
  have sz_b2 : h0.size ≤ b2 := Nat.le_trans K.1 (Nat.le_of_eq g2.symm)
  have ne_a1_b2 : a1 ≠ b2 := Nat.ne_of_lt (Nat.lt_of_lt_of_le F_values.lt (Nat.le_of_eq g2.symm))
  have ne_a6_b2 : a6 ≠ b2 := Nat.ne_of_lt (Nat.lt_of_lt_of_le E_a6.lt (Nat.le_of_eq g2.symm))
  have F_values := F_values.ext E2
  have E_a6 := E_a6.ext E2
  have V_a6 := V_a6.ext E2
  have O := O.ext E2
  have K := K.ext E2
  have V_b2 : Arv Z h2 b2 k6 .long (1 : Int32) [(.long q3)] (.long (0 : Int64)) := A2
  have E_b2 := P2
  refine gb st2 ?_
  show G T2 (mkF m 7 #[rv a1] [.ref b2])
  obtain ⟨T3, X3, e3, st3⟩ := castY X2 hx hZ hown (ow hw 59 rfl) e2 (Ins.self E_b2) (g := (mkF m 7 #[rv a1] [.ref b2])) rfl rfl (hb hby d10_7)
  refine gb st3 ?_
  show G T3 (mkF m 10 #[rv a1] [.ref b2])
  exact go X3 (v := (some (.ref b2))) (fun h => by rw [Bd.returns] at h; cases h) (fun fs hr => retOut X3 hx Bd.returns rfl (Or.inr (Or.inr (Or.inr (Or.inr ⟨rfl, rfl, rfl⟩)))) (hb hby d10_10) hr) (by rw [e3]; exact ⟨_, rfl, N, K, g_b2, sz_b2, V_b2⟩) (by decide) (by decide)
def Q_rm0 (Z : State) (i0 i1 i2 i3 : Int64) (i4 : Int32) (h0 : Heap) (n0 : Nat) (zc : Int32) : Option Value → Heap → List Loc → Prop := fun v h L => v = some (.int 1) ∧ Fr n0 L
set_option maxRecDepth 65536 in
set_option maxHeartbeats 40000000 in
theorem rm0 (l : Launch) (Z : State) (a0 : Array Value) (hw : ∀ d ∈ tables_1, d.before a0 Z = true) (ws : List Jvm.Cond) (i0 i1 i2 i3 : Int64) (i4 : Int32) (h0 : Heap) (n0 : Nat) (O : Old Z n0 h0) (zc : Int32) (S_cs : Sta Z Z.heap "java/lang/String" "COMPACT_STRINGS" "Z" (.int zc)) (hzc : ¬ zc = (0 : Int32)) :
    MetFree l x (head1 (Jvm.Cond.code x code maxLocals ret :: ws) room_1) (fun a U => a = #[(.long i0), (.long i1), (.long i2), (.long i3), (.int i4)] ∧ Z.Warmed39 U.vm ∧ U.heap = h0 ∧ U = Z) (fun _ _ _ _ _ => True) (fun _ U o U' => ∃ v L, o = .returned v ∧ (Q_rm0 Z i0 i1 i2 i3 i4 h0 n0 zc) v U'.heap L ∧ ReturnedEndW U o U' L 9 43) := by
  refine MetFree.of_bodySF (plainFor_of_name pn_4) hisR ?_
  intro p e s m args below meth c s₁ Bd hml0 hP hK
  obtain ⟨rfl, hZ, hh, hUZ⟩ := hP
  have hx := Bd.exec
  have hby := Bd.bytes
  have hml : c.maxLocals = 17 := hml0
  have hown : s.vm.findClass "com/example/rhadamanthus/rhadamanthus/board/EntryGetPointsPinLaw" = some m.cls := findClass_of_methodNamed Bd.named
  have hnm := (name_of_methodNamed Bd.named Bd.method).1
  have hlk := BodyLoose.notSynchronized Bd
  have X0 : Stand p l e room_1 (s.setVm s.vm) m #[(.long i0), (.long i1), (.long i2), (.long i3), (.int i4)] below meth c s₁ [] 0 0 := Stand.of_body Bd
  have e0 : s₁.heap = h0 := by rw [← hh, Bd.state]; rfl
  have N := Fr.nil n0
  have O0 := O
  have hS : s.Since s.vm h0.size := (State.WarmedH.refl s).since _
  have hk := Nat.le_refl h0.size
  obtain ⟨G, hG⟩ : ∃ G : State → JFrame → Prop, G = OwnGW p e below s 9 43 (Q_rm0 Z i0 i1 i2 i3 i4 h0 n0 zc) := ⟨_, rfl⟩
  have gb : ∀ {T T' : State} {g g' : JFrame}, (∀ t, Steps p.tables e below (T'.setTop g') t → Steps p.tables e below (T.setTop g) t) → G T' g' → G T g := by subst hG; exact fun k h => own_byW k h
  have go : ∀ {T : State} {locs : List Loc} {cells slots : Nat} {g : JFrame} {v : Option Value} {vm : Vm} {k : Nat}, Stand p l e room_1 (s.setVm vm) m #[(.long i0), (.long i1), (.long i2), (.long i3), (.int i4)] below meth c T locs cells slots → s.Since vm k → k ≤ T.heap.size → (meth.sig.returnType = none → v = none) → (∀ fs, (∀ (f : JFrame) (acts : List Action), f.method = m → f.locked = none → f.entered = [] → (doReturn e (T.setTop f) acts v).1 = T.setFrames fs) → Steps p.tables e below (T.setTop g) (T.setFrames fs)) → (Q_rm0 Z i0 i1 i2 i3 i4 h0 n0 zc) v T.heap locs → cells ≤ 9 → slots ≤ 43 → G T g := by subst hG; exact fun X a b h1 h2 h3 h4 h5 => own_outW X a b hlk h1 h2 h3 h4 h5
  show OwnGW p e below s 9 43 (Q_rm0 Z i0 i1 i2 i3 i4 h0 n0 zc) s₁ (entryFrame m #[(.long i0), (.long i1), (.long i2), (.long i3), (.int i4)] maxLocals)
  rw [← hG, ef_rm0 m i0 i1 i2 i3 i4]
  clear hG
  show G s₁ (mkF m 0 #[.val (.long i0), .second, .val (.long i1), .second, .val (.long i2), .second, .val (.long i3), .second, .val (.int i4), .unset, .unset, .unset, .unset, .unset, .unset, .unset, .unset] [])
  refine gb (fun _ k => XS.iconst X0.here hx rfl (hb hby at_0) k) ?_
  show G s₁ (mkF m 1 #[jv i0, .second, jv i1, .second, jv i2, .second, jv i3, .second, iv i4, .unset, .unset, .unset, .unset, .unset, .unset, .unset, .unset] [.int 1])
  obtain ⟨T1, h1, kA1, X1, e1, E1, A1, P1, st1⟩ := newPE X0 hx hZ (ow hw 0 rfl) e0 (g := (mkF m 1 #[jv i0, .second, jv i1, .second, jv i2, .second, jv i3, .second, iv i4, .unset, .unset, .unset, .unset, .unset, .unset, .unset, .unset] [.int 1])) rfl (hb hby at_1) rfl (by decide) (cap := 1) (by decide) (by decide) (by decide) (by decide) (ad := "[J") (by decide)
  obtain ⟨b1, g1⟩ : ∃ z, z = h0.size := ⟨_, rfl⟩
  rw [← g1] at A1 P1 st1
  have g_b1 : n0 ≤ b1 := Nat.le_trans (by have := O.2.1; rw [O.1] at this; exact this) (Nat.le_of_eq g1.symm)
  have O := O.ext E1
  have hk := Nat.le_trans hk E1.1
  have E_b1 := P1
  have V_b1 : Arv Z h1 b1 kA1 .long (1 : Int32) [(.long (0 : Int64))] (.long (0 : Int64)) := (Arv.new A1 (by decide)).pad (pad_rep [] (.long (0 : Int64)) 1)
  refine gb st1 ?_
  show G T1 (mkF m 3 #[jv i0, .second, jv i1, .second, jv i2, .second, jv i3, .second, iv i4, .unset, .unset, .unset, .unset, .unset, .unset, .unset, .unset] [.ref b1])
  refine gb (fun _ k => XS.astore X1.here hx rfl (hb hby at_3) rfl rfl (l' := #[jv i0, .second, jv i1, .second, jv i2, .second, jv i3, .second, iv i4, rv b1, .unset, .unset, .unset, .unset, .unset, .unset, .unset]) rfl (XS.aload X1.here hx rfl (hb hby at_5) rfl rfl (XS.iconst X1.here hx rfl (hb hby at_7) (XS.lload X1.here hx rfl (hb hby at_8) rfl k)))) ?_
  show G T1 (mkF m 10 #[jv i0, .second, jv i1, .second, jv i2, .second, jv i3, .second, iv i4, rv b1, .unset, .unset, .unset, .unset, .unset, .unset, .unset] [.long i2, .int 0, .ref b1])
  have V'2 := V_b1
  obtain ⟨cl2, Ar2, qk2, sz2, nn2, hs2, ft2⟩ := V'2
  have hin2 : ¬ ((0 : Int32) < 0 ∨ cl2.slots.size ≤ ((0 : Int32)).toNatClampNeg) := inb_of sz2 ⟨by decide, by decide⟩
  obtain ⟨T3, h3, X3, e3, W3, st3⟩ := stJ X1 hx hZ e1 Ar2 (j := (0 : Int32)) hin2 (g := (mkF m 10 #[jv i0, .second, jv i1, .second, jv i2, .second, jv i3, .second, iv i4, rv b1, .unset, .unset, .unset, .unset, .unset, .unset, .unset] [.long i2, .int 0, .ref b1])) rfl rfl (hb hby at_10)
  have V_b1 : Arv Z h3 b1 kA1 .long (1 : Int32) [(.long i2)] (.long (0 : Int64)) := Arv.set Ar2 qk2 sz2 nn2 hs2 ft2 rfl W3 0 rfl (Nat.le_of_ble_eq_true rfl)
  have E_b1 := E_b1.wr W3
  have O := O.wr W3 g_b1
  have hk := Nat.le_trans hk (Keep.of_wr W3).1
  have N := Fr.snoc X3 N g_b1
  refine gb st3 ?_
  show G T3 (mkF m 11 #[jv i0, .second, jv i1, .second, jv i2, .second, jv i3, .second, iv i4, rv b1, .unset, .unset, .unset, .unset, .unset, .unset, .unset] [])
  refine gb (fun _ k => XS.iconst X3.here hx rfl (hb hby at_11) k) ?_
  show G T3 (mkF m 12 #[jv i0, .second, jv i1, .second, jv i2, .second, jv i3, .second, iv i4, rv b1, .unset, .unset, .unset, .unset, .unset, .unset, .unset] [.int 2])
  obtain ⟨T4, h4, kA4, X4, e4, E4, A4, P4, st4⟩ := newPE X3 hx hZ (ow hw 1 rfl) e3 (g := (mkF m 12 #[jv i0, .second, jv i1, .second, jv i2, .second, jv i3, .second, iv i4, rv b1, .unset, .unset, .unset, .unset, .unset, .unset, .unset] [.int 2])) rfl (hb hby at_12) rfl (by decide) (cap := 2) (by decide) (by decide) (by decide) (by decide) (ad := "[C") (by decide)
  obtain ⟨b4, g4⟩ : ∃ z, z = h3.size := ⟨_, rfl⟩
  rw [← g4] at A4 P4 st4
  have g_b4 : n0 ≤ b4 := Nat.le_trans (by have := O.2.1; rw [O.1] at this; exact this) (Nat.le_of_eq g4.symm)
  have ne_b1_b4 : b1 ≠ b4 := Nat.ne_of_lt (Nat.lt_of_lt_of_le E_b1.lt (Nat.le_of_eq g4.symm))
  have E_b1 := E_b1.ext E4
  have V_b1 := V_b1.ext E4
  have O := O.ext E4
  have hk := Nat.le_trans hk E4.1
  have E_b4 := P4
  have V_b4 : Arv Z h4 b4 kA4 .char (2 : Int32) [(.int (0 : Int32)), (.int (0 : Int32))] (.int (0 : Int32)) := (Arv.new A4 (by decide)).pad (pad_rep [] (.int (0 : Int32)) 2)
  refine gb st4 ?_
  show G T4 (mkF m 14 #[jv i0, .second, jv i1, .second, jv i2, .second, jv i3, .second, iv i4, rv b1, .unset, .unset, .unset, .unset, .unset, .unset, .unset] [.ref b4])
  refine gb (fun _ k => XS.astore X4.here hx rfl (hb hby at_14) rfl rfl (l' := #[jv i0, .second, jv i1, .second, jv i2, .second, jv i3, .second, iv i4, rv b1, rv b4, .unset, .unset, .unset, .unset, .unset, .unset]) rfl (XS.aload X4.here hx rfl (hb hby at_16) rfl rfl (XS.iconst X4.here hx rfl (hb hby at_18) (XS.iload X4.here hx rfl (hb hby at_19) rfl (XS.sipush X4.here hx rfl (hb hby at_21) (XS.iand X4.here hx rfl (hb hby at_24) rfl k)))))) ?_
  show G T4 (mkF m 25 #[jv i0, .second, jv i1, .second, jv i2, .second, jv i3, .second, iv i4, rv b1, rv b4, .unset, .unset, .unset, .unset, .unset, .unset] [.int (i4 &&& (255 : Int32)), .int 0, .ref b4])
  refine gb (fun _ k => XS.i2c X4.here hx rfl (hb hby at_25) rfl k) ?_
  show G T4 (mkF m 26 #[jv i0, .second, jv i1, .second, jv i2, .second, jv i3, .second, iv i4, rv b1, rv b4, .unset, .unset, .unset, .unset, .unset, .unset] [.int ((i4 &&& (255 : Int32)).toUInt32.toUInt16.toUInt32.toInt32), .int 0, .ref b4])
  rw [own_c8]
  show G T4 (mkF m 26 #[jv i0, .second, jv i1, .second, jv i2, .second, jv i3, .second, iv i4, rv b1, rv b4, .unset, .unset, .unset, .unset, .unset, .unset] [.int (i4 &&& (255 : Int32)), .int 0, .ref b4])
  have V'5 := V_b4
  obtain ⟨cl5, Ar5, qk5, sz5, nn5, hs5, ft5⟩ := V'5
  have hin5 : ¬ ((0 : Int32) < 0 ∨ cl5.slots.size ≤ ((0 : Int32)).toNatClampNeg) := inb_of sz5 ⟨by decide, by decide⟩
  obtain ⟨T6, h6, X6, e6, W6, st6⟩ := stC X4 hx hZ e4 Ar5 (j := (0 : Int32)) hin5 (g := (mkF m 26 #[jv i0, .second, jv i1, .second, jv i2, .second, jv i3, .second, iv i4, rv b1, rv b4, .unset, .unset, .unset, .unset, .unset, .unset] [.int (i4 &&& (255 : Int32)), .int 0, .ref b4])) rfl rfl (hb hby at_26)
  have V_b4 : Arv Z h6 b4 kA4 .char (2 : Int32) [(.int (nar .char (i4 &&& (255 : Int32)))), (.int (0 : Int32))] (.int (0 : Int32)) := Arv.set Ar5 qk5 sz5 nn5 hs5 ft5 (fits_nar_char _) W6 0 rfl (Nat.le_of_ble_eq_true rfl)
  rw [own_n8] at V_b4
  have E_b1 := E_b1.wr W6
  have V_b1 := V_b1.other W6 ne_b1_b4
  have E_b4 := E_b4.wr W6
  have O := O.wr W6 g_b4
  have hk := Nat.le_trans hk (Keep.of_wr W6).1
  have N := Fr.snoc X6 N g_b4
  refine gb st6 ?_
  show G T6 (mkF m 27 #[jv i0, .second, jv i1, .second, jv i2, .second, jv i3, .second, iv i4, rv b1, rv b4, .unset, .unset, .unset, .unset, .unset, .unset] [])
  refine gb (fun _ k => XS.aload X6.here hx rfl (hb hby at_27) rfl rfl (XS.iconst X6.here hx rfl (hb hby at_29) (XS.iload X6.here hx rfl (hb hby at_30) rfl (XS.bipush X6.here hx rfl (hb hby at_32) (XS.iushr X6.here hx rfl (hb hby at_34) rfl (XS.sipush X6.here hx rfl (hb hby at_35) k)))))) ?_
  show G T6 (mkF m 38 #[jv i0, .second, jv i1, .second, jv i2, .second, jv i3, .second, iv i4, rv b1, rv b4, .unset, .unset, .unset, .unset, .unset, .unset] [.int 255, .int ((i4.toUInt32 >>> ((8 : Int32) &&& 31).toUInt32).toInt32), .int 1, .ref b4])
  refine gb (fun _ k => XS.iand X6.here hx rfl (hb hby at_38) rfl (XS.i2c X6.here hx rfl (hb hby at_39) rfl k)) ?_
  show G T6 (mkF m 40 #[jv i0, .second, jv i1, .second, jv i2, .second, jv i3, .second, iv i4, rv b1, rv b4, .unset, .unset, .unset, .unset, .unset, .unset] [.int ((((i4.toUInt32 >>> ((8 : Int32) &&& 31).toUInt32).toInt32) &&& (255 : Int32)).toUInt32.toUInt16.toUInt32.toInt32), .int 1, .ref b4])
  rw [own_c8]
  show G T6 (mkF m 40 #[jv i0, .second, jv i1, .second, jv i2, .second, jv i3, .second, iv i4, rv b1, rv b4, .unset, .unset, .unset, .unset, .unset, .unset] [.int (((i4.toUInt32 >>> ((8 : Int32) &&& 31).toUInt32).toInt32) &&& (255 : Int32)), .int 1, .ref b4])
  have V'7 := V_b4
  obtain ⟨cl7, Ar7, qk7, sz7, nn7, hs7, ft7⟩ := V'7
  have hin7 : ¬ ((1 : Int32) < 0 ∨ cl7.slots.size ≤ ((1 : Int32)).toNatClampNeg) := inb_of sz7 ⟨by decide, by decide⟩
  obtain ⟨T8, h8, X8, e8, W8, st8⟩ := stC X6 hx hZ e6 Ar7 (j := (1 : Int32)) hin7 (g := (mkF m 40 #[jv i0, .second, jv i1, .second, jv i2, .second, jv i3, .second, iv i4, rv b1, rv b4, .unset, .unset, .unset, .unset, .unset, .unset] [.int (((i4.toUInt32 >>> ((8 : Int32) &&& 31).toUInt32).toInt32) &&& (255 : Int32)), .int 1, .ref b4])) rfl rfl (hb hby at_40)
  have V_b4 : Arv Z h8 b4 kA4 .char (2 : Int32) [(.int (i4 &&& (255 : Int32))), (.int (nar .char (((i4.toUInt32 >>> ((8 : Int32) &&& 31).toUInt32).toInt32) &&& (255 : Int32))))] (.int (0 : Int32)) := Arv.set Ar7 qk7 sz7 nn7 hs7 ft7 (fits_nar_char _) W8 1 rfl (Nat.le_of_ble_eq_true rfl)
  rw [own_n8] at V_b4
  have E_b1 := E_b1.wr W8
  have V_b1 := V_b1.other W8 ne_b1_b4
  have E_b4 := E_b4.wr W8
  have O := O.wr W8 g_b4
  have hk := Nat.le_trans hk (Keep.of_wr W8).1
  have N := Fr.snoc X8 N g_b4
  refine gb st8 ?_
  show G T8 (mkF m 41 #[jv i0, .second, jv i1, .second, jv i2, .second, jv i3, .second, iv i4, rv b1, rv b4, .unset, .unset, .unset, .unset, .unset, .unset] [])
  obtain ⟨T9, h9, X9, e9, E9, A9, D9, U9, st9⟩ := newO X8 hx hZ hown (ow hw 2 rfl) (ow hw 3 rfl) (ow hw 4 rfl) e8 (g := (mkF m 41 #[jv i0, .second, jv i1, .second, jv i2, .second, jv i3, .second, iv i4, rv b1, rv b4, .unset, .unset, .unset, .unset, .unset, .unset] [])) rfl (hb hby at_41) (by decide) (by decide)
  obtain ⟨b9, g9⟩ : ∃ z, z = h8.size := ⟨_, rfl⟩
  rw [← g9] at A9 D9 U9 st9
  have g_b9 : n0 ≤ b9 := Nat.le_trans (by have := O.2.1; rw [O.1] at this; exact this) (Nat.le_of_eq g9.symm)
  have ne_b1_b9 : b1 ≠ b9 := Nat.ne_of_lt (Nat.lt_of_lt_of_le E_b1.lt (Nat.le_of_eq g9.symm))
  have ne_b4_b9 : b4 ≠ b9 := Nat.ne_of_lt (Nat.lt_of_lt_of_le E_b4.lt (Nat.le_of_eq g9.symm))
  have E_b1 := E_b1.ext E9
  have V_b1 := V_b1.ext E9
  have E_b4 := E_b4.ext E9
  have V_b4 := V_b4.ext E9
  have O := O.ext E9
  have hk := Nat.le_trans hk E9.1
  have E_b9 := A9
  have F_position_b9 : Fld Z h9 b9 "com/example/rhadamanthus/rhadamanthus/board/Entry" "position" "J" (.long (0 : Int64)) := D9 (Or.inr (ow hw 39 rfl)) (ty := .long) (by decide)
  have F_rank_b9 : Fld Z h9 b9 "com/example/rhadamanthus/rhadamanthus/board/Entry" "rank" "J" (.long (0 : Int64)) := D9 (Or.inr (ow hw 41 rfl)) (ty := .long) (by decide)
  have F_member_b9 : Fld Z h9 b9 "com/example/rhadamanthus/rhadamanthus/board/Entry" "member" "Ljava/lang/String;" .null := D9 (Or.inr (ow hw 51 rfl)) (ty := (.object "java/lang/String")) (by decide)
  have F_values_b9 : Fld Z h9 b9 "com/example/rhadamanthus/rhadamanthus/board/Entry" "values" "[J" .null := D9 (Or.inr (ow hw 62 rfl)) (ty := (.array .long)) (by decide)
  refine gb st9 ?_
  show G T9 (mkF m 44 #[jv i0, .second, jv i1, .second, jv i2, .second, jv i3, .second, iv i4, rv b1, rv b4, .unset, .unset, .unset, .unset, .unset, .unset] [.ref b9])
  refine gb (fun _ k => XS.dup X9.here hx rfl (hb hby at_44) rfl rfl (XS.lloadN X9.here hx rfl (hb hby at_45) rfl (XS.lloadN X9.here hx rfl (hb hby at_46) rfl k))) ?_
  show G T9 (mkF m 47 #[jv i0, .second, jv i1, .second, jv i2, .second, jv i3, .second, iv i4, rv b1, rv b4, .unset, .unset, .unset, .unset, .unset, .unset] [.long i1, .long i0, .ref b9, .ref b9])
  obtain ⟨T10, h10, X10, e10, E10, A10, D10, U10, st10⟩ := newO X9 hx hZ hown (ow hw 5 rfl) (ow hw 6 rfl) (ow hw 7 rfl) e9 (g := (mkF m 47 #[jv i0, .second, jv i1, .second, jv i2, .second, jv i3, .second, iv i4, rv b1, rv b4, .unset, .unset, .unset, .unset, .unset, .unset] [.long i1, .long i0, .ref b9, .ref b9])) rfl (hb hby at_47) (by decide) (by decide)
  obtain ⟨b10, g10⟩ : ∃ z, z = h9.size := ⟨_, rfl⟩
  rw [← g10] at A10 D10 U10 st10
  have g_b10 : n0 ≤ b10 := Nat.le_trans (by have := O.2.1; rw [O.1] at this; exact this) (Nat.le_of_eq g10.symm)
  have ne_b1_b10 : b1 ≠ b10 := Nat.ne_of_lt (Nat.lt_of_lt_of_le E_b1.lt (Nat.le_of_eq g10.symm))
  have ne_b4_b10 : b4 ≠ b10 := Nat.ne_of_lt (Nat.lt_of_lt_of_le E_b4.lt (Nat.le_of_eq g10.symm))
  have ne_b9_b10 : b9 ≠ b10 := Nat.ne_of_lt (Nat.lt_of_lt_of_le E_b9.lt (Nat.le_of_eq g10.symm))
  have E_b1 := E_b1.ext E10
  have V_b1 := V_b1.ext E10
  have E_b4 := E_b4.ext E10
  have V_b4 := V_b4.ext E10
  have E_b9 := E_b9.ext E10
  have F_position_b9 := F_position_b9.ext E10
  have F_rank_b9 := F_rank_b9.ext E10
  have F_member_b9 := F_member_b9.ext E10
  have F_values_b9 := F_values_b9.ext E10
  have O := O.ext E10
  have hk := Nat.le_trans hk E10.1
  have E_b10 := A10
  have F_coder_b10 : Fld Z h10 b10 "java/lang/String" "coder" "B" (.int (0 : Int32)) := D10 (Or.inr (ow hw 31 rfl)) (ty := .byte) (by decide)
  have F_value_b10 : Fld Z h10 b10 "java/lang/String" "value" "[B" .null := D10 (Or.inr (ow hw 33 rfl)) (ty := (.array .byte)) (by decide)
  refine gb st10 ?_
  show G T10 (mkF m 50 #[jv i0, .second, jv i1, .second, jv i2, .second, jv i3, .second, iv i4, rv b1, rv b4, .unset, .unset, .unset, .unset, .unset, .unset] [.ref b10, .long i1, .long i0, .ref b9, .ref b9])
  refine gb (fun _ k => XS.dup X10.here hx rfl (hb hby at_50) rfl rfl (XS.aload X10.here hx rfl (hb hby at_51) rfl rfl k)) ?_
  show G T10 (mkF m 53 #[jv i0, .second, jv i1, .second, jv i2, .second, jv i3, .second, iv i4, rv b1, rv b4, .unset, .unset, .unset, .unset, .unset, .unset] [.ref b4, .ref b10, .ref b10, .long i1, .long i0, .ref b9, .ref b9])
  have lt_b1 := E_b1.lt
  have lt_b4 := E_b4.lt
  have lt_b9 := E_b9.lt
  have lt_b10 := E_b10.lt
  obtain ⟨_, _, ⟨T11, Lz11, kz11, nz11⟩, -, X11, ⟨Lc11, hQ11, lq11, yq11, zq11⟩, st11⟩ := X10.specialBack hx (y := (⟨"java/lang/String", "<init>", "([C)V"⟩ : MethodName)) rfl hown (mvT hZ (ow hw 8 rfl)) (mvT hZ (ow hw 9 rfl)) (mvT hZ (ow hw 10 rfl)) (by decide) (backOf (W := 7) (rmS1_2 l Z a0 hw [] b10 b4 kA4 (i4 &&& (255 : Int32)) (((i4.toUInt32 >>> ((8 : Int32) &&& 31).toUInt32).toInt32) &&& (255 : Int32)) h10 n0 O E_b10 F_coder_b10 F_value_b10 g_b10 V_b4 ne_b4_b10 (own_le255 _) (own_le255 _) zc S_cs hzc) hZ (ow hw 10 rfl) (ow hw 7 rfl) (by decide) (by decide)) (g := (mkF m 53 #[jv i0, .second, jv i1, .second, jv i2, .second, jv i3, .second, iv i4, rv b1, rv b4, .unset, .unset, .unset, .unset, .unset, .unset] [.ref b4, .ref b10, .ref b10, .long i1, .long i0, .ref b9, .ref b9])) rfl (by rw [hml]; rfl) (Steps.refl _) (a := b10) (argsL := [(.ref b4)]) (rest := [(.ref b10), (.long i1), (.long i0), (.ref b9), (.ref b9)]) (lenOf pd_5 rfl) rfl (by show 2 * 0 + _ ≤ _; exact Nat.le_of_eq rfl) (hb hby at_53) (fun _ _ => ⟨rfl, e10, (by decide : 4 + 1 ≤ _), (by decide : 11 + 2 ≤ _)⟩)
  dsimp only [Pt.U, Pt.locs, Pt.cells, Pt.slots] at X11 lq11 yq11 zq11 st11 hQ11
  subst lq11 yq11 zq11
  obtain ⟨h11, e11⟩ : ∃ z, z = T11.heap := ⟨_, rfl⟩
  rw [← e11] at hQ11
  replace e11 := e11.symm
  obtain ⟨b11, kb11, rfl, Nq11, Kq11, hR11⟩ := hQ11
  have N := Fr.app N Nq11
  have E_b1 := E_b1.keep Kq11
  have V_b1 := V_b1.keep Kq11 (ninS ne_b1_b10 nin0)
  have E_b4 := E_b4.keep Kq11
  have V_b4 := V_b4.keep Kq11 (ninS ne_b4_b10 nin0)
  have E_b9 := E_b9.keep Kq11
  have F_position_b9 := F_position_b9.keep Kq11 (ninS ne_b9_b10 nin0)
  have F_rank_b9 := F_rank_b9.keep Kq11 (ninS ne_b9_b10 nin0)
  have F_member_b9 := F_member_b9.keep Kq11 (ninS ne_b9_b10 nin0)
  have F_values_b9 := F_values_b9.keep Kq11 (ninS ne_b9_b10 nin0)
  have E_b10 := E_b10.keep Kq11
  have hk := Nat.le_trans hk Kq11.1
  obtain ⟨E_b10, F_coder_b10, F_value_b10, g_b11, sz_b11, V_b11⟩ := hR11
  have O := O.keep Kq11 (allS g_b10 all0)
  have ne_b1_b11 : b1 ≠ b11 := Nat.ne_of_lt (Nat.lt_of_lt_of_le lt_b1 sz_b11)
  have ne_b4_b11 : b4 ≠ b11 := Nat.ne_of_lt (Nat.lt_of_lt_of_le lt_b4 sz_b11)
  have ne_b9_b11 : b9 ≠ b11 := Nat.ne_of_lt (Nat.lt_of_lt_of_le lt_b9 sz_b11)
  have ne_b10_b11 : b10 ≠ b11 := Nat.ne_of_lt (Nat.lt_of_lt_of_le lt_b10 sz_b11)
  refine gb (fun _ k => st11.trans k) ?_
  show G T11 (mkF m 56 #[jv i0, .second, jv i1, .second, jv i2, .second, jv i3, .second, iv i4, rv b1, rv b4, .unset, .unset, .unset, .unset, .unset, .unset] [.ref b10, .long i1, .long i0, .ref b9, .ref b9])
  refine gb (fun _ k => XS.aload X11.here hx rfl (hb hby at_56) rfl rfl k) ?_
  show G T11 (mkF m 58 #[jv i0, .second, jv i1, .second, jv i2, .second, jv i3, .second, iv i4, rv b1, rv b4, .unset, .unset, .unset, .unset, .unset, .unset] [.ref b1, .ref b10, .long i1, .long i0, .ref b9, .ref b9])
  have lt_b1 := E_b1.lt
  have lt_b4 := E_b4.lt
  have lt_b9 := E_b9.lt
  have lt_b10 := E_b10.lt
  have lt_b11 := V_b11.lt
  obtain ⟨_, _, ⟨T12, Lz12, kz12, nz12⟩, -, X12, hS12, hg12, ⟨Lc12, hQ12, lq12, yq12, zq12⟩, st12⟩ := X11.specialBackS hx (y := (⟨"com/example/rhadamanthus/rhadamanthus/board/Entry", "<init>", "(JJLjava/lang/String;[J)V"⟩ : MethodName)) rfl hown (mvT hZ (ow hw 34 rfl)) (mvT hZ (ow hw 35 rfl)) (mvT hZ (ow hw 36 rfl)) (by decide) (backOfS (W := 1) (rm7 l Z a0 hw [] b9 b10 b1 kA1 i0 i1 i2 h11 n0 O E_b9 F_position_b9 F_rank_b9 F_member_b9 F_values_b9 g_b9 E_b10 E_b1 V_b1 ne_b1_b9) hZ (ow hw 36 rfl) (ow hw 4 rfl) (by decide) (by decide)) (g := (mkF m 58 #[jv i0, .second, jv i1, .second, jv i2, .second, jv i3, .second, iv i4, rv b1, rv b4, .unset, .unset, .unset, .unset, .unset, .unset] [.ref b1, .ref b10, .long i1, .long i0, .ref b9, .ref b9])) rfl (by rw [hml]; rfl) (Steps.refl _) (a := b9) (argsL := [(.long i0), (.long i1), (.ref b10), (.ref b1)]) (rest := [(.ref b9)]) (lenOf pd_6 rfl) rfl (by show 2 * 0 + _ ≤ _; exact Nat.le_of_eq rfl) (hb hby at_58) (fun _ _ => ⟨rfl, e11, (by decide : 5 + 3 ≤ _), (by decide : 13 + 29 ≤ _)⟩)
  dsimp only [Pt.U, Pt.locs, Pt.cells, Pt.slots] at X12 lq12 yq12 zq12 st12 hQ12 hS12 hg12
  subst lq12 yq12 zq12
  obtain ⟨X12, hS, hZ, hown⟩ := rebS hS (by rw [e11]; exact hk) X12 hS12 hg12 hZ hown
  obtain ⟨h12, e12⟩ : ∃ z, z = T12.heap := ⟨_, rfl⟩
  rw [← e12] at hQ12
  replace e12 := e12.symm
  obtain ⟨b12, rfl, Nq12, Kq12, hR12⟩ := hQ12
  have N := Fr.app N Nq12
  have E_b1 := E_b1.keep Kq12
  have V_b1 := V_b1.keep Kq12 (ninS ne_b1_b9 nin0)
  have E_b4 := E_b4.keep Kq12
  have V_b4 := V_b4.keep Kq12 (ninS ne_b4_b9 nin0)
  have E_b9 := E_b9.keep Kq12
  have E_b10 := E_b10.keep Kq12
  have F_coder_b10 := F_coder_b10.keep Kq12 (ninS (Ne.symm ne_b9_b10) nin0)
  have F_value_b10 := F_value_b10.keep Kq12 (ninS (Ne.symm ne_b9_b10) nin0)
  have V_b11 := V_b11.keep Kq12 (ninS (Ne.symm ne_b9_b11) nin0)
  have hk := Nat.le_trans hk Kq12.1
  have hk : T12.heap.size ≤ h12.size := by rw [e12]; exact Nat.le_refl _
  obtain ⟨E_b9, F_values_b9, g_b12, sz_b12, E_b12, V_b12⟩ := hR12
  have O := O.keep Kq12 (allS g_b9 all0)
  have ne_b1_b12 : b1 ≠ b12 := Nat.ne_of_lt (Nat.lt_of_lt_of_le lt_b1 sz_b12)
  have ne_b4_b12 : b4 ≠ b12 := Nat.ne_of_lt (Nat.lt_of_lt_of_le lt_b4 sz_b12)
  have ne_b9_b12 : b9 ≠ b12 := Nat.ne_of_lt (Nat.lt_of_lt_of_le lt_b9 sz_b12)
  have ne_b10_b12 : b10 ≠ b12 := Nat.ne_of_lt (Nat.lt_of_lt_of_le lt_b10 sz_b12)
  have ne_b11_b12 : b11 ≠ b12 := Nat.ne_of_lt (Nat.lt_of_lt_of_le lt_b11 sz_b12)
  refine gb (fun _ k => st12.trans k) ?_
  show G T12 (mkF m 61 #[jv i0, .second, jv i1, .second, jv i2, .second, jv i3, .second, iv i4, rv b1, rv b4, .unset, .unset, .unset, .unset, .unset, .unset] [.ref b9])
  refine gb (fun _ k => XS.astore X12.here hx rfl (hb hby at_61) rfl rfl (l' := #[jv i0, .second, jv i1, .second, jv i2, .second, jv i3, .second, iv i4, rv b1, rv b4, rv b9, .unset, .unset, .unset, .unset, .unset]) rfl (XS.aload X12.here hx rfl (hb hby at_63) rfl rfl (XS.iconst X12.here hx rfl (hb hby at_65) (XS.lload X12.here hx rfl (hb hby at_66) rfl k)))) ?_
  show G T12 (mkF m 68 #[jv i0, .second, jv i1, .second, jv i2, .second, jv i3, .second, iv i4, rv b1, rv b4, rv b9, .unset, .unset, .unset, .unset, .unset] [.long i3, .int 0, .ref b1])
  have V'13 := V_b1
  obtain ⟨cl13, Ar13, qk13, sz13, nn13, hs13, ft13⟩ := V'13
  have hin13 : ¬ ((0 : Int32) < 0 ∨ cl13.slots.size ≤ ((0 : Int32)).toNatClampNeg) := inb_of sz13 ⟨by decide, by decide⟩
  obtain ⟨T14, h14, X14, e14, W14, st14⟩ := stJ X12 hx hZ e12 Ar13 (j := (0 : Int32)) hin13 (g := (mkF m 68 #[jv i0, .second, jv i1, .second, jv i2, .second, jv i3, .second, iv i4, rv b1, rv b4, rv b9, .unset, .unset, .unset, .unset, .unset] [.long i3, .int 0, .ref b1])) rfl rfl (hb hby at_68)
  have V_b1 : Arv Z h14 b1 kA1 .long (1 : Int32) [(.long i3)] (.long (0 : Int64)) := Arv.set Ar13 qk13 sz13 nn13 hs13 ft13 rfl W14 0 rfl (Nat.le_of_ble_eq_true rfl)
  have E_b1 := E_b1.wr W14
  have E_b4 := E_b4.wr W14
  have V_b4 := V_b4.other W14 (Ne.symm ne_b1_b4)
  have E_b10 := E_b10.wr W14
  have F_coder_b10 := F_coder_b10.other W14 (Or.inl (Ne.symm ne_b1_b10))
  have F_value_b10 := F_value_b10.other W14 (Or.inl (Ne.symm ne_b1_b10))
  have V_b11 := V_b11.other W14 (Ne.symm ne_b1_b11)
  have F_values_b9 := F_values_b9.other W14 (Or.inl (Ne.symm ne_b1_b9))
  have E_b9 := E_b9.wr W14
  have E_b12 := E_b12.wr W14
  have V_b12 := V_b12.other W14 (Ne.symm ne_b1_b12)
  have O := O.wr W14 g_b1
  have hk := Nat.le_trans hk (Keep.of_wr W14).1
  have N := Fr.snoc X14 N g_b1
  refine gb st14 ?_
  show G T14 (mkF m 69 #[jv i0, .second, jv i1, .second, jv i2, .second, jv i3, .second, iv i4, rv b1, rv b4, rv b9, .unset, .unset, .unset, .unset, .unset] [])
  refine gb (fun _ k => XS.aload X14.here hx rfl (hb hby at_69) rfl rfl k) ?_
  show G T14 (mkF m 71 #[jv i0, .second, jv i1, .second, jv i2, .second, jv i3, .second, iv i4, rv b1, rv b4, rv b9, .unset, .unset, .unset, .unset, .unset] [.ref b9])
  obtain ⟨cq15, kq15, q15a, q15b, q15c⟩ := isOf hZ e14 E_b9
  obtain ⟨_, _, ⟨T15, Lz15, kz15, nz15⟩, -, X15, ⟨Lc15, hQ15, lq15, yq15, zq15⟩, st15⟩ := X14.virtualBack hx (y := (⟨"com/example/rhadamanthus/rhadamanthus/board/Entry", "getPoints", "()J"⟩ : MethodName)) (z := (⟨"com/example/rhadamanthus/rhadamanthus/board/Entry", "getPoints", "()J"⟩ : MethodName)) hown (mvT hZ (ow hw 63 rfl)) (mvT hZ (ow hw 64 rfl)) (notFace_of_selects (args := #[]) (mvT hZ (ow hw 66 rfl))) (mvT hZ (ow hw 66 rfl)) (mvT hZ (ow hw 65 rfl)) (by decide) (backOf (W := 0) (rm9 l Z a0 hw [] b9 b12 kA1 i2 h14 n0 O F_values_b9 V_b12) hZ (ow hw 67 rfl) (ow hw 4 rfl) (by decide) (by decide)) q15a q15c (g := (mkF m 71 #[jv i0, .second, jv i1, .second, jv i2, .second, jv i3, .second, iv i4, rv b1, rv b4, rv b9, .unset, .unset, .unset, .unset, .unset] [.ref b9])) rfl (by rw [hml]; rfl) (Steps.refl _) (argsL := []) (rest := []) (lenOf pd_7 rfl) rfl (by show 2 * 0 + _ ≤ _; exact Nat.le_of_eq rfl) (hb hby at_71) (fun _ _ => ⟨rfl, e14, (by decide : 8 + 0 ≤ _), (by decide : 42 + 0 ≤ _)⟩)
  dsimp only [Pt.U, Pt.locs, Pt.cells, Pt.slots] at X15 lq15 yq15 zq15 st15 hQ15
  subst lq15 yq15 zq15
  obtain ⟨rfl, rfl, e15⟩ := hQ15
  try rw [List.append_nil] at X15
  refine gb (fun _ k => st15.trans k) ?_
  show G T15 (mkF m 74 #[jv i0, .second, jv i1, .second, jv i2, .second, jv i3, .second, iv i4, rv b1, rv b4, rv b9, .unset, .unset, .unset, .unset, .unset] [.long i2])
  refine gb (fun _ k => XS.lstore X15.here hx rfl (hb hby at_74) rfl (l' := #[jv i0, .second, jv i1, .second, jv i2, .second, jv i3, .second, iv i4, rv b1, rv b4, rv b9, jv i2, .second, .unset, .unset, .unset]) rfl (XS.aload X15.here hx rfl (hb hby at_76) rfl rfl k)) ?_
  show G T15 (mkF m 78 #[jv i0, .second, jv i1, .second, jv i2, .second, jv i3, .second, iv i4, rv b1, rv b4, rv b9, jv i2, .second, .unset, .unset, .unset] [.ref b9])
  have lt_b1 := E_b1.lt
  have lt_b4 := E_b4.lt
  have lt_b10 := E_b10.lt
  have lt_b11 := V_b11.lt
  have lt_b9 := F_values_b9.lt
  have lt_b12 := E_b12.lt
  obtain ⟨cq16, kq16, q16a, q16b, q16c⟩ := isOf hZ e15 E_b9
  obtain ⟨_, _, ⟨T16, Lz16, kz16, nz16⟩, -, X16, ⟨Lc16, hQ16, lq16, yq16, zq16⟩, st16⟩ := X15.virtualBack hx (y := (⟨"com/example/rhadamanthus/rhadamanthus/board/Entry", "getValues", "()[J"⟩ : MethodName)) (z := (⟨"com/example/rhadamanthus/rhadamanthus/board/Entry", "getValues", "()[J"⟩ : MethodName)) hown (mvT hZ (ow hw 68 rfl)) (mvT hZ (ow hw 69 rfl)) (notFace_of_selects (args := #[]) (mvT hZ (ow hw 71 rfl))) (mvT hZ (ow hw 71 rfl)) (mvT hZ (ow hw 70 rfl)) (by decide) (backOf (W := 0) (rm10 l Z a0 hw [] b9 b12 kA1 i2 h14 n0 O F_values_b9 E_b12 V_b12) hZ (ow hw 72 rfl) (ow hw 4 rfl) (by decide) (by decide)) q16a q16c (g := (mkF m 78 #[jv i0, .second, jv i1, .second, jv i2, .second, jv i3, .second, iv i4, rv b1, rv b4, rv b9, jv i2, .second, .unset, .unset, .unset] [.ref b9])) rfl (by rw [hml]; rfl) (Steps.refl _) (argsL := []) (rest := []) (lenOf pd_8 rfl) rfl (by show 2 * 0 + _ ≤ _; exact Nat.le_of_eq rfl) (hb hby at_78) (fun _ _ => ⟨rfl, e15, (by decide : 8 + 1 ≤ _), (by decide : 42 + 1 ≤ _)⟩)
  dsimp only [Pt.U, Pt.locs, Pt.cells, Pt.slots] at X16 lq16 yq16 zq16 st16 hQ16
  subst lq16 yq16 zq16
  obtain ⟨h16, e16⟩ : ∃ z, z = T16.heap := ⟨_, rfl⟩
  rw [← e16] at hQ16
  replace e16 := e16.symm
  obtain ⟨b16, rfl, Nq16, Kq16, hR16⟩ := hQ16
  have N := Fr.app N Nq16
  have E_b1 := E_b1.keep Kq16
  have E_b4 := E_b4.keep Kq16
  have V_b4 := V_b4.keep Kq16 nin0
  have E_b10 := E_b10.keep Kq16
  have F_coder_b10 := F_coder_b10.keep Kq16 nin0
  have F_value_b10 := F_value_b10.keep Kq16 nin0
  have V_b11 := V_b11.keep Kq16 nin0
  have F_values_b9 := F_values_b9.keep Kq16 nin0
  have E_b9 := E_b9.keep Kq16
  have E_b12 := E_b12.keep Kq16
  have V_b12 := V_b12.keep Kq16 nin0
  have V_b1 := V_b1.keep Kq16 nin0
  have hk := Nat.le_trans hk Kq16.1
  obtain ⟨g_b16, sz_b16, V_b16⟩ := hR16
  have O := O.keep Kq16 all0
  have ne_b1_b16 : b1 ≠ b16 := Nat.ne_of_lt (Nat.lt_of_lt_of_le lt_b1 sz_b16)
  have ne_b4_b16 : b4 ≠ b16 := Nat.ne_of_lt (Nat.lt_of_lt_of_le lt_b4 sz_b16)
  have ne_b10_b16 : b10 ≠ b16 := Nat.ne_of_lt (Nat.lt_of_lt_of_le lt_b10 sz_b16)
  have ne_b11_b16 : b11 ≠ b16 := Nat.ne_of_lt (Nat.lt_of_lt_of_le lt_b11 sz_b16)
  have ne_b9_b16 : b9 ≠ b16 := Nat.ne_of_lt (Nat.lt_of_lt_of_le lt_b9 sz_b16)
  have ne_b12_b16 : b12 ≠ b16 := Nat.ne_of_lt (Nat.lt_of_lt_of_le lt_b12 sz_b16)
  refine gb (fun _ k => st16.trans k) ?_
  show G T16 (mkF m 81 #[jv i0, .second, jv i1, .second, jv i2, .second, jv i3, .second, iv i4, rv b1, rv b4, rv b9, jv i2, .second, .unset, .unset, .unset] [.ref b16])
  refine gb (fun _ k => XS.astore X16.here hx rfl (hb hby at_81) rfl rfl (l' := #[jv i0, .second, jv i1, .second, jv i2, .second, jv i3, .second, iv i4, rv b1, rv b4, rv b9, jv i2, .second, rv b16, .unset, .unset]) rfl (XS.aload X16.here hx rfl (hb hby at_83) rfl rfl (XS.iconst X16.here hx rfl (hb hby at_85) (XS.lload X16.here hx rfl (hb hby at_86) rfl k)))) ?_
  show G T16 (mkF m 88 #[jv i0, .second, jv i1, .second, jv i2, .second, jv i3, .second, iv i4, rv b1, rv b4, rv b9, jv i2, .second, rv b16, .unset, .unset] [.long i3, .int 0, .ref b16])
  have V'17 := V_b16
  obtain ⟨cl17, Ar17, qk17, sz17, nn17, hs17, ft17⟩ := V'17
  have hin17 : ¬ ((0 : Int32) < 0 ∨ cl17.slots.size ≤ ((0 : Int32)).toNatClampNeg) := inb_of sz17 ⟨by decide, by decide⟩
  obtain ⟨T18, h18, X18, e18, W18, st18⟩ := stJ X16 hx hZ e16 Ar17 (j := (0 : Int32)) hin17 (g := (mkF m 88 #[jv i0, .second, jv i1, .second, jv i2, .second, jv i3, .second, iv i4, rv b1, rv b4, rv b9, jv i2, .second, rv b16, .unset, .unset] [.long i3, .int 0, .ref b16])) rfl rfl (hb hby at_88)
  have V_b16 : Arv Z h18 b16 kA1 .long (1 : Int32) [(.long i3)] (.long (0 : Int64)) := Arv.set Ar17 qk17 sz17 nn17 hs17 ft17 rfl W18 0 rfl (Nat.le_of_ble_eq_true rfl)
  have E_b1 := E_b1.wr W18
  have E_b4 := E_b4.wr W18
  have V_b4 := V_b4.other W18 ne_b4_b16
  have E_b10 := E_b10.wr W18
  have F_coder_b10 := F_coder_b10.other W18 (Or.inl ne_b10_b16)
  have F_value_b10 := F_value_b10.other W18 (Or.inl ne_b10_b16)
  have V_b11 := V_b11.other W18 ne_b11_b16
  have F_values_b9 := F_values_b9.other W18 (Or.inl ne_b9_b16)
  have E_b9 := E_b9.wr W18
  have E_b12 := E_b12.wr W18
  have V_b12 := V_b12.other W18 ne_b12_b16
  have V_b1 := V_b1.other W18 ne_b1_b16
  have O := O.wr W18 g_b16
  have hk := Nat.le_trans hk (Keep.of_wr W18).1
  have N := Fr.snoc X18 N g_b16
  refine gb st18 ?_
  show G T18 (mkF m 89 #[jv i0, .second, jv i1, .second, jv i2, .second, jv i3, .second, iv i4, rv b1, rv b4, rv b9, jv i2, .second, rv b16, .unset, .unset] [])
  refine gb (fun _ k => XS.aload X18.here hx rfl (hb hby at_89) rfl rfl k) ?_
  show G T18 (mkF m 91 #[jv i0, .second, jv i1, .second, jv i2, .second, jv i3, .second, iv i4, rv b1, rv b4, rv b9, jv i2, .second, rv b16, .unset, .unset] [.ref b9])
  obtain ⟨cq19, kq19, q19a, q19b, q19c⟩ := isOf hZ e18 E_b9
  obtain ⟨_, _, ⟨T19, Lz19, kz19, nz19⟩, -, X19, ⟨Lc19, hQ19, lq19, yq19, zq19⟩, st19⟩ := X18.virtualBack hx (y := (⟨"com/example/rhadamanthus/rhadamanthus/board/Entry", "getPoints", "()J"⟩ : MethodName)) (z := (⟨"com/example/rhadamanthus/rhadamanthus/board/Entry", "getPoints", "()J"⟩ : MethodName)) hown (mvT hZ (ow hw 63 rfl)) (mvT hZ (ow hw 64 rfl)) (notFace_of_selects (args := #[]) (mvT hZ (ow hw 66 rfl))) (mvT hZ (ow hw 66 rfl)) (mvT hZ (ow hw 65 rfl)) (by decide) (backOf (W := 0) (rm9 l Z a0 hw [] b9 b12 kA1 i2 h18 n0 O F_values_b9 V_b12) hZ (ow hw 67 rfl) (ow hw 4 rfl) (by decide) (by decide)) q19a q19c (g := (mkF m 91 #[jv i0, .second, jv i1, .second, jv i2, .second, jv i3, .second, iv i4, rv b1, rv b4, rv b9, jv i2, .second, rv b16, .unset, .unset] [.ref b9])) rfl (by rw [hml]; rfl) (Steps.refl _) (argsL := []) (rest := []) (lenOf pd_7 rfl) rfl (by show 2 * 0 + _ ≤ _; exact Nat.le_of_eq rfl) (hb hby at_91) (fun _ _ => ⟨rfl, e18, (by decide : 9 + 0 ≤ _), (by decide : 43 + 0 ≤ _)⟩)
  dsimp only [Pt.U, Pt.locs, Pt.cells, Pt.slots] at X19 lq19 yq19 zq19 st19 hQ19
  subst lq19 yq19 zq19
  obtain ⟨rfl, rfl, e19⟩ := hQ19
  try rw [List.append_nil] at X19
  refine gb (fun _ k => st19.trans k) ?_
  show G T19 (mkF m 94 #[jv i0, .second, jv i1, .second, jv i2, .second, jv i3, .second, iv i4, rv b1, rv b4, rv b9, jv i2, .second, rv b16, .unset, .unset] [.long i2])
  refine gb (fun _ k => XS.lstore X19.here hx rfl (hb hby at_94) rfl (l' := #[jv i0, .second, jv i1, .second, jv i2, .second, jv i3, .second, iv i4, rv b1, rv b4, rv b9, jv i2, .second, rv b16, jv i2, .second]) rfl (XS.lload X19.here hx rfl (hb hby at_96) rfl (XS.lload X19.here hx rfl (hb hby at_98) rfl (XS.lcmp X19.here hx rfl (hb hby at_100) rfl (XS.ifNo X19.here hx rfl (hb hby at_101) rfl ((if0 _ _).trans (teq ((own_eq _ _).mpr (rfl : i2 = i2))).2) (XS.lload X19.here hx rfl (hb hby at_104) rfl k)))))) ?_
  show G T19 (mkF m 106 #[jv i0, .second, jv i1, .second, jv i2, .second, jv i3, .second, iv i4, rv b1, rv b4, rv b9, jv i2, .second, rv b16, jv i2, .second] [.long i2])
  refine gb (fun _ k => XS.lload X19.here hx rfl (hb hby at_106) rfl (XS.lcmp X19.here hx rfl (hb hby at_108) rfl (XS.ifNo X19.here hx rfl (hb hby at_109) rfl ((if0 _ _).trans (teq ((own_eq _ _).mpr (rfl : i2 = i2))).2) (XS.iconst X19.here hx rfl (hb hby at_112) (XS.goto X19.here hx rfl (pc0 := 113) (pc' := 117) rfl (hb hby at_113) (by decide) (by decide) k))))) ?_
  show G T19 (mkF m 117 #[jv i0, .second, jv i1, .second, jv i2, .second, jv i3, .second, iv i4, rv b1, rv b4, rv b9, jv i2, .second, rv b16, jv i2, .second] [.int 1])
  exact go X19 hS (by rw [e19]; exact hk) (v := (some (.int (1 : Int32)))) (fun h => by rw [Bd.returns] at h; cases h) (fun fs hr => retOut X19 hx Bd.returns rfl (Or.inl ⟨rfl, by simp, _, rfl⟩) (hb hby at_117) hr) (⟨rfl, N⟩) (by decide) (by decide)
set_option maxRecDepth 65536 in
set_option maxHeartbeats 40000000 in
theorem comes_1 {Post : Tables → Env → Array Value → State → Outcome → State → Prop} (hpost : ∀ tb e args s v u, (limb_1_1.after args s (.returned v) u = true ∧ limb_1_2.after args s (.returned v) u = true ∧ True) → ReturnedEndW s (.returned v) u (Jvm.fieldLocs frame_1_writes args s ++ Jvm.arrayLocs frame_1_arrays args s ++ Jvm.staticLocs frame_1_statics s) 24 1152 → Post tb e args s (.returned v) u) :
    ArmFor flags0 classFile x code maxLocals ret World_1 tables_1 room_1 Calls_1 rest_1 Pre_1 Post := by
  intro l hfl _ _ p e ha hc hk s m args below hf hA hF happ hP
  obtain ⟨hcalls, hrest, hpre⟩ := hP
  obtain ⟨-, -, -, hnamed, -, -, -, hat⟩ := (Spec.applies_iff hf).mp happ
  obtain ⟨hg, hn⟩ := and_e (Cond.before_iff.mp (show (Jvm.Cond.and given_1 narrow_1).before args s = true from hpre))
  obtain ⟨g1, g2⟩ := and_e hg
  obtain ⟨g3, g4⟩ := and_e g2
  obtain ⟨g5, g6⟩ := and_e g4
  obtain ⟨g7, g8⟩ := and_e g6
  obtain ⟨g9, g10⟩ := and_e g8
  obtain ⟨w0, w1, w2, w3, w4, rfl⟩ : ∃ w0 w1 w2 w3 w4 : Value, args = #[w0, w1, w2, w3, w4] := by
    have hs : args.size = 5 := by simpa [Cond.value, given_1] using g1
    obtain ⟨L⟩ := args
    match L, hs with
    | [w0, w1, w2, w3, w4], _ => exact ⟨w0, w1, w2, w3, w4, rfl⟩
  have hw := fun d (hd : d ∈ tables_1) => atoms_spec (ws := Jvm.Cond.code x code maxLocals ret :: tables_1) hat d (List.mem_cons_of_mem _ hd)
  have hfit : Fit s := fun {y c} hc i hi => by
    obtain ⟨ha, rfl⟩ := Array.getElem?_eq_some_iff.mp hc
    have q := List.all_eq_true.mp ((Array.all_eq_true_iff_forall_mem.mp hF) _ (Array.getElem_mem ha)) i (List.mem_range.mpr hi)
    simpa [Array.getElem?_eq_getElem hi] using q
  obtain ⟨hsets, hown0⟩ := atoms_of _ (rest_1_c_eq ▸ (show rest_1_c.before _ s = true from hrest))
  have hr0 := Cond.before_iff.mp hown0
  obtain ⟨i0, ei0⟩ := isL_v g3
  obtain rfl : w0 = (.long i0) := Option.some.inj ei0
  obtain ⟨i1, ei1⟩ := isL_v g5
  obtain rfl : w1 = (.long i1) := Option.some.inj ei1
  obtain ⟨i2, ei2⟩ := isL_v g7
  obtain rfl : w2 = (.long i2) := Option.some.inj ei2
  obtain ⟨i3, ei3⟩ := isL_v g9
  obtain rfl : w3 = (.long i3) := Option.some.inj ei3
  obtain ⟨i4, ei4⟩ := is_v g10
  obtain rfl : w4 = (.int i4) := Option.some.inj ei4
  obtain ⟨zc, ezc⟩ := is_v (Cond.before_iff.mp (hsets _ (List.mem_of_getElem? (i := 1) rfl)))
  have S_cs : Sta s s.heap "java/lang/String" "COMPACT_STRINGS" "Z" (.int zc) := Sta.start ezc (Or.inl (hsets _ (List.mem_of_getElem? (i := 0) rfl)))
  have hzc : ¬ zc = (0 : Int32) := gotF (Cond.eq_ints ezc (Term.int_eval 0)) (not_v (Cond.before_iff.mp (hsets _ (List.mem_of_getElem? (i := 2) rfl))))
  obtain ⟨n, o, h1, h2, h3, _, L, rfl, ⟨rfl, N⟩, hq⟩ := rm0 l s _ hw tables_1 i0 i1 i2 i3 i4 s.heap s.heap.size (Old.start s) zc S_cs hzc p e ha hc hk s m _ below hf ((Spec.applies_iff_loose hf).mp happ).1 ⟨rfl, State.Warmed39.refl s, rfl, rfl⟩ trivial
  refine ⟨n, _, h1, h2, h3, hpost _ _ _ _ _ _ ⟨Cond.after_iff.mpr rfl, Cond.after_iff.mpr (eq_i res_at (Term.int_eval (1)) rfl), trivial⟩ ⟨hq.1, hq.2.1, hq.2.2.1, (hq.2.2.2.sift fun y hy => Or.inr (N y hy)).mono (by decide) (by decide)⟩⟩
theorem main_1_1 : Claimed_1_1 := comes_1 fun _ _ _ _ _ _ h hF => ⟨h.1, hF⟩
theorem main_1_2 : Claimed_1_2 := comes_1 fun _ _ _ _ _ _ h hF => ⟨h.2.1, hF⟩
end Jvm.Pilot.@@N@@
namespace Jvm.Pilot.@@N@@
open Jvm Jvm.ClassFile Sem Op Lib Jvm.Free Jvm.Stand Jvm.Pilot.@@N@@.Jvm.D
/-! MADE BY PROGRAM (witnessworld.py) out of the Statement's table words and the real class files: 23 classes; the members and pool entries that the words name. The judged class is class 1, her method 1. -/
namespace start1
open Jvm.ClassFile
def u (s : String) : CpInfo := .utf8 (stringToUtf16 s)
/-- a pool by its gaps: so many unusable entries, then the entry; so many at the end -/
def gap : Nat → List CpInfo → List CpInfo
  | 0, r => r
  | n + 1, r => .unusable :: gap n r
def poolList (es : List (Nat × CpInfo)) (last : Nat) : List CpInfo := es.foldr (fun e r => gap e.1 (e.2 :: r)) (gap last [])
def pool (es : List (Nat × CpInfo)) (last : Nat) : Array CpInfo := ⟨poolList es last⟩
def fileOf (pool : Array CpInfo) (this : Nat) (attrs : Array Attribute := #[]) (ms : Array MethodInfo := #[]) (fl : Nat := 33) (sup : Nat := 0) (ifs : Array Nat := #[]) (fds : Array FieldInfo := #[]) : ClassFile where
  minorVersion := 0
  majorVersion := 65
  constantPool := pool
  accessFlags := fl
  thisClass := this
  superClass := sup
  interfaces := ifs
  fields := fds
  methods := ms
  attributes := attrs
def plain (name : String) (sup : Option ClassId) : Class where
  name := name
  kind := .ordinary
  loader := none
  accessFlags := 33
  super := sup
  interfaces := #[]
  cf := none
  fields := #[]
  methods := #[]
  instanceTypes := #[]
  staticTypes := #[]
  resolved := #[]
  callSites := []
  init := .initialized
  statics := none
  mirror := none

def pool0 : Array CpInfo := pool [(5, u "<init>"), (0, u "()V"), (1, .class_ 10), (1, u "java/lang/Object"), (85, u "clone"), (0, u "()Ljava/lang/Object;")] 26

def k0c0 : Code := { maxStack := 0, maxLocals := 1, code := object_method_1_code, exceptionTable := #[], attributes := #[] }
def k0m0 : Method := { name := "<init>", desc := "()V", sig := { parameters := [], returnType := none }, accessFlags := 1, code := some k0c0 }
def k0m1 : Method := { name := "clone", desc := "()Ljava/lang/Object;", sig := { parameters := [], returnType := some (.object "java/lang/Object") }, accessFlags := 260, code := none }
/-- java/lang/Object -/
def k0 : Class := { plain "java/lang/Object" none with
  accessFlags := 33
  interfaces := #[]
  cf := some (fileOf pool0 8 #[] #[{ accessFlags := 1, nameIndex := 5, descriptorIndex := 6, attributes := #[] }, { accessFlags := 260, nameIndex := 96, descriptorIndex := 97, attributes := #[] }] 33 0 #[] #[])
  fields := #[]
  methods := #[k0m0, k0m1]
  instanceTypes := #[]
  staticTypes := #[]
  resolved := Array.replicate 124 none
  statics := none }

def pool1 : Array CpInfo := pool [(2, .class_ 4), (1, u "java/lang/Object"), (0, u "<init>"), (0, u "()V"), (0, .class_ 8), (0, u "com/example/rhadamanthus/rhadamanthus/board/Entry"), (0, .class_ 10), (0, u "java/lang/String"), (0, .methodref 9 12), (0, .nameAndType 5 13), (0, u "([C)V"), (0, .methodref 7 15), (0, .nameAndType 5 16), (0, u "(JJLjava/lang/String;[J)V"), (0, .methodref 7 18), (0, .nameAndType 19 20), (0, u "getPoints"), (0, u "()J"), (0, .methodref 7 22), (0, .nameAndType 23 24), (0, u "getValues"), (0, u "()[J"), (0, .class_ 26), (0, u "com/example/rhadamanthus/rhadamanthus/board/EntryGetPointsPinLaw"), (2, u "law"), (0, u "(JJJJI)Z")] 7

def k1m0 : Method := { name := "<init>", desc := "()V", sig := { parameters := [], returnType := none }, accessFlags := 1, code := none }
def k1c1 : Code := { maxStack := 9, maxLocals := 17, code := code, exceptionTable := #[], attributes := #[] }
def k1m1 : Method := { name := "law", desc := "(JJJJI)Z", sig := { parameters := [.long, .long, .long, .long, .int], returnType := some .boolean }, accessFlags := 9, code := some k1c1 }
/-- com/example/rhadamanthus/rhadamanthus/board/EntryGetPointsPinLaw -/
def k1 : Class := { plain "com/example/rhadamanthus/rhadamanthus/board/EntryGetPointsPinLaw" (some 0) with
  accessFlags := 49
  interfaces := #[]
  cf := some (fileOf pool1 25 #[] #[{ accessFlags := 1, nameIndex := 5, descriptorIndex := 6, attributes := #[] }, { accessFlags := 9, nameIndex := 29, descriptorIndex := 30, attributes := #[] }] 49 2 #[] #[])
  fields := #[]
  methods := #[k1m0, k1m1]
  instanceTypes := #[]
  staticTypes := #[]
  resolved := Array.replicate 38 none
  statics := none }

def pool2 : Array CpInfo := pool [(2, .class_ 4), (1, u "com/example/rhadamanthus/rhadamanthus/board/Entry"), (0, u "<init>"), (0, u "(JJLjava/lang/String;[J)V"), (0, .methodref 8 9), (0, .class_ 10), (0, .nameAndType 5 11), (0, u "java/lang/Object"), (0, u "()V"), (0, .fieldref 2 13), (0, .nameAndType 14 15), (0, u "position"), (0, u "J"), (0, .fieldref 2 17), (0, .nameAndType 18 15), (0, u "rank"), (0, .string 20), (0, u "member"), (0, .methodref 22 23), (0, .class_ 24), (0, .nameAndType 25 26), (0, u "java/util/Objects"), (0, u "requireNonNull"), (0, u "(Ljava/lang/Object;Ljava/lang/String;)Ljava/lang/Object;"), (0, .class_ 28), (0, u "java/lang/String"), (0, .fieldref 2 30), (0, .nameAndType 20 31), (0, u "Ljava/lang/String;"), (0, .methodref 33 34), (0, .class_ 35), (0, .nameAndType 36 37), (0, u "[J"), (0, u "clone"), (0, u "()Ljava/lang/Object;"), (0, .fieldref 2 39), (0, .nameAndType 40 35), (0, u "values"), (87, u "()J"), (3, u "getValues"), (0, u "()[J"), (0, u "getPoints")] 34

def k2c0 : Code := { maxStack := 3, maxLocals := 7, code := prog_1_method_2_code, exceptionTable := #[], attributes := #[] }
def k2m0 : Method := { name := "<init>", desc := "(JJLjava/lang/String;[J)V", sig := { parameters := [.long, .long, (.object "java/lang/String"), (.array .long)], returnType := none }, accessFlags := 129, code := some k2c0 }
def k2c1 : Code := { maxStack := 1, maxLocals := 1, code := prog_1_method_6_code, exceptionTable := #[], attributes := #[] }
def k2m1 : Method := { name := "getValues", desc := "()[J", sig := { parameters := [], returnType := some (.array .long) }, accessFlags := 1, code := some k2c1 }
def k2c2 : Code := { maxStack := 7, maxLocals := 1, code := prog_1_method_7_code, exceptionTable := #[], attributes := #[] }
def k2m2 : Method := { name := "getPoints", desc := "()J", sig := { parameters := [], returnType := some .long }, accessFlags := 1, code := some k2c2 }
/-- com/example/rhadamanthus/rhadamanthus/board/Entry -/
def k2 : Class := { plain "com/example/rhadamanthus/rhadamanthus/board/Entry" (some 0) with
  accessFlags := 33
  interfaces := #[]
  cf := some (fileOf pool2 2 #[] #[{ accessFlags := 129, nameIndex := 5, descriptorIndex := 6, attributes := #[] }, { accessFlags := 1, nameIndex := 132, descriptorIndex := 133, attributes := #[] }, { accessFlags := 1, nameIndex := 134, descriptorIndex := 128, attributes := #[] }] 33 8 #[] #[{ accessFlags := 18, nameIndex := 14, descriptorIndex := 15, attributes := #[] }, { accessFlags := 18, nameIndex := 18, descriptorIndex := 15, attributes := #[] }, { accessFlags := 18, nameIndex := 20, descriptorIndex := 31, attributes := #[] }, { accessFlags := 18, nameIndex := 40, descriptorIndex := 35, attributes := #[] }])
  fields := #[{ name := "position", type := .long, accessFlags := 18, slot := 0, constantValue := 0 }, { name := "rank", type := .long, accessFlags := 18, slot := 1, constantValue := 0 }, { name := "member", type := (.object "java/lang/String"), accessFlags := 18, slot := 2, constantValue := 0 }, { name := "values", type := (.array .long), accessFlags := 18, slot := 3, constantValue := 0 }]
  methods := #[k2m0, k2m1, k2m2]
  instanceTypes := #[.long, .long, (.object "java/lang/String"), (.array .long)]
  staticTypes := #[]
  resolved := Array.replicate 169 none
  statics := none }

def pool3 : Array CpInfo := pool [(1, .class_ 2), (0, u "java/io/Serializable"), (0, .class_ 4), (0, u "java/lang/Object")] 2

/-- java/io/Serializable -/
def k3 : Class := { plain "java/io/Serializable" (some 0) with
  accessFlags := 1537
  interfaces := #[]
  cf := some (fileOf pool3 1 #[] #[] 1537 3 #[] #[])
  fields := #[]
  methods := #[]
  instanceTypes := #[]
  staticTypes := #[]
  resolved := Array.replicate 7 none
  statics := none }

def pool4 : Array CpInfo := pool [(1, .class_ 2), (0, u "java/lang/Comparable"), (0, .class_ 4), (0, u "java/lang/Object")] 7

/-- java/lang/Comparable -/
def k4 : Class := { plain "java/lang/Comparable" (some 0) with
  accessFlags := 1537
  interfaces := #[]
  cf := some (fileOf pool4 1 #[] #[] 1537 3 #[] #[])
  fields := #[]
  methods := #[]
  instanceTypes := #[]
  staticTypes := #[]
  resolved := Array.replicate 12 none
  statics := none }

def pool5 : Array CpInfo := pool [(2, .class_ 4), (1, u "java/lang/CharSequence"), (42, .class_ 48), (0, u "java/lang/CharSequence$1CodePointIterator"), (10, .class_ 60), (0, u "java/lang/CharSequence$1CharIterator"), (5, .class_ 67), (0, u "java/lang/Object")] 63

/-- java/lang/CharSequence -/
def k5 : Class := { plain "java/lang/CharSequence" (some 0) with
  accessFlags := 1537
  interfaces := #[]
  cf := some (fileOf pool5 2 #[.nestMembers #[47, 59]] #[] 1537 66 #[] #[])
  fields := #[]
  methods := #[]
  instanceTypes := #[]
  staticTypes := #[]
  resolved := Array.replicate 131 none
  statics := none }

def pool6 : Array CpInfo := pool [(1, .class_ 2), (0, u "java/lang/constant/Constable"), (0, .class_ 4), (0, u "java/lang/Object")] 6

/-- java/lang/constant/Constable -/
def k6 : Class := { plain "java/lang/constant/Constable" (some 0) with
  accessFlags := 1537
  interfaces := #[]
  cf := some (fileOf pool6 1 #[] #[] 1537 3 #[] #[])
  fields := #[]
  methods := #[]
  instanceTypes := #[]
  staticTypes := #[]
  resolved := Array.replicate 11 none
  statics := none }

def pool7 : Array CpInfo := pool [(1, .class_ 2), (0, u "java/lang/constant/ConstantDesc"), (0, .class_ 4), (0, u "java/lang/Object")] 32

/-- java/lang/constant/ConstantDesc -/
def k7 : Class := { plain "java/lang/constant/ConstantDesc" (some 0) with
  accessFlags := 1537
  interfaces := #[]
  cf := some (fileOf pool7 1 #[] #[] 1537 3 #[] #[])
  fields := #[]
  methods := #[]
  instanceTypes := #[]
  staticTypes := #[]
  resolved := Array.replicate 37 none
  statics := none }

def pool8 : Array CpInfo := pool [(1, .methodref 2 3), (0, .class_ 4), (0, .nameAndType 5 6), (0, u "java/lang/Object"), (0, u "<init>"), (0, u "()V"), (2, .fieldref 10 11), (0, .class_ 12), (0, .nameAndType 13 14), (0, u "java/lang/String"), (0, u "value"), (0, u "[B"), (0, .fieldref 10 16), (0, .nameAndType 17 18), (0, u "coder"), (0, u "B"), (2, u "hash"), (0, u "I"), (2, u "hashIsZero"), (0, u "Z"), (0, .methodref 10 28), (0, .nameAndType 5 29), (0, u "([CIILjava/lang/Void;)V"), (8, .fieldref 10 39), (0, .nameAndType 40 26), (0, u "COMPACT_STRINGS"), (1, .class_ 44), (1, u "java/lang/StringUTF16"), (0, u "compress"), (1, .methodref 42 48), (0, .nameAndType 49 50), (0, u "coderFromArrayLen"), (0, u "([BI)B"), (126, .methodref 42 178), (0, .nameAndType 45 179), (0, u "([CII)[B"), (395, .class_ 576), (0, u "java/lang/CharSequence"), (22, u "CASE_INSENSITIVE_ORDER"), (0, u "Ljava/util/Comparator;"), (409, u "([C)V"), (90, u "serialPersistentFields"), (0, u "[Ljava/io/ObjectStreamField;"), (0, .class_ 1104), (0, u "java/lang/String$CaseInsensitiveComparator"), (1, .class_ 1107), (0, u "java/io/Serializable"), (0, .class_ 1109), (0, u "java/lang/Comparable"), (0, .class_ 1111), (0, u "java/lang/constant/Constable"), (0, .class_ 1113), (0, u "java/lang/constant/ConstantDesc"), (2, u "serialVersionUID"), (0, u "J"), (3, u "REPL"), (0, u "C"), (2, u "LATIN1"), (1, u "UTF16")] 323

def k8m0 : Method := { name := "<init>", desc := "()V", sig := { parameters := [], returnType := none }, accessFlags := 1, code := none }
def k8c1 : Code := { maxStack := 5, maxLocals := 2, code := jdk_42_method_3_code, exceptionTable := #[], attributes := #[] }
def k8m1 : Method := { name := "<init>", desc := "([C)V", sig := { parameters := [(.array .char)], returnType := none }, accessFlags := 1, code := some k8c1 }
def k8c2 : Code := { maxStack := 4, maxLocals := 6, code := jdk_42_method_149_code, exceptionTable := #[], attributes := #[] }
def k8m2 : Method := { name := "<init>", desc := "([CIILjava/lang/Void;)V", sig := { parameters := [(.array .char), .int, .int, (.object "java/lang/Void")], returnType := none }, accessFlags := 2, code := some k8c2 }
/-- java/lang/String -/
def k8 : Class := { plain "java/lang/String" (some 0) with
  accessFlags := 49
  interfaces := #[3, 4, 5, 6, 7]
  cf := some (fileOf pool8 10 #[.nestMembers #[1103]] #[{ accessFlags := 1, nameIndex := 5, descriptorIndex := 6, attributes := #[] }, { accessFlags := 1, nameIndex := 5, descriptorIndex := 1010, attributes := #[] }, { accessFlags := 2, nameIndex := 5, descriptorIndex := 29, attributes := #[] }] 49 2 #[1106, 1108, 575, 1110, 1112] #[{ accessFlags := 18, nameIndex := 13, descriptorIndex := 14, attributes := #[] }, { accessFlags := 18, nameIndex := 17, descriptorIndex := 18, attributes := #[] }, { accessFlags := 2, nameIndex := 21, descriptorIndex := 22, attributes := #[] }, { accessFlags := 2, nameIndex := 25, descriptorIndex := 26, attributes := #[] }, { accessFlags := 26, nameIndex := 1116, descriptorIndex := 1117, attributes := #[] }, { accessFlags := 24, nameIndex := 40, descriptorIndex := 26, attributes := #[] }, { accessFlags := 26, nameIndex := 1101, descriptorIndex := 1102, attributes := #[] }, { accessFlags := 26, nameIndex := 1121, descriptorIndex := 1122, attributes := #[] }, { accessFlags := 25, nameIndex := 599, descriptorIndex := 600, attributes := #[] }, { accessFlags := 24, nameIndex := 1125, descriptorIndex := 18, attributes := #[] }, { accessFlags := 24, nameIndex := 1127, descriptorIndex := 18, attributes := #[] }])
  fields := #[{ name := "value", type := (.array .byte), accessFlags := 18, slot := 0, constantValue := 0 }, { name := "coder", type := .byte, accessFlags := 18, slot := 1, constantValue := 0 }, { name := "hash", type := .int, accessFlags := 2, slot := 2, constantValue := 0 }, { name := "hashIsZero", type := .boolean, accessFlags := 2, slot := 3, constantValue := 0 }, { name := "serialVersionUID", type := .long, accessFlags := 26, slot := 0, constantValue := 0 }, { name := "COMPACT_STRINGS", type := .boolean, accessFlags := 24, slot := 1, constantValue := 0 }, { name := "serialPersistentFields", type := (.array (.object "java/io/ObjectStreamField")), accessFlags := 26, slot := 2, constantValue := 0 }, { name := "REPL", type := .char, accessFlags := 26, slot := 3, constantValue := 0 }, { name := "CASE_INSENSITIVE_ORDER", type := (.object "java/util/Comparator"), accessFlags := 25, slot := 4, constantValue := 0 }, { name := "LATIN1", type := .byte, accessFlags := 24, slot := 5, constantValue := 0 }, { name := "UTF16", type := .byte, accessFlags := 24, slot := 6, constantValue := 0 }]
  methods := #[k8m0, k8m1, k8m2]
  instanceTypes := #[(.array .byte), .byte, .int, .boolean]
  staticTypes := #[.long, .boolean, (.array (.object "java/io/ObjectStreamField")), .char, (.object "java/util/Comparator"), .byte, .byte]
  resolved := Array.replicate 1451 none
  statics := some 0 }

def pool9 : Array CpInfo := pool [(6, .class_ 8), (1, u "java/lang/Object"), (0, u "<init>"), (0, u "()V"), (1, .class_ 14), (1, u "java/lang/StringUTF16"), (31, u "$assertionsDisabled"), (0, u "Z"), (13, u "HI_BYTE_SHIFT"), (0, u "I"), (2, u "LO_BYTE_SHIFT"), (49, .methodref 12 116), (0, .nameAndType 117 118), (0, u "compress"), (0, u "([CI[BII)I"), (3, u "([CII)[B"), (138, u "coderFromArrayLen"), (0, u "([BI)B"), (106, .class_ 371), (1, u "java/lang/StringUTF16$LinesSpliterator"), (58, u "MAX_LENGTH"), (196, .class_ 628), (0, u "java/lang/StringUTF16$CodePointsSpliterator"), (0, .class_ 630), (0, u "java/lang/StringUTF16$CharsSpliterator")] 4

def k9m0 : Method := { name := "<init>", desc := "()V", sig := { parameters := [], returnType := none }, accessFlags := 0, code := none }
def k9c1 : Code := { maxStack := 2, maxLocals := 2, code := jdk_52_method_15_code, exceptionTable := #[], attributes := #[] }
def k9m1 : Method := { name := "coderFromArrayLen", desc := "([BI)B", sig := { parameters := [(.array .byte), .int], returnType := some .byte }, accessFlags := 8, code := some k9c1 }
def k9c2 : Code := { maxStack := 5, maxLocals := 6, code := jdk_52_method_16_code, exceptionTable := #[], attributes := #[] }
def k9m2 : Method := { name := "compress", desc := "([CII)[B", sig := { parameters := [(.array .char), .int, .int], returnType := some (.array .byte) }, accessFlags := 9, code := some k9c2 }
def k9c3 : Code := { maxStack := 3, maxLocals := 7, code := jdk_52_method_21_code, exceptionTable := #[], attributes := #[] }
def k9m3 : Method := { name := "compress", desc := "([CI[BII)I", sig := { parameters := [(.array .char), .int, (.array .byte), .int, .int], returnType := some .int }, accessFlags := 9, code := some k9c3 }
/-- java/lang/StringUTF16 -/
def k9 : Class := { plain "java/lang/StringUTF16" (some 0) with
  accessFlags := 48
  interfaces := #[]
  cf := some (fileOf pool9 12 #[.nestMembers #[627, 629, 369]] #[{ accessFlags := 0, nameIndex := 9, descriptorIndex := 10, attributes := #[] }, { accessFlags := 8, nameIndex := 261, descriptorIndex := 262, attributes := #[] }, { accessFlags := 9, nameIndex := 117, descriptorIndex := 122, attributes := #[] }, { accessFlags := 9, nameIndex := 117, descriptorIndex := 118, attributes := #[] }] 48 6 #[] #[{ accessFlags := 26, nameIndex := 61, descriptorIndex := 62, attributes := #[] }, { accessFlags := 26, nameIndex := 65, descriptorIndex := 62, attributes := #[] }, { accessFlags := 24, nameIndex := 430, descriptorIndex := 62, attributes := #[] }, { accessFlags := 4120, nameIndex := 46, descriptorIndex := 47, attributes := #[] }])
  fields := #[{ name := "HI_BYTE_SHIFT", type := .int, accessFlags := 26, slot := 0, constantValue := 0 }, { name := "LO_BYTE_SHIFT", type := .int, accessFlags := 26, slot := 1, constantValue := 0 }, { name := "MAX_LENGTH", type := .int, accessFlags := 24, slot := 2, constantValue := 0 }, { name := "$assertionsDisabled", type := .boolean, accessFlags := 4120, slot := 3, constantValue := 0 }]
  methods := #[k9m0, k9m1, k9m2, k9m3]
  instanceTypes := #[]
  staticTypes := #[.int, .int, .int, .boolean]
  resolved := Array.replicate 635 none
  statics := none }

def pool10 : Array CpInfo := pool [(2, .class_ 4), (1, u "java/lang/Object"), (0, u "<init>"), (0, u "()V"), (35, .class_ 44), (1, u "java/util/Objects"), (0, u "requireNonNull"), (48, u "(Ljava/lang/Object;Ljava/lang/String;)Ljava/lang/Object;")] 89

def k10m0 : Method := { name := "<init>", desc := "()V", sig := { parameters := [], returnType := none }, accessFlags := 2, code := none }
def k10c1 : Code := { maxStack := 3, maxLocals := 2, code := jdk_31_method_11_code, exceptionTable := #[], attributes := #[] }
def k10m1 : Method := { name := "requireNonNull", desc := "(Ljava/lang/Object;Ljava/lang/String;)Ljava/lang/Object;", sig := { parameters := [(.object "java/lang/Object"), (.object "java/lang/String")], returnType := some (.object "java/lang/Object") }, accessFlags := 9, code := some k10c1 }
/-- java/util/Objects -/
def k10 : Class := { plain "java/util/Objects" (some 0) with
  accessFlags := 49
  interfaces := #[]
  cf := some (fileOf pool10 42 #[] #[{ accessFlags := 2, nameIndex := 5, descriptorIndex := 6, attributes := #[] }, { accessFlags := 9, nameIndex := 45, descriptorIndex := 94, attributes := #[] }] 49 2 #[] #[])
  fields := #[]
  methods := #[k10m0, k10m1]
  instanceTypes := #[]
  staticTypes := #[]
  resolved := Array.replicate 184 none
  statics := none }

def pool11 : Array CpInfo := pool [(1, .class_ 2), (0, u "java/lang/Cloneable"), (0, .class_ 4), (0, u "java/lang/Object")] 2

/-- java/lang/Cloneable -/
def k11 : Class := { plain "java/lang/Cloneable" (some 0) with
  accessFlags := 1537
  interfaces := #[]
  cf := some (fileOf pool11 1 #[] #[] 1537 3 #[] #[])
  fields := #[]
  methods := #[]
  instanceTypes := #[]
  staticTypes := #[]
  resolved := Array.replicate 7 none
  statics := none }

def pool12 : Array CpInfo := pool [(4, .class_ 6), (1, u "java/lang/Object"), (0, u "<init>"), (0, u "()V"), (5, .class_ 16), (1, u "java/lang/StringLatin1"), (104, u "$assertionsDisabled"), (0, u "Z"), (98, .class_ 223), (1, u "java/lang/StringLatin1$LinesSpliterator"), (166, .class_ 391), (0, u "java/lang/StringLatin1$CharsSpliterator")] 3

def k12m0 : Method := { name := "<init>", desc := "()V", sig := { parameters := [], returnType := none }, accessFlags := 0, code := none }
/-- java/lang/StringLatin1 -/
def k12 : Class := { plain "java/lang/StringLatin1" (some 0) with
  accessFlags := 48
  interfaces := #[]
  cf := some (fileOf pool12 14 #[.nestMembers #[390, 221]] #[{ accessFlags := 0, nameIndex := 7, descriptorIndex := 8, attributes := #[] }] 48 4 #[] #[{ accessFlags := 4120, nameIndex := 121, descriptorIndex := 122, attributes := #[] }])
  fields := #[{ name := "$assertionsDisabled", type := .boolean, accessFlags := 4120, slot := 0, constantValue := 0 }]
  methods := #[k12m0]
  instanceTypes := #[]
  staticTypes := #[.boolean]
  resolved := Array.replicate 395 none
  statics := none }

def pool13 : Array CpInfo := pool [(2, .class_ 4), (1, u "java/lang/Object"), (0, u "<init>"), (0, u "()V"), (17, .class_ 26), (1, u "jdk/internal/util/Preconditions"), (28, .class_ 56), (0, u "jdk/internal/util/Preconditions$4"), (57, .class_ 115), (0, u "jdk/internal/util/Preconditions$1"), (7, u "SIOOBE_FORMATTER"), (0, u "Ljava/util/function/BiFunction;"), (0, .class_ 126), (0, u "jdk/internal/util/Preconditions$2"), (3, u "AIOOBE_FORMATTER"), (0, .class_ 132), (0, u "jdk/internal/util/Preconditions$3"), (3, u "IOOBE_FORMATTER")] 57

def k13m0 : Method := { name := "<init>", desc := "()V", sig := { parameters := [], returnType := none }, accessFlags := 1, code := none }
/-- jdk/internal/util/Preconditions -/
def k13 : Class := { plain "jdk/internal/util/Preconditions" (some 0) with
  accessFlags := 33
  interfaces := #[]
  cf := some (fileOf pool13 24 #[.nestMembers #[55, 131, 125, 114]] #[{ accessFlags := 1, nameIndex := 5, descriptorIndex := 6, attributes := #[] }] 33 2 #[] #[{ accessFlags := 25, nameIndex := 123, descriptorIndex := 124, attributes := #[] }, { accessFlags := 25, nameIndex := 130, descriptorIndex := 124, attributes := #[] }, { accessFlags := 25, nameIndex := 136, descriptorIndex := 124, attributes := #[] }])
  fields := #[{ name := "SIOOBE_FORMATTER", type := (.object "java/util/function/BiFunction"), accessFlags := 25, slot := 0, constantValue := 0 }, { name := "AIOOBE_FORMATTER", type := (.object "java/util/function/BiFunction"), accessFlags := 25, slot := 1, constantValue := 0 }, { name := "IOOBE_FORMATTER", type := (.object "java/util/function/BiFunction"), accessFlags := 25, slot := 2, constantValue := 0 }]
  methods := #[k13m0]
  instanceTypes := #[]
  staticTypes := #[(.object "java/util/function/BiFunction"), (.object "java/util/function/BiFunction"), (.object "java/util/function/BiFunction")]
  resolved := Array.replicate 194 none
  statics := some 1 }

def pool14 : Array CpInfo := pool [(9, u "<init>"), (6, .class_ 18), (1, u "java/lang/Object"), (0, u "()V"), (1, .class_ 23), (1, u "jdk/internal/util/ArraysSupport"), (0, u "LOG2_ARRAY_LONG_INDEX_SCALE"), (0, u "I"), (2, u "U"), (0, u "Ljdk/internal/misc/Unsafe;"), (8, u "BIG_ENDIAN"), (0, u "Z"), (8, u "LOG2_BYTE_BIT_SIZE"), (4, u "LOG2_ARRAY_INT_INDEX_SCALE"), (54, u "JLA"), (0, u "Ljdk/internal/access/JavaLangAccess;"), (11, u "LOG2_ARRAY_BOOLEAN_INDEX_SCALE"), (9, u "LOG2_ARRAY_BYTE_INDEX_SCALE"), (5, u "LOG2_ARRAY_CHAR_INDEX_SCALE"), (5, u "LOG2_ARRAY_SHORT_INDEX_SCALE"), (18, u "LOG2_ARRAY_FLOAT_INDEX_SCALE"), (24, u "LOG2_ARRAY_DOUBLE_INDEX_SCALE"), (89, u "T_BOOLEAN"), (2, u "T_CHAR"), (1, u "T_FLOAT"), (1, u "T_DOUBLE"), (1, u "T_BYTE"), (1, u "T_SHORT"), (1, u "T_INT"), (1, u "T_LONG"), (1, u "SOFT_MAX_ARRAY_LENGTH")] 83

def k14m0 : Method := { name := "<init>", desc := "()V", sig := { parameters := [], returnType := none }, accessFlags := 2, code := none }
/-- jdk/internal/util/ArraysSupport -/
def k14 : Class := { plain "jdk/internal/util/ArraysSupport" (some 0) with
  accessFlags := 33
  interfaces := #[]
  cf := some (fileOf pool14 21 #[] #[{ accessFlags := 2, nameIndex := 9, descriptorIndex := 19, attributes := #[] }] 33 16 #[] #[{ accessFlags := 24, nameIndex := 28, descriptorIndex := 29, attributes := #[] }, { accessFlags := 26, nameIndex := 38, descriptorIndex := 39, attributes := #[] }, { accessFlags := 25, nameIndex := 121, descriptorIndex := 25, attributes := #[] }, { accessFlags := 25, nameIndex := 131, descriptorIndex := 25, attributes := #[] }, { accessFlags := 25, nameIndex := 137, descriptorIndex := 25, attributes := #[] }, { accessFlags := 25, nameIndex := 143, descriptorIndex := 25, attributes := #[] }, { accessFlags := 25, nameIndex := 53, descriptorIndex := 25, attributes := #[] }, { accessFlags := 25, nameIndex := 24, descriptorIndex := 25, attributes := #[] }, { accessFlags := 25, nameIndex := 162, descriptorIndex := 25, attributes := #[] }, { accessFlags := 25, nameIndex := 187, descriptorIndex := 25, attributes := #[] }, { accessFlags := 26, nameIndex := 48, descriptorIndex := 25, attributes := #[] }, { accessFlags := 25, nameIndex := 277, descriptorIndex := 25, attributes := #[] }, { accessFlags := 25, nameIndex := 280, descriptorIndex := 25, attributes := #[] }, { accessFlags := 25, nameIndex := 282, descriptorIndex := 25, attributes := #[] }, { accessFlags := 25, nameIndex := 284, descriptorIndex := 25, attributes := #[] }, { accessFlags := 25, nameIndex := 286, descriptorIndex := 25, attributes := #[] }, { accessFlags := 25, nameIndex := 288, descriptorIndex := 25, attributes := #[] }, { accessFlags := 25, nameIndex := 290, descriptorIndex := 25, attributes := #[] }, { accessFlags := 25, nameIndex := 292, descriptorIndex := 25, attributes := #[] }, { accessFlags := 26, nameIndex := 108, descriptorIndex := 109, attributes := #[] }, { accessFlags := 25, nameIndex := 294, descriptorIndex := 25, attributes := #[] }])
  fields := #[{ name := "U", type := (.object "jdk/internal/misc/Unsafe"), accessFlags := 24, slot := 0, constantValue := 0 }, { name := "BIG_ENDIAN", type := .boolean, accessFlags := 26, slot := 1, constantValue := 0 }, { name := "LOG2_ARRAY_BOOLEAN_INDEX_SCALE", type := .int, accessFlags := 25, slot := 2, constantValue := 0 }, { name := "LOG2_ARRAY_BYTE_INDEX_SCALE", type := .int, accessFlags := 25, slot := 3, constantValue := 0 }, { name := "LOG2_ARRAY_CHAR_INDEX_SCALE", type := .int, accessFlags := 25, slot := 4, constantValue := 0 }, { name := "LOG2_ARRAY_SHORT_INDEX_SCALE", type := .int, accessFlags := 25, slot := 5, constantValue := 0 }, { name := "LOG2_ARRAY_INT_INDEX_SCALE", type := .int, accessFlags := 25, slot := 6, constantValue := 0 }, { name := "LOG2_ARRAY_LONG_INDEX_SCALE", type := .int, accessFlags := 25, slot := 7, constantValue := 0 }, { name := "LOG2_ARRAY_FLOAT_INDEX_SCALE", type := .int, accessFlags := 25, slot := 8, constantValue := 0 }, { name := "LOG2_ARRAY_DOUBLE_INDEX_SCALE", type := .int, accessFlags := 25, slot := 9, constantValue := 0 }, { name := "LOG2_BYTE_BIT_SIZE", type := .int, accessFlags := 26, slot := 10, constantValue := 0 }, { name := "T_BOOLEAN", type := .int, accessFlags := 25, slot := 11, constantValue := 0 }, { name := "T_CHAR", type := .int, accessFlags := 25, slot := 12, constantValue := 0 }, { name := "T_FLOAT", type := .int, accessFlags := 25, slot := 13, constantValue := 0 }, { name := "T_DOUBLE", type := .int, accessFlags := 25, slot := 14, constantValue := 0 }, { name := "T_BYTE", type := .int, accessFlags := 25, slot := 15, constantValue := 0 }, { name := "T_SHORT", type := .int, accessFlags := 25, slot := 16, constantValue := 0 }, { name := "T_INT", type := .int, accessFlags := 25, slot := 17, constantValue := 0 }, { name := "T_LONG", type := .int, accessFlags := 25, slot := 18, constantValue := 0 }, { name := "JLA", type := (.object "jdk/internal/access/JavaLangAccess"), accessFlags := 26, slot := 19, constantValue := 0 }, { name := "SOFT_MAX_ARRAY_LENGTH", type := .int, accessFlags := 25, slot := 20, constantValue := 0 }]
  methods := #[k14m0]
  instanceTypes := #[]
  staticTypes := #[(.object "jdk/internal/misc/Unsafe"), .boolean, .int, .int, .int, .int, .int, .int, .int, .int, .int, .int, .int, .int, .int, .int, .int, .int, .int, (.object "jdk/internal/access/JavaLangAccess"), .int]
  resolved := Array.replicate 378 none
  statics := none }

/-- the primitive byte -/
def k15 : Class := { plain "byte" none with kind := .primitive 'B', accessFlags := 0x411 }
/-- [B -/
def k16 : Class := { plain "[B" (some 0) with kind := .array 15 .byte, interfaces := #[11, 3], accessFlags := 1041 }

/-- the primitive char -/
def k17 : Class := { plain "char" none with kind := .primitive 'C', accessFlags := 0x411 }
/-- [C -/
def k18 : Class := { plain "[C" (some 0) with kind := .array 17 .char, interfaces := #[11, 3], accessFlags := 1041 }

/-- the primitive int -/
def k19 : Class := { plain "int" none with kind := .primitive 'I', accessFlags := 0x411 }
/-- [I -/
def k20 : Class := { plain "[I" (some 0) with kind := .array 19 .int, interfaces := #[11, 3], accessFlags := 1041 }

/-- the primitive long -/
def k21 : Class := { plain "long" none with kind := .primitive 'J', accessFlags := 0x411 }
/-- [J -/
def k22 : Class := { plain "[J" (some 0) with kind := .array 21 .long, interfaces := #[11, 3], accessFlags := 1041 }

def heap : Heap := #[{ cls := 8, slots := #[.long 0, .int 1, .null, .int 0, .null, .int 0, .int 0], vm := .statics 8 },
  { cls := 13, slots := #[.null, .null, .null], vm := .statics 13 }]
def classes : Array Class := #[k0, k1, k2, k3, k4, k5, k6, k7, k8, k9, k10, k11, k12, k13, k14, k15, k16, k17, k18, k19, k20, k21, k22]
def interned : List (Array UInt16 × Addr) := []
def slotsUsed : Nat := 10
def theMethod : MethodId := ⟨1, 1⟩
def args0 : Array Value := #[.long 5, .long 5, .long 5, .long 5, .int 5]
def aboutOver (below : List Frame) : State where
  vm := { classes := classes, interned := interned.toArray }
  heap := heap
  slotsUsed := slotsUsed
  threads := #[{ frames := .invoking theMethod args0 :: below }]
def below0 : List Frame := [.native { method := ⟨0, 0⟩, args := #[] }]
def about1 : State := aboutOver below0
def p0 : Program := .bare "" "" ""
def e0 : Env := launch0.env 0 0 0
theorem w_frames : about1.frames = Frame.invoking theMethod args0 :: below0 := rfl
set_option maxRecDepth 65536 in
theorem w_args : argsFit about1.vm theMethod args0 = true := by decide +kernel
set_option maxRecDepth 65536 in
theorem w_heap : heapFits about1 = true := by decide +kernel
set_option maxRecDepth 65536 in
theorem w_runnable : about1.curStatus? = some .runnable := by decide +kernel
set_option maxRecDepth 65536 in
theorem w_alone : about1.alone = true := by decide +kernel
set_option maxRecDepth 65536 in
theorem w_named : about1.methodNamed? x = some theMethod := by decide +kernel
set_option maxRecDepth 65536 in
theorem w_hears : about1.hears theMethod below0 = true := by decide +kernel
set_option maxRecDepth 65536 in
theorem w_ripe : about1.ripe theMethod args0 below0 = true := by decide +kernel
theorem w_running : about1.status = .running := rfl
set_option maxRecDepth 65536 in
theorem w_room : about1.hasRoom e0.platform room_1 = true :=
  launch0.hasRoom_least _ room_1 (by decide +kernel) (by decide +kernel) (by decide +kernel) (by decide +kernel) (by decide +kernel) (by decide +kernel)
theorem allAtoms_all (ts : List Jvm.Cond) (a : Array Jvm.Value) (st : Jvm.State) : (allAtoms ts).before a st = ts.all (fun c => c.before a st) := by
  induction ts with
  | nil => rfl
  | cons c t ih =>
    show (Jvm.Cond.and c (allAtoms t)).before a st = _
    rw [Jvm.Cond.before_and, ih, List.all_cons]
def words1 : List Jvm.Cond := Jvm.Cond.code x code maxLocals ret :: tables_1
/-- a 'code' word, met by the world's own term for the bytes: nothing is compared byte by byte -/
theorem code_word {y : MethodName} {bytes : ByteArray} {mx : Nat} {rt : Option FieldType} {a : Array Value} {s : State} {m : MethodId} {meth : Method} {c : Code} (h1 : s.methodNamed? y = some m) (h2 : s.vm.method? m = some meth) (h3 : meth.code = some c) (h4 : c.code = bytes)
    (h5 : (c.maxLocals == mx && c.exceptionTable.isEmpty && decide (c.maxStack ≤ mostOperands) && decide (meth.sig.returnType = rt) && !meth.locks && decide (parseMethodDescriptor y.desc = some meth.sig)) = true) : (Jvm.Cond.code y bytes mx rt).before a s = true := by
  simp only [Bool.and_eq_true, beq_iff_eq, Bool.not_eq_true', decide_eq_true_eq] at h5
  obtain ⟨⟨⟨⟨⟨g1, g2⟩, g3⟩, g4⟩, g5⟩, g6⟩ := h5
  simp [Cond.before, Cond.holds, Cond.value, h1, h2, h3, h4, g1, g2, g3, g4, g5, g6]
def isCode : Jvm.Cond → Bool
  | .code _ _ _ _ => true
  | _ => false
theorem all_split {L : List Jvm.Cond} {P : Jvm.Cond → Bool} (h1 : L.all (fun c => isCode c || P c) = true) (h2 : ∀ c ∈ L.filter isCode, P c = true) : L.all P = true := by
  refine List.all_eq_true.mpr fun c hc => ?_
  have h := List.all_eq_true.mp h1 c hc
  rcases Bool.eq_false_or_eq_true (isCode c) with hi | hi
  · exact h2 c (List.mem_filter.mpr ⟨hc, hi⟩)
  · simpa [hi] using h
set_option maxRecDepth 65536 in
theorem w_c0 : (Jvm.Cond.code x code maxLocals ret).before args0 about1 = true := code_word (m := ⟨1, 1⟩) (meth := k1m1) (c := k1c1) (by decide +kernel) rfl rfl rfl (by decide +kernel)
set_option maxRecDepth 65536 in
theorem w_c1 : (Jvm.Cond.code ({ cls := "java/lang/String", name := "<init>", desc := "([C)V" } : Jvm.MethodName) jdk_42_method_3_code (2 : Nat) (Option.none : Option Jvm.ClassFile.FieldType)).before args0 about1 = true := code_word (m := ⟨8, 1⟩) (meth := k8m1) (c := k8c1) (by decide +kernel) rfl rfl rfl (by decide +kernel)
set_option maxRecDepth 65536 in
theorem w_c2 : (Jvm.Cond.code ({ cls := "java/lang/String", name := "<init>", desc := "([CIILjava/lang/Void;)V" } : Jvm.MethodName) jdk_42_method_149_code (6 : Nat) (Option.none : Option Jvm.ClassFile.FieldType)).before args0 about1 = true := code_word (m := ⟨8, 2⟩) (meth := k8m2) (c := k8c2) (by decide +kernel) rfl rfl rfl (by decide +kernel)
set_option maxRecDepth 65536 in
theorem w_c3 : (Jvm.Cond.code ({ cls := "java/lang/Object", name := "<init>", desc := "()V" } : Jvm.MethodName) object_method_1_code (1 : Nat) (Option.none : Option Jvm.ClassFile.FieldType)).before args0 about1 = true := code_word (m := ⟨0, 0⟩) (meth := k0m0) (c := k0c0) (by decide +kernel) rfl rfl rfl (by decide +kernel)
set_option maxRecDepth 65536 in
theorem w_c4 : (Jvm.Cond.code ({ cls := "java/lang/StringUTF16", name := "compress", desc := "([CII)[B" } : Jvm.MethodName) jdk_52_method_16_code (6 : Nat) (Option.some (Jvm.ClassFile.FieldType.array Jvm.ClassFile.FieldType.byte))).before args0 about1 = true := code_word (m := ⟨9, 2⟩) (meth := k9m2) (c := k9c2) (by decide +kernel) rfl rfl rfl (by decide +kernel)
set_option maxRecDepth 65536 in
theorem w_c5 : (Jvm.Cond.code ({ cls := "java/lang/StringUTF16", name := "compress", desc := "([CI[BII)I" } : Jvm.MethodName) jdk_52_method_21_code (7 : Nat) (Option.some Jvm.ClassFile.FieldType.int)).before args0 about1 = true := code_word (m := ⟨9, 3⟩) (meth := k9m3) (c := k9c3) (by decide +kernel) rfl rfl rfl (by decide +kernel)
set_option maxRecDepth 65536 in
theorem w_c6 : (Jvm.Cond.code ({ cls := "java/lang/StringUTF16", name := "coderFromArrayLen", desc := "([BI)B" } : Jvm.MethodName) jdk_52_method_15_code (2 : Nat) (Option.some Jvm.ClassFile.FieldType.byte)).before args0 about1 = true := code_word (m := ⟨9, 1⟩) (meth := k9m1) (c := k9c1) (by decide +kernel) rfl rfl rfl (by decide +kernel)
set_option maxRecDepth 65536 in
theorem w_c7 : (Jvm.Cond.code ({ cls := "com/example/rhadamanthus/rhadamanthus/board/Entry", name := "<init>", desc := "(JJLjava/lang/String;[J)V" } : Jvm.MethodName) prog_1_method_2_code (7 : Nat) (Option.none : Option Jvm.ClassFile.FieldType)).before args0 about1 = true := code_word (m := ⟨2, 0⟩) (meth := k2m0) (c := k2c0) (by decide +kernel) rfl rfl rfl (by decide +kernel)
set_option maxRecDepth 65536 in
theorem w_c8 : (Jvm.Cond.code ({ cls := "java/util/Objects", name := "requireNonNull", desc := "(Ljava/lang/Object;Ljava/lang/String;)Ljava/lang/Object;" } : Jvm.MethodName) jdk_31_method_11_code (2 : Nat) (Option.some (Jvm.ClassFile.FieldType.object "java/lang/Object"))).before args0 about1 = true := code_word (m := ⟨10, 1⟩) (meth := k10m1) (c := k10c1) (by decide +kernel) rfl rfl rfl (by decide +kernel)
set_option maxRecDepth 65536 in
theorem w_c9 : (Jvm.Cond.code ({ cls := "com/example/rhadamanthus/rhadamanthus/board/Entry", name := "getPoints", desc := "()J" } : Jvm.MethodName) prog_1_method_7_code (1 : Nat) (Option.some Jvm.ClassFile.FieldType.long)).before args0 about1 = true := code_word (m := ⟨2, 2⟩) (meth := k2m2) (c := k2c2) (by decide +kernel) rfl rfl rfl (by decide +kernel)
set_option maxRecDepth 65536 in
theorem w_c10 : (Jvm.Cond.code ({ cls := "com/example/rhadamanthus/rhadamanthus/board/Entry", name := "getValues", desc := "()[J" } : Jvm.MethodName) prog_1_method_6_code (1 : Nat) (Option.some (Jvm.ClassFile.FieldType.array Jvm.ClassFile.FieldType.long))).before args0 about1 = true := code_word (m := ⟨2, 1⟩) (meth := k2m1) (c := k2c1) (by decide +kernel) rfl rfl rfl (by decide +kernel)
def codes1 : List Jvm.Cond := [Jvm.Cond.code x code maxLocals ret, Jvm.Cond.code ({ cls := "java/lang/String", name := "<init>", desc := "([C)V" } : Jvm.MethodName) jdk_42_method_3_code (2 : Nat) (Option.none : Option Jvm.ClassFile.FieldType), Jvm.Cond.code ({ cls := "java/lang/String", name := "<init>", desc := "([CIILjava/lang/Void;)V" } : Jvm.MethodName) jdk_42_method_149_code (6 : Nat) (Option.none : Option Jvm.ClassFile.FieldType), Jvm.Cond.code ({ cls := "java/lang/Object", name := "<init>", desc := "()V" } : Jvm.MethodName) object_method_1_code (1 : Nat) (Option.none : Option Jvm.ClassFile.FieldType), Jvm.Cond.code ({ cls := "java/lang/StringUTF16", name := "compress", desc := "([CII)[B" } : Jvm.MethodName) jdk_52_method_16_code (6 : Nat) (Option.some (Jvm.ClassFile.FieldType.array Jvm.ClassFile.FieldType.byte)), Jvm.Cond.code ({ cls := "java/lang/StringUTF16", name := "compress", desc := "([CI[BII)I" } : Jvm.MethodName) jdk_52_method_21_code (7 : Nat) (Option.some Jvm.ClassFile.FieldType.int), Jvm.Cond.code ({ cls := "java/lang/StringUTF16", name := "coderFromArrayLen", desc := "([BI)B" } : Jvm.MethodName) jdk_52_method_15_code (2 : Nat) (Option.some Jvm.ClassFile.FieldType.byte), Jvm.Cond.code ({ cls := "com/example/rhadamanthus/rhadamanthus/board/Entry", name := "<init>", desc := "(JJLjava/lang/String;[J)V" } : Jvm.MethodName) prog_1_method_2_code (7 : Nat) (Option.none : Option Jvm.ClassFile.FieldType), Jvm.Cond.code ({ cls := "java/util/Objects", name := "requireNonNull", desc := "(Ljava/lang/Object;Ljava/lang/String;)Ljava/lang/Object;" } : Jvm.MethodName) jdk_31_method_11_code (2 : Nat) (Option.some (Jvm.ClassFile.FieldType.object "java/lang/Object")), Jvm.Cond.code ({ cls := "com/example/rhadamanthus/rhadamanthus/board/Entry", name := "getPoints", desc := "()J" } : Jvm.MethodName) prog_1_method_7_code (1 : Nat) (Option.some Jvm.ClassFile.FieldType.long), Jvm.Cond.code ({ cls := "com/example/rhadamanthus/rhadamanthus/board/Entry", name := "getValues", desc := "()[J" } : Jvm.MethodName) prog_1_method_6_code (1 : Nat) (Option.some (Jvm.ClassFile.FieldType.array Jvm.ClassFile.FieldType.long))]
set_option maxRecDepth 65536 in
theorem codes_eq : words1.filter isCode = codes1 := rfl
theorem w_codes : ∀ c ∈ words1.filter isCode, c.before args0 about1 = true := by
  rw [codes_eq]
  intro c hc
  simp only [codes1, List.mem_cons, List.not_mem_nil, or_false] at hc
  rcases hc with rfl | rfl | rfl | rfl | rfl | rfl | rfl | rfl | rfl | rfl | rfl
  · exact w_c0
  · exact w_c1
  · exact w_c2
  · exact w_c3
  · exact w_c4
  · exact w_c5
  · exact w_c6
  · exact w_c7
  · exact w_c8
  · exact w_c9
  · exact w_c10
set_option maxRecDepth 65536 in
theorem w_t1 : (words1.take 24).all (fun c => isCode c || c.before args0 about1) = true := by decide +kernel
set_option maxRecDepth 65536 in
theorem w_t2 : ((words1.drop 24).take 24).all (fun c => isCode c || c.before args0 about1) = true := by decide +kernel
set_option maxRecDepth 65536 in
theorem w_t3 : (((words1.drop 24).drop 24).take 24).all (fun c => isCode c || c.before args0 about1) = true := by decide +kernel
set_option maxRecDepth 65536 in
theorem w_t4 : (((words1.drop 24).drop 24).drop 24).all (fun c => isCode c || c.before args0 about1) = true := by decide +kernel
theorem w_tables : (allAtoms (Jvm.Cond.code x code maxLocals ret :: tables_1)).before args0 about1 = true := by
  rw [allAtoms_all]
  show words1.all (fun c => c.before args0 about1) = true
  refine all_split ?_ w_codes
  rw [← List.take_append_drop 24 words1, List.all_append, w_t1, ← List.take_append_drop 24 (words1.drop 24), List.all_append, w_t2, ← List.take_append_drop 24 ((words1.drop 24).drop 24), List.all_append, w_t3, w_t4]
  rfl
set_option maxRecDepth 65536 in
theorem w_rest : rest_1_c.before args0 about1 = true := by decide +kernel
set_option maxRecDepth 65536 in
theorem w_case : (Jvm.Cond.and given_1 narrow_1).before args0 about1 = true := by decide +kernel
theorem w_applies : (headSpec (Jvm.Cond.code x code maxLocals ret :: tables_1) room_1).applies x e0.platform about1 = true :=
  (Spec.applies_iff w_frames).mpr ⟨w_running, w_runnable, w_alone, w_named, w_hears, w_ripe, w_room, w_tables⟩
theorem atStart : AtStart classFile x code maxLocals ret World_1 tables_1 room_1 Calls_1 rest_1 Pre_1 launch0 p0 e0 about1 theMethod args0 below0 :=
  ⟨lists_1, trivial, launch0.admits_env _ _ _, launch0.least_env, fairChoices_fair.cas, fairChoices_fair.clock, w_frames, w_args, w_heap, w_applies, trivial, w_rest, w_case⟩
end start1
theorem witness_1 : WitnessClaimed_1 := ⟨start1.p0, start1.e0, start1.about1, start1.theMethod, start1.args0, start1.below0, start1.atStart⟩
end Jvm.Pilot.@@N@@
