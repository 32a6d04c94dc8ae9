import JvmDerived
import JvmDerived.Pilot.@@N@@Statement
import JvmDerived.Pilot.@@N@@Code
set_option linter.unusedVariables false
set_option linter.unusedSimpArgs false
namespace Jvm.Pilot.@@N@@
open Jvm Jvm.ClassFile Sem Op Lib Jvm.Free Jvm.Stand Jvm.LawKit Jvm.RoadKit Bundle Jvm.Pilot.@@N@@.Jvm.D
abbrev jv (x : Int64) : Slot := .val (.long x)
theorem ow {Z : State} {a0 : Array Value} (hw : ∀ d ∈ tables_1, d.before a0 Z = true) (i : Nat) {d : Jvm.Cond} (h : tables_1[i]? = some d) : d.before a0 Z = true := hw _ (List.mem_of_getElem? h)
section OwnKit
variable {p : Program} {l : Launch} {e : Env} {R : Room} {s : State} {m : MethodId} {args : Array Value} {below : List Frame} {meth : Method} {c : Code} {T T' : State} {locs : List Loc} {cells slots kc ks : Nat} {Q : Option Value → Heap → List Loc → Prop} {g g' : JFrame}
/-- from this state and frame on the body ends, and Q holds of what it returns, of the heap and of the places written -/
def OwnG (p : Program) (e : Env) (below : List Frame) (s : State) (kc ks : Nat) (Q : Option Value → Heap → List Loc → Prop) (T : State) (g : JFrame) : Prop :=
  ∃ s₂ o, Steps p.tables e below (T.setTop g) s₂ ∧ s₂.status = .running ∧ Ended s₂ below o ∧ ∃ v L, o = .returned v ∧ Q v s₂.heap L ∧ FrameEnd s o s₂ L kc ks
theorem own_by (k : ∀ t, Steps p.tables e below (T'.setTop g') t → Steps p.tables e below (T.setTop g) t) (h : OwnG p e below s kc ks Q T' g') : OwnG p e below s kc ks Q T g := by
  obtain ⟨s₂, o, st, r⟩ := h
  exact ⟨s₂, o, k _ st, r⟩
theorem own_out (X : Stand p l e R s m args below meth c T locs cells slots) (hlk : meth.locks = false) {v : Option Value} (hv : meth.sig.returnType = none → v = none)
    (hst : ∀ fs, (∀ (f : JFrame) (acts : List Action), f.method = m → f.locked = none → f.entered = [] → (doReturn e (T.setTop f) acts v).1 = T.setFrames fs) → Steps p.tables e below (T.setTop g) (T.setFrames fs))
    (hq : Q v T.heap locs) (hc : cells ≤ kc) (hs : slots ≤ ks) : OwnG p e below s kc ks Q T g := by
  obtain ⟨fs, hr, hrun, hended, hW, hsame⟩ := X.leave (v := v) hv hlk
  exact ⟨_, _, hst fs hr, hrun, hended, v, locs, rfl, hq, ⟨_, rfl⟩, hW, hsame.mono hc hs⟩
def OwnGW (p : Program) (e : Env) (below : List Frame) (s : State) (kc ks : Nat) (Q : Option Value → Heap → List Loc → Prop) (T : State) (g : JFrame) : Prop :=
  ∃ s₂ o, Steps p.tables e below (T.setTop g) s₂ ∧ s₂.status = .running ∧ Ended s₂ below o ∧ ∃ v L, o = .returned v ∧ Q v s₂.heap L ∧ ReturnedEndW s o s₂ L kc ks
theorem own_byW (k : ∀ t, Steps p.tables e below (T'.setTop g') t → Steps p.tables e below (T.setTop g) t) (h : OwnGW p e below s kc ks Q T' g') : OwnGW p e below s kc ks Q T g := by
  obtain ⟨s₂, o, st, r⟩ := h
  exact ⟨s₂, o, k _ st, r⟩
theorem own_outW {vm : Vm} {k : Nat} (X : Stand p l e R (s.setVm vm) m args below meth c T locs cells slots) (hS : s.Since vm k) (hk : k ≤ T.heap.size) (hlk : meth.locks = false) {v : Option Value} (hv : meth.sig.returnType = none → v = none)
    (hst : ∀ fs, (∀ (f : JFrame) (acts : List Action), f.method = m → f.locked = none → f.entered = [] → (doReturn e (T.setTop f) acts v).1 = T.setFrames fs) → Steps p.tables e below (T.setTop g) (T.setFrames fs))
    (hq : Q v T.heap locs) (hc : cells ≤ kc) (hs : slots ≤ ks) : OwnGW p e below s kc ks Q T g := by
  obtain ⟨fs, hr, hrun, hended, h1, h2, h3, h4⟩ := X.leaveW hS hk (v := v) hv hlk
  exact ⟨_, _, hst fs hr, hrun, hended, v, locs, rfl, hq, h1, h2, h3, h4.mono hc hs⟩
def OwnGH (p : Program) (e : Env) (below : List Frame) (s Z : State) (EL : List (String × Nat)) (kc ks : Nat) (Q : Option Value → Heap → List Loc → Prop) (T : State) (g : JFrame) : Prop :=
  ∃ s₂ o, Steps p.tables e below (T.setTop g) s₂ ∧ s₂.status = .running ∧ Ended s₂ below o ∧ ∃ v L, o = .returned v ∧ Q v s₂.heap L ∧ CHr Z EL s.vm s.heap s₂.vm s₂.heap ∧ ReturnedEndW s o s₂ L kc ks
theorem own_byH {Z : State} {EL : List (String × Nat)} (k : ∀ t, Steps p.tables e below (T'.setTop g') t → Steps p.tables e below (T.setTop g) t) (h : OwnGH p e below s Z EL kc ks Q T' g') : OwnGH p e below s Z EL kc ks Q T g := by
  obtain ⟨s₂, o, st, r⟩ := h
  exact ⟨s₂, o, k _ st, r⟩
theorem own_outH {Z : State} {a0 : Array Value} {EL : List (String × Nat)} {h0 : Heap} {vm : Vm} {k : Nat} (X : Stand p l e R (s.setVm vm) m args below meth c T locs cells slots) (hh : s.heap = h0) (hEL : EW Z a0 EL) (hS : s.Since vm k) (hk : k ≤ T.heap.size) (HR : CHr Z EL s.vm h0 vm T.heap) (hZ : Z.Warmed39 vm) (hlk : meth.locks = false) {v : Option Value} (hv : meth.sig.returnType = none → v = none)
    (hst : ∀ fs, (∀ (f : JFrame) (acts : List Action), f.method = m → f.locked = none → f.entered = [] → (doReturn e (T.setTop f) acts v).1 = T.setFrames fs) → Steps p.tables e below (T.setTop g) (T.setFrames fs))
    (hq : Q v T.heap locs) (hc : cells ≤ kc) (hs : slots ≤ ks) : OwnGH p e below s Z EL kc ks Q T g := by
  obtain ⟨fs, hr, hrun, hended, h1, h2, h3, h4⟩ := X.leaveW hS hk (v := v) hv hlk
  have C := HR.trans (CHv.at X hZ hEL HR.1)
  exact ⟨_, _, hst fs hr, hrun, hended, v, locs, rfl, hq, (by rw [hh]; exact C), h1, h2, h3, h4.mono hc hs⟩
theorem own_lt (x y : Int64) : lcmpW x y < 0 ↔ x < y := by rw [lcW]; exact lc_lt x y
theorem own_gt (x y : Int64) : 0 < lcmpW x y ↔ y < x := by rw [lcW]; exact lc_gt x y
theorem own_eq (x y : Int64) : lcmpW x y = 0 ↔ x = y := by rw [lcW]; exact lc_eq x y
theorem own_fldI {Z : State} {a : Addr} {t : Jvm.Term} {C n d : String} {k : Int32} (ev : t.eval args Z none [] Z = some (.ref a)) (h : (Jvm.Cond.eq (Jvm.Term.field t C n d) (Jvm.Term.int k)).value args Z none Z [] = some true) : Fld Z Z.heap a C n d (.int k) := by
  obtain ⟨x, y, h1, h2, h3, h4⟩ := cmp_v (Or.inl h)
  cases (Term.int_eval k).symm.trans h2
  obtain ⟨z, rfl⟩ := h4
  rw [fld_at ev] at h1
  have h5 : (Jvm.Cond.eq (Jvm.Term.field t C n d) (Jvm.Term.int k)).value args Z none Z [] = some (decide (z = k)) := by simp [Jvm.Cond.value, fld_at ev, h1, Term.int_eval]
  cases gotT h5 h
  exact Fld.start h1
theorem own_fldJ {Z : State} {a : Addr} {t : Jvm.Term} {C n d : String} {k : Int64} (ev : t.eval args Z none [] Z = some (.ref a)) (h : (Jvm.Cond.eq (Jvm.Term.field t C n d) (Jvm.Term.long k)).value args Z none Z [] = some true) : Fld Z Z.heap a C n d (.long k) := by
  obtain ⟨x, y, h1, h2, h3, h4⟩ := cmp_v (Or.inl h)
  cases (long_at k).symm.trans h2
  obtain ⟨z, rfl⟩ := h4
  have h5 := gotT (eq_L h1 (long_at k)) h
  rw [fld_at ev] at h1
  cases h5
  exact Fld.start h1
theorem own_fldN {Z : State} {a : Addr} {t : Jvm.Term} {C n d : String} (ev : t.eval args Z none [] Z = some (.ref a)) (h : (Jvm.Cond.eq (Jvm.Term.field t C n d) Jvm.Term.null).value args Z none Z [] = some true) : Fld Z Z.heap a C n d .null := by
  have h1 := null_v h
  rw [fld_at ev] at h1
  exact Fld.start h1
theorem own_e0 {P : Prop} [Decidable P] (h : (if P then (1 : Int32) else (0 : Int32)) = 0) : ¬ P := fun q => by rw [if_pos q] at h; exact absurd h (by decide)
theorem own_e1 {P : Prop} [Decidable P] (h : ¬ (if P then (1 : Int32) else (0 : Int32)) = 0) : P := by
  by_cases q : P
  · exact q
  · exact absurd (if_neg q) h
theorem own_n2 {P Q : Prop} [Decidable P] [Decidable Q] {A : Int32} (h : ¬ (P ∧ Q)) : (if P then (if Q then A else (0 : Int32)) else (0 : Int32)) = 0 := by
  by_cases p : P
  · rw [if_pos p, if_neg (fun q => h ⟨p, q⟩)]
  · rw [if_neg p]
theorem own_narR {v : Value} {C : String} (h : v.isRef = true) : narrow (.object C) v = v := by rcases ref_cases h with rfl | ⟨_, rfl⟩ <;> rfl
theorem own_fitR {v : Value} {C : String} (h : v.isRef = true) : fits (.object C) v = true := by rcases ref_cases h with rfl | ⟨_, rfl⟩ <;> rfl
theorem own_len {Z : State} {t : Jvm.Term} {a : Addr} {cl : Cell} {ty : FieldType} {k : Int32} (et : t.eval args Z none [] Z = some (.ref a)) (A : Arr Z Z.heap a cl ty) (h : (Jvm.Term.length t).eval args Z none [] Z = some (.int k)) : cl.slots.size < 2 ^ 31 ∧ cl.slots.size.toInt32 = k := by
  have hA := A.fin (Vm.Alike.refl Z.vm)
  by_cases q : cl.slots.size < 2 ^ 31
  · rw [len_f et hA q] at h; exact ⟨q, by simpa using h⟩
  · simp [Jvm.Term.eval, et, hA] at h; exact absurd h.1 q
theorem own_mvM {Z : State} {a0 : Array Value} {own host : String} {index : Nat} {y : MethodName} (hZ : Z.Warmed39 s.vm) (w : (Jvm.Cond.methodLinkNest own index y host).before a0 Z = true) : (Jvm.Cond.methodLinkNest own index y host).before args s = true := (Cond.methodLinkNest_wide hZ w :)
end OwnKit
theorem d1_0 : decode jdk_42_method_3_code 0 = .ok (.aload_n 0, 1) := by decide +kernel
theorem d1_1 : decode jdk_42_method_3_code 1 = .ok (.aload_n 1, 1) := by decide +kernel
theorem d1_2 : decode jdk_42_method_3_code 2 = .ok (.iconst 0, 1) := by decide +kernel
theorem d1_3 : decode jdk_42_method_3_code 3 = .ok (.aload_n 1, 1) := by decide +kernel
theorem d1_4 : decode jdk_42_method_3_code 4 = .ok (.arraylength, 1) := by decide +kernel
theorem d1_5 : decode jdk_42_method_3_code 5 = .ok (.aconst_null, 1) := by decide +kernel
theorem d1_6 : decode jdk_42_method_3_code 6 = .ok (.invokespecial 27, 3) := by decide +kernel
theorem d1_9 : decode jdk_42_method_3_code 9 = .ok (.return_, 1) := by decide +kernel
theorem d2_0 : decode jdk_42_method_149_code 0 = .ok (.aload_n 0, 1) := by decide +kernel
theorem d2_1 : decode jdk_42_method_149_code 1 = .ok (.invokespecial 1, 3) := by decide +kernel
theorem d2_4 : decode jdk_42_method_149_code 4 = .ok (.iload_n 3, 1) := by decide +kernel
theorem d2_5 : decode jdk_42_method_149_code 5 = .ok (.ifCond .ne 22, 3) := by decide +kernel
theorem d2_27 : decode jdk_42_method_149_code 27 = .ok (.getstatic 38, 3) := by decide +kernel
theorem d2_30 : decode jdk_42_method_149_code 30 = .ok (.ifCond .eq 28, 3) := by decide +kernel
theorem d2_33 : decode jdk_42_method_149_code 33 = .ok (.aload_n 1, 1) := by decide +kernel
theorem d2_34 : decode jdk_42_method_149_code 34 = .ok (.iload_n 2, 1) := by decide +kernel
theorem d2_35 : decode jdk_42_method_149_code 35 = .ok (.iload_n 3, 1) := by decide +kernel
theorem d2_36 : decode jdk_42_method_149_code 36 = .ok (.invokestatic 177, 3) := by decide +kernel
theorem d2_39 : decode jdk_42_method_149_code 39 = .ok (.astore 5, 2) := by decide +kernel
theorem d2_41 : decode jdk_42_method_149_code 41 = .ok (.aload_n 0, 1) := by decide +kernel
theorem d2_42 : decode jdk_42_method_149_code 42 = .ok (.aload 5, 2) := by decide +kernel
theorem d2_44 : decode jdk_42_method_149_code 44 = .ok (.iload_n 3, 1) := by decide +kernel
theorem d2_45 : decode jdk_42_method_149_code 45 = .ok (.invokestatic 47, 3) := by decide +kernel
theorem d2_48 : decode jdk_42_method_149_code 48 = .ok (.putfield 15, 3) := by decide +kernel
theorem d2_51 : decode jdk_42_method_149_code 51 = .ok (.aload_n 0, 1) := by decide +kernel
theorem d2_52 : decode jdk_42_method_149_code 52 = .ok (.aload 5, 2) := by decide +kernel
theorem d2_54 : decode jdk_42_method_149_code 54 = .ok (.putfield 9, 3) := by decide +kernel
theorem d2_57 : decode jdk_42_method_149_code 57 = .ok (.return_, 1) := by decide +kernel
theorem d4_0 : decode jdk_52_method_16_code 0 = .ok (.iload_n 2, 1) := by decide +kernel
theorem d4_1 : decode jdk_52_method_16_code 1 = .ok (.newarray .byte, 2) := by decide +kernel
theorem d4_3 : decode jdk_52_method_16_code 3 = .ok (.astore_n 3, 1) := by decide +kernel
theorem d4_4 : decode jdk_52_method_16_code 4 = .ok (.aload_n 0, 1) := by decide +kernel
theorem d4_5 : decode jdk_52_method_16_code 5 = .ok (.iload_n 1, 1) := by decide +kernel
theorem d4_6 : decode jdk_52_method_16_code 6 = .ok (.aload_n 3, 1) := by decide +kernel
theorem d4_7 : decode jdk_52_method_16_code 7 = .ok (.iconst 0, 1) := by decide +kernel
theorem d4_8 : decode jdk_52_method_16_code 8 = .ok (.iload_n 2, 1) := by decide +kernel
theorem d4_9 : decode jdk_52_method_16_code 9 = .ok (.invokestatic 115, 3) := by decide +kernel
theorem d4_12 : decode jdk_52_method_16_code 12 = .ok (.istore 4, 2) := by decide +kernel
theorem d4_14 : decode jdk_52_method_16_code 14 = .ok (.iload 4, 2) := by decide +kernel
theorem d4_16 : decode jdk_52_method_16_code 16 = .ok (.iload_n 2, 1) := by decide +kernel
theorem d4_17 : decode jdk_52_method_16_code 17 = .ok (.if_icmp .eq 40, 3) := by decide +kernel
theorem d4_20 : decode jdk_52_method_16_code 20 = .ok (.aload_n 0, 1) := by decide +kernel
theorem d4_21 : decode jdk_52_method_16_code 21 = .ok (.iload_n 1, 1) := by decide +kernel
theorem d4_22 : decode jdk_52_method_16_code 22 = .ok (.iload_n 2, 1) := by decide +kernel
theorem d4_23 : decode jdk_52_method_16_code 23 = .ok (.invokestatic 119, 3) := by decide +kernel
theorem d4_26 : decode jdk_52_method_16_code 26 = .ok (.astore 5, 2) := by decide +kernel
theorem d4_28 : decode jdk_52_method_16_code 28 = .ok (.aload 5, 2) := by decide +kernel
theorem d4_30 : decode jdk_52_method_16_code 30 = .ok (.iload 4, 2) := by decide +kernel
theorem d4_32 : decode jdk_52_method_16_code 32 = .ok (.invokestatic 71, 3) := by decide +kernel
theorem d4_35 : decode jdk_52_method_16_code 35 = .ok (.sipush 255, 3) := by decide +kernel
theorem d4_38 : decode jdk_52_method_16_code 38 = .ok (.if_icmp .gt 16, 3) := by decide +kernel
theorem d4_54 : decode jdk_52_method_16_code 54 = .ok (.aload 5, 2) := by decide +kernel
theorem d4_56 : decode jdk_52_method_16_code 56 = .ok (.areturn, 1) := by decide +kernel
theorem d4_57 : decode jdk_52_method_16_code 57 = .ok (.aload_n 3, 1) := by decide +kernel
theorem d4_58 : decode jdk_52_method_16_code 58 = .ok (.areturn, 1) := by decide +kernel
theorem d5_0 : decode jdk_52_method_21_code 0 = .ok (.iconst 0, 1) := by decide +kernel
theorem d5_1 : decode jdk_52_method_21_code 1 = .ok (.istore 5, 2) := by decide +kernel
theorem d5_3 : decode jdk_52_method_21_code 3 = .ok (.iload 5, 2) := by decide +kernel
theorem d5_5 : decode jdk_52_method_21_code 5 = .ok (.iload 4, 2) := by decide +kernel
theorem d5_7 : decode jdk_52_method_21_code 7 = .ok (.if_icmp .ge 37, 3) := by decide +kernel
theorem d5_10 : decode jdk_52_method_21_code 10 = .ok (.aload_n 0, 1) := by decide +kernel
theorem d5_11 : decode jdk_52_method_21_code 11 = .ok (.iload_n 1, 1) := by decide +kernel
theorem d5_12 : decode jdk_52_method_21_code 12 = .ok (.caload, 1) := by decide +kernel
theorem d5_13 : decode jdk_52_method_21_code 13 = .ok (.istore 6, 2) := by decide +kernel
theorem d5_15 : decode jdk_52_method_21_code 15 = .ok (.iload 6, 2) := by decide +kernel
theorem d5_17 : decode jdk_52_method_21_code 17 = .ok (.sipush 255, 3) := by decide +kernel
theorem d5_20 : decode jdk_52_method_21_code 20 = .ok (.if_icmp .le 6, 3) := by decide +kernel
theorem d5_23 : decode jdk_52_method_21_code 23 = .ok (.iload 5, 2) := by decide +kernel
theorem d5_25 : decode jdk_52_method_21_code 25 = .ok (.ireturn, 1) := by decide +kernel
theorem d5_26 : decode jdk_52_method_21_code 26 = .ok (.aload_n 2, 1) := by decide +kernel
theorem d5_27 : decode jdk_52_method_21_code 27 = .ok (.iload_n 3, 1) := by decide +kernel
theorem d5_28 : decode jdk_52_method_21_code 28 = .ok (.iload 6, 2) := by decide +kernel
theorem d5_30 : decode jdk_52_method_21_code 30 = .ok (.i2b, 1) := by decide +kernel
theorem d5_31 : decode jdk_52_method_21_code 31 = .ok (.bastore, 1) := by decide +kernel
theorem d5_32 : decode jdk_52_method_21_code 32 = .ok (.iinc 1 1, 3) := by decide +kernel
theorem d5_35 : decode jdk_52_method_21_code 35 = .ok (.iinc 3 1, 3) := by decide +kernel
theorem d5_38 : decode jdk_52_method_21_code 38 = .ok (.iinc 5 1, 3) := by decide +kernel
theorem d5_41 : decode jdk_52_method_21_code 41 = .ok (.goto (-38), 3) := by decide +kernel
theorem d5_44 : decode jdk_52_method_21_code 44 = .ok (.iload 4, 2) := by decide +kernel
theorem d5_46 : decode jdk_52_method_21_code 46 = .ok (.ireturn, 1) := by decide +kernel
theorem d6_0 : decode jdk_52_method_15_code 0 = .ok (.iload_n 1, 1) := by decide +kernel
theorem d6_1 : decode jdk_52_method_15_code 1 = .ok (.aload_n 0, 1) := by decide +kernel
theorem d6_2 : decode jdk_52_method_15_code 2 = .ok (.arraylength, 1) := by decide +kernel
theorem d6_3 : decode jdk_52_method_15_code 3 = .ok (.isub, 1) := by decide +kernel
theorem d6_4 : decode jdk_52_method_15_code 4 = .ok (.bipush 31, 2) := by decide +kernel
theorem d6_6 : decode jdk_52_method_15_code 6 = .ok (.iushr, 1) := by decide +kernel
theorem d6_7 : decode jdk_52_method_15_code 7 = .ok (.i2b, 1) := by decide +kernel
theorem d6_8 : decode jdk_52_method_15_code 8 = .ok (.ireturn, 1) := by decide +kernel
theorem d7_0 : decode prog_53_method_2_code 0 = .ok (.iload_n 1, 1) := by decide +kernel
theorem d7_1 : decode prog_53_method_2_code 1 = .ok (.iload_n 2, 1) := by decide +kernel
theorem d7_2 : decode prog_53_method_2_code 2 = .ok (.if_icmp .ge 7, 3) := by decide +kernel
theorem d7_5 : decode prog_53_method_2_code 5 = .ok (.iconst 1, 1) := by decide +kernel
theorem d7_6 : decode prog_53_method_2_code 6 = .ok (.goto 4, 3) := by decide +kernel
theorem d7_9 : decode prog_53_method_2_code 9 = .ok (.iconst 0, 1) := by decide +kernel
theorem d7_10 : decode prog_53_method_2_code 10 = .ok (.istore_n 3, 1) := by decide +kernel
theorem d7_11 : decode prog_53_method_2_code 11 = .ok (.iload_n 1, 1) := by decide +kernel
theorem d7_12 : decode prog_53_method_2_code 12 = .ok (.istore 4, 2) := by decide +kernel
theorem d7_14 : decode prog_53_method_2_code 14 = .ok (.iload 4, 2) := by decide +kernel
theorem d7_16 : decode prog_53_method_2_code 16 = .ok (.iload_n 2, 1) := by decide +kernel
theorem d7_17 : decode prog_53_method_2_code 17 = .ok (.if_icmp .ge 41, 3) := by decide +kernel
theorem d7_20 : decode prog_53_method_2_code 20 = .ok (.iload_n 3, 1) := by decide +kernel
theorem d7_21 : decode prog_53_method_2_code 21 = .ok (.ifCond .eq 37, 3) := by decide +kernel
theorem d7_24 : decode prog_53_method_2_code 24 = .ok (.aload_n 0, 1) := by decide +kernel
theorem d7_25 : decode prog_53_method_2_code 25 = .ok (.iload 4, 2) := by decide +kernel
theorem d7_27 : decode prog_53_method_2_code 27 = .ok (.invokevirtual 7, 3) := by decide +kernel
theorem d7_30 : decode prog_53_method_2_code 30 = .ok (.istore 5, 2) := by decide +kernel
theorem d7_32 : decode prog_53_method_2_code 32 = .ok (.iload 5, 2) := by decide +kernel
theorem d7_34 : decode prog_53_method_2_code 34 = .ok (.bipush 48, 2) := by decide +kernel
theorem d7_36 : decode prog_53_method_2_code 36 = .ok (.if_icmp .lt 14, 3) := by decide +kernel
theorem d7_39 : decode prog_53_method_2_code 39 = .ok (.iload 5, 2) := by decide +kernel
theorem d7_41 : decode prog_53_method_2_code 41 = .ok (.bipush 57, 2) := by decide +kernel
theorem d7_43 : decode prog_53_method_2_code 43 = .ok (.if_icmp .gt 7, 3) := by decide +kernel
theorem d7_46 : decode prog_53_method_2_code 46 = .ok (.iconst 1, 1) := by decide +kernel
theorem d7_47 : decode prog_53_method_2_code 47 = .ok (.goto 4, 3) := by decide +kernel
theorem d7_50 : decode prog_53_method_2_code 50 = .ok (.iconst 0, 1) := by decide +kernel
theorem d7_51 : decode prog_53_method_2_code 51 = .ok (.istore_n 3, 1) := by decide +kernel
theorem d7_52 : decode prog_53_method_2_code 52 = .ok (.iinc 4 1, 3) := by decide +kernel
theorem d7_55 : decode prog_53_method_2_code 55 = .ok (.goto (-41), 3) := by decide +kernel
theorem d7_58 : decode prog_53_method_2_code 58 = .ok (.iload_n 3, 1) := by decide +kernel
theorem d7_59 : decode prog_53_method_2_code 59 = .ok (.ireturn, 1) := by decide +kernel
theorem d8_0 : decode jdk_52_method_14_code 0 = .ok (.iload_n 2, 1) := by decide +kernel
theorem d8_1 : decode jdk_52_method_14_code 1 = .ok (.invokestatic 107, 3) := by decide +kernel
theorem d8_4 : decode jdk_52_method_14_code 4 = .ok (.astore_n 3, 1) := by decide +kernel
theorem d8_5 : decode jdk_52_method_14_code 5 = .ok (.iconst 0, 1) := by decide +kernel
theorem d8_6 : decode jdk_52_method_14_code 6 = .ok (.istore 4, 2) := by decide +kernel
theorem d8_8 : decode jdk_52_method_14_code 8 = .ok (.iload 4, 2) := by decide +kernel
theorem d8_10 : decode jdk_52_method_14_code 10 = .ok (.iload_n 2, 1) := by decide +kernel
theorem d8_11 : decode jdk_52_method_14_code 11 = .ok (.if_icmp .ge 21, 3) := by decide +kernel
theorem d8_14 : decode jdk_52_method_14_code 14 = .ok (.aload_n 3, 1) := by decide +kernel
theorem d8_15 : decode jdk_52_method_14_code 15 = .ok (.iload 4, 2) := by decide +kernel
theorem d8_17 : decode jdk_52_method_14_code 17 = .ok (.aload_n 0, 1) := by decide +kernel
theorem d8_18 : decode jdk_52_method_14_code 18 = .ok (.iload_n 1, 1) := by decide +kernel
theorem d8_19 : decode jdk_52_method_14_code 19 = .ok (.caload, 1) := by decide +kernel
theorem d8_20 : decode jdk_52_method_14_code 20 = .ok (.invokestatic 111, 3) := by decide +kernel
theorem d8_23 : decode jdk_52_method_14_code 23 = .ok (.iinc 1 1, 3) := by decide +kernel
theorem d8_26 : decode jdk_52_method_14_code 26 = .ok (.iinc 4 1, 3) := by decide +kernel
theorem d8_29 : decode jdk_52_method_14_code 29 = .ok (.goto (-21), 3) := by decide +kernel
theorem d8_32 : decode jdk_52_method_14_code 32 = .ok (.aload_n 3, 1) := by decide +kernel
theorem d8_33 : decode jdk_52_method_14_code 33 = .ok (.areturn, 1) := by decide +kernel
theorem d9_0 : decode jdk_52_method_2_code 0 = .ok (.iload_n 0, 1) := by decide +kernel
theorem d9_1 : decode jdk_52_method_2_code 1 = .ok (.invokestatic 11, 3) := by decide +kernel
theorem d9_4 : decode jdk_52_method_2_code 4 = .ok (.newarray .byte, 2) := by decide +kernel
theorem d9_6 : decode jdk_52_method_2_code 6 = .ok (.areturn, 1) := by decide +kernel
theorem d10_0 : decode jdk_52_method_3_code 0 = .ok (.iload_n 0, 1) := by decide +kernel
theorem d10_1 : decode jdk_52_method_3_code 1 = .ok (.ifCond .ge 11, 3) := by decide +kernel
theorem d10_12 : decode jdk_52_method_3_code 12 = .ok (.iload_n 0, 1) := by decide +kernel
theorem d10_13 : decode jdk_52_method_3_code 13 = .ok (.ldc 20, 2) := by decide +kernel
theorem d10_15 : decode jdk_52_method_3_code 15 = .ok (.if_icmp .lt 40, 3) := by decide +kernel
theorem d10_55 : decode jdk_52_method_3_code 55 = .ok (.iload_n 0, 1) := by decide +kernel
theorem d10_56 : decode jdk_52_method_3_code 56 = .ok (.iconst 1, 1) := by decide +kernel
theorem d10_57 : decode jdk_52_method_3_code 57 = .ok (.ishl, 1) := by decide +kernel
theorem d10_58 : decode jdk_52_method_3_code 58 = .ok (.ireturn, 1) := by decide +kernel
theorem d11_0 : decode jdk_52_method_4_code 0 = .ok (.getstatic 44, 3) := by decide +kernel
theorem d11_3 : decode jdk_52_method_4_code 3 = .ok (.ifCond .ne 25, 3) := by decide +kernel
theorem d11_28 : decode jdk_52_method_4_code 28 = .ok (.iload_n 1, 1) := by decide +kernel
theorem d11_29 : decode jdk_52_method_4_code 29 = .ok (.iconst 1, 1) := by decide +kernel
theorem d11_30 : decode jdk_52_method_4_code 30 = .ok (.ishl, 1) := by decide +kernel
theorem d11_31 : decode jdk_52_method_4_code 31 = .ok (.istore_n 1, 1) := by decide +kernel
theorem d11_32 : decode jdk_52_method_4_code 32 = .ok (.aload_n 0, 1) := by decide +kernel
theorem d11_33 : decode jdk_52_method_4_code 33 = .ok (.iload_n 1, 1) := by decide +kernel
theorem d11_34 : decode jdk_52_method_4_code 34 = .ok (.iinc 1 1, 3) := by decide +kernel
theorem d11_37 : decode jdk_52_method_4_code 37 = .ok (.iload_n 2, 1) := by decide +kernel
theorem d11_38 : decode jdk_52_method_4_code 38 = .ok (.getstatic 59, 3) := by decide +kernel
theorem d11_41 : decode jdk_52_method_4_code 41 = .ok (.ishr, 1) := by decide +kernel
theorem d11_42 : decode jdk_52_method_4_code 42 = .ok (.i2b, 1) := by decide +kernel
theorem d11_43 : decode jdk_52_method_4_code 43 = .ok (.bastore, 1) := by decide +kernel
theorem d11_44 : decode jdk_52_method_4_code 44 = .ok (.aload_n 0, 1) := by decide +kernel
theorem d11_45 : decode jdk_52_method_4_code 45 = .ok (.iload_n 1, 1) := by decide +kernel
theorem d11_46 : decode jdk_52_method_4_code 46 = .ok (.iload_n 2, 1) := by decide +kernel
theorem d11_47 : decode jdk_52_method_4_code 47 = .ok (.getstatic 63, 3) := by decide +kernel
theorem d11_50 : decode jdk_52_method_4_code 50 = .ok (.ishr, 1) := by decide +kernel
theorem d11_51 : decode jdk_52_method_4_code 51 = .ok (.i2b, 1) := by decide +kernel
theorem d11_52 : decode jdk_52_method_4_code 52 = .ok (.bastore, 1) := by decide +kernel
theorem d11_53 : decode jdk_52_method_4_code 53 = .ok (.return_, 1) := by decide +kernel
theorem d12_0 : decode jdk_52_method_5_code 0 = .ok (.getstatic 44, 3) := by decide +kernel
theorem d12_3 : decode jdk_52_method_5_code 3 = .ok (.ifCond .ne 25, 3) := by decide +kernel
theorem d12_28 : decode jdk_52_method_5_code 28 = .ok (.iload_n 1, 1) := by decide +kernel
theorem d12_29 : decode jdk_52_method_5_code 29 = .ok (.iconst 1, 1) := by decide +kernel
theorem d12_30 : decode jdk_52_method_5_code 30 = .ok (.ishl, 1) := by decide +kernel
theorem d12_31 : decode jdk_52_method_5_code 31 = .ok (.istore_n 1, 1) := by decide +kernel
theorem d12_32 : decode jdk_52_method_5_code 32 = .ok (.aload_n 0, 1) := by decide +kernel
theorem d12_33 : decode jdk_52_method_5_code 33 = .ok (.iload_n 1, 1) := by decide +kernel
theorem d12_34 : decode jdk_52_method_5_code 34 = .ok (.iinc 1 1, 3) := by decide +kernel
theorem d12_37 : decode jdk_52_method_5_code 37 = .ok (.baload, 1) := by decide +kernel
theorem d12_38 : decode jdk_52_method_5_code 38 = .ok (.sipush 255, 3) := by decide +kernel
theorem d12_41 : decode jdk_52_method_5_code 41 = .ok (.iand, 1) := by decide +kernel
theorem d12_42 : decode jdk_52_method_5_code 42 = .ok (.getstatic 59, 3) := by decide +kernel
theorem d12_45 : decode jdk_52_method_5_code 45 = .ok (.ishl, 1) := by decide +kernel
theorem d12_46 : decode jdk_52_method_5_code 46 = .ok (.aload_n 0, 1) := by decide +kernel
theorem d12_47 : decode jdk_52_method_5_code 47 = .ok (.iload_n 1, 1) := by decide +kernel
theorem d12_48 : decode jdk_52_method_5_code 48 = .ok (.baload, 1) := by decide +kernel
theorem d12_49 : decode jdk_52_method_5_code 49 = .ok (.sipush 255, 3) := by decide +kernel
theorem d12_52 : decode jdk_52_method_5_code 52 = .ok (.iand, 1) := by decide +kernel
theorem d12_53 : decode jdk_52_method_5_code 53 = .ok (.getstatic 63, 3) := by decide +kernel
theorem d12_56 : decode jdk_52_method_5_code 56 = .ok (.ishl, 1) := by decide +kernel
theorem d12_57 : decode jdk_52_method_5_code 57 = .ok (.ior, 1) := by decide +kernel
theorem d12_58 : decode jdk_52_method_5_code 58 = .ok (.i2c, 1) := by decide +kernel
theorem d12_59 : decode jdk_52_method_5_code 59 = .ok (.ireturn, 1) := by decide +kernel
theorem d13_0 : decode method_3_code 0 = .ok (.iload_n 0, 1) := by decide +kernel
theorem d13_1 : decode method_3_code 1 = .ok (.iload_n 1, 1) := by decide +kernel
theorem d13_2 : decode method_3_code 2 = .ok (.if_icmp .ge 5, 3) := by decide +kernel
theorem d13_5 : decode method_3_code 5 = .ok (.iconst 1, 1) := by decide +kernel
theorem d13_6 : decode method_3_code 6 = .ok (.ireturn, 1) := by decide +kernel
theorem d13_7 : decode method_3_code 7 = .ok (.iload_n 0, 1) := by decide +kernel
theorem d13_8 : decode method_3_code 8 = .ok (.iload_n 2, 1) := by decide +kernel
theorem d13_9 : decode method_3_code 9 = .ok (.if_icmp .lt 5, 3) := by decide +kernel
theorem d13_12 : decode method_3_code 12 = .ok (.iconst 1, 1) := by decide +kernel
theorem d13_13 : decode method_3_code 13 = .ok (.ireturn, 1) := by decide +kernel
theorem d13_14 : decode method_3_code 14 = .ok (.iload_n 3, 1) := by decide +kernel
theorem d13_15 : decode method_3_code 15 = .ok (.invokestatic 7, 3) := by decide +kernel
theorem d13_18 : decode method_3_code 18 = .ok (.ireturn, 1) := by decide +kernel
theorem d14_0 : decode method_2_code 0 = .ok (.iload_n 0, 1) := by decide +kernel
theorem d14_1 : decode method_2_code 1 = .ok (.istore_n 1, 1) := by decide +kernel
theorem d14_2 : decode method_2_code 2 = .ok (.iload_n 1, 1) := by decide +kernel
theorem d14_3 : decode method_2_code 3 = .ok (.bipush 48, 2) := by decide +kernel
theorem d14_5 : decode method_2_code 5 = .ok (.if_icmp .lt 13, 3) := by decide +kernel
theorem d14_8 : decode method_2_code 8 = .ok (.iload_n 1, 1) := by decide +kernel
theorem d14_9 : decode method_2_code 9 = .ok (.bipush 57, 2) := by decide +kernel
theorem d14_11 : decode method_2_code 11 = .ok (.if_icmp .gt 7, 3) := by decide +kernel
theorem d14_14 : decode method_2_code 14 = .ok (.iconst 1, 1) := by decide +kernel
theorem d14_15 : decode method_2_code 15 = .ok (.goto 4, 3) := by decide +kernel
theorem d14_18 : decode method_2_code 18 = .ok (.iconst 0, 1) := by decide +kernel
theorem d14_19 : decode method_2_code 19 = .ok (.ireturn, 1) := by decide +kernel
theorem d15_0 : decode jdk_42_method_56_code 0 = .ok (.aload_n 0, 1) := by decide +kernel
theorem d15_1 : decode jdk_42_method_56_code 1 = .ok (.invokevirtual 492, 3) := by decide +kernel
theorem d15_4 : decode jdk_42_method_56_code 4 = .ok (.ifCond .eq 12, 3) := by decide +kernel
theorem d15_7 : decode jdk_42_method_56_code 7 = .ok (.aload_n 0, 1) := by decide +kernel
theorem d15_8 : decode jdk_42_method_56_code 8 = .ok (.getfield 9, 3) := by decide +kernel
theorem d15_11 : decode jdk_42_method_56_code 11 = .ok (.iload_n 1, 1) := by decide +kernel
theorem d15_12 : decode jdk_42_method_56_code 12 = .ok (.invokestatic 495, 3) := by decide +kernel
theorem d15_15 : decode jdk_42_method_56_code 15 = .ok (.ireturn, 1) := by decide +kernel
theorem d15_16 : decode jdk_42_method_56_code 16 = .ok (.aload_n 0, 1) := by decide +kernel
theorem d15_17 : decode jdk_42_method_56_code 17 = .ok (.getfield 9, 3) := by decide +kernel
theorem d15_20 : decode jdk_42_method_56_code 20 = .ok (.iload_n 1, 1) := by decide +kernel
theorem d15_21 : decode jdk_42_method_56_code 21 = .ok (.invokestatic 498, 3) := by decide +kernel
theorem d15_24 : decode jdk_42_method_56_code 24 = .ok (.ireturn, 1) := by decide +kernel
theorem d16_0 : decode jdk_42_method_154_code 0 = .ok (.getstatic 38, 3) := by decide +kernel
theorem d16_3 : decode jdk_42_method_154_code 3 = .ok (.ifCond .eq 14, 3) := by decide +kernel
theorem d16_6 : decode jdk_42_method_154_code 6 = .ok (.aload_n 0, 1) := by decide +kernel
theorem d16_7 : decode jdk_42_method_154_code 7 = .ok (.getfield 15, 3) := by decide +kernel
theorem d16_10 : decode jdk_42_method_154_code 10 = .ok (.ifCond .ne 7, 3) := by decide +kernel
theorem d16_13 : decode jdk_42_method_154_code 13 = .ok (.iconst 1, 1) := by decide +kernel
theorem d16_14 : decode jdk_42_method_154_code 14 = .ok (.goto 4, 3) := by decide +kernel
theorem d16_17 : decode jdk_42_method_154_code 17 = .ok (.iconst 0, 1) := by decide +kernel
theorem d16_18 : decode jdk_42_method_154_code 18 = .ok (.ireturn, 1) := by decide +kernel
theorem d17_0 : decode jdk_43_method_2_code 0 = .ok (.iload_n 1, 1) := by decide +kernel
theorem d17_1 : decode jdk_43_method_2_code 1 = .ok (.aload_n 0, 1) := by decide +kernel
theorem d17_2 : decode jdk_43_method_2_code 2 = .ok (.arraylength, 1) := by decide +kernel
theorem d17_3 : decode jdk_43_method_2_code 3 = .ok (.invokestatic 9, 3) := by decide +kernel
theorem d17_6 : decode jdk_43_method_2_code 6 = .ok (.aload_n 0, 1) := by decide +kernel
theorem d17_7 : decode jdk_43_method_2_code 7 = .ok (.iload_n 1, 1) := by decide +kernel
theorem d17_8 : decode jdk_43_method_2_code 8 = .ok (.baload, 1) := by decide +kernel
theorem d17_9 : decode jdk_43_method_2_code 9 = .ok (.sipush 255, 3) := by decide +kernel
theorem d17_12 : decode jdk_43_method_2_code 12 = .ok (.iand, 1) := by decide +kernel
theorem d17_13 : decode jdk_43_method_2_code 13 = .ok (.i2c, 1) := by decide +kernel
theorem d17_14 : decode jdk_43_method_2_code 14 = .ok (.ireturn, 1) := by decide +kernel
theorem d18_0 : decode jdk_42_method_155_code 0 = .ok (.iload_n 0, 1) := by decide +kernel
theorem d18_1 : decode jdk_42_method_155_code 1 = .ok (.iload_n 1, 1) := by decide +kernel
theorem d18_2 : decode jdk_42_method_155_code 2 = .ok (.getstatic 1053, 3) := by decide +kernel
theorem d18_5 : decode jdk_42_method_155_code 5 = .ok (.invokestatic 1059, 3) := by decide +kernel
theorem d18_8 : decode jdk_42_method_155_code 8 = .ok (.pop, 1) := by decide +kernel
theorem d18_9 : decode jdk_42_method_155_code 9 = .ok (.return_, 1) := by decide +kernel
theorem d19_0 : decode jdk_41_method_11_code 0 = .ok (.iload_n 0, 1) := by decide +kernel
theorem d19_1 : decode jdk_41_method_11_code 1 = .ok (.ifCond .lt 8, 3) := by decide +kernel
theorem d19_4 : decode jdk_41_method_11_code 4 = .ok (.iload_n 0, 1) := by decide +kernel
theorem d19_5 : decode jdk_41_method_11_code 5 = .ok (.iload_n 1, 1) := by decide +kernel
theorem d19_6 : decode jdk_41_method_11_code 6 = .ok (.if_icmp .lt 10, 3) := by decide +kernel
theorem d19_16 : decode jdk_41_method_11_code 16 = .ok (.iload_n 0, 1) := by decide +kernel
theorem d19_17 : decode jdk_41_method_11_code 17 = .ok (.ireturn, 1) := by decide +kernel
theorem d20_0 : decode jdk_52_method_83_code 0 = .ok (.iload_n 1, 1) := by decide +kernel
theorem d20_1 : decode jdk_52_method_83_code 1 = .ok (.aload_n 0, 1) := by decide +kernel
theorem d20_2 : decode jdk_52_method_83_code 2 = .ok (.invokestatic 67, 3) := by decide +kernel
theorem d20_5 : decode jdk_52_method_83_code 5 = .ok (.aload_n 0, 1) := by decide +kernel
theorem d20_6 : decode jdk_52_method_83_code 6 = .ok (.iload_n 1, 1) := by decide +kernel
theorem d20_7 : decode jdk_52_method_83_code 7 = .ok (.invokestatic 71, 3) := by decide +kernel
theorem d20_10 : decode jdk_52_method_83_code 10 = .ok (.ireturn, 1) := by decide +kernel
theorem d21_0 : decode jdk_52_method_91_code 0 = .ok (.iload_n 0, 1) := by decide +kernel
theorem d21_1 : decode jdk_52_method_91_code 1 = .ok (.aload_n 1, 1) := by decide +kernel
theorem d21_2 : decode jdk_52_method_91_code 2 = .ok (.invokestatic 48, 3) := by decide +kernel
theorem d21_5 : decode jdk_52_method_91_code 5 = .ok (.invokestatic 414, 3) := by decide +kernel
theorem d21_8 : decode jdk_52_method_91_code 8 = .ok (.return_, 1) := by decide +kernel
theorem d22_0 : decode jdk_52_method_6_code 0 = .ok (.aload_n 0, 1) := by decide +kernel
theorem d22_1 : decode jdk_52_method_6_code 1 = .ok (.arraylength, 1) := by decide +kernel
theorem d22_2 : decode jdk_52_method_6_code 2 = .ok (.iconst 1, 1) := by decide +kernel
theorem d22_3 : decode jdk_52_method_6_code 3 = .ok (.ishr, 1) := by decide +kernel
theorem d22_4 : decode jdk_52_method_6_code 4 = .ok (.ireturn, 1) := by decide +kernel
theorem pn_0 : plainName "java/lang/StringUTF16" = true := by first | (simp [plainName, overriddenIn]; done) | decide +kernel
theorem pn_1 : plainName "java/lang/String" = true := by first | (simp [plainName, overriddenIn]; done) | decide +kernel
theorem pn_2 : plainName "jdk/internal/util/Preconditions" = true := by first | (simp [plainName, overriddenIn]; done) | decide +kernel
theorem pn_3 : plainName "java/lang/StringLatin1" = true := by first | (simp [plainName, overriddenIn]; done) | decide +kernel
theorem pn_4 : plainName "com/example/vestry/vestry/input/ValueChecks" = true := by first | (simp [plainName, overriddenIn]; done) | decide +kernel
theorem pn_5 : plainName "com/example/vestry/vestry/input/ValueChecksDigitsPinLaw" = true := by first | (simp [plainName, overriddenIn]; done) | decide +kernel
theorem pd_0 : parseMethodDescriptor "([CI[BII)I" = some ⟨[(.array .char), .int, (.array .byte), .int, .int], some .int⟩ := by decide +kernel
theorem pd_1 : parseMethodDescriptor "([CII)[B" = some ⟨[(.array .char), .int, .int], some (.array .byte)⟩ := by decide +kernel
theorem pd_2 : parseMethodDescriptor "([BI)B" = some ⟨[(.array .byte), .int], some .byte⟩ := by decide +kernel
theorem pd_3 : parseMethodDescriptor "([CIILjava/lang/Void;)V" = some ⟨[(.array .char), .int, .int, (.object "java/lang/Void")], none⟩ := by decide +kernel
theorem pd_4 : parseMethodDescriptor "(I)I" = some ⟨[.int], some .int⟩ := by decide +kernel
theorem pd_5 : parseMethodDescriptor "(I)[B" = some ⟨[.int], some (.array .byte)⟩ := by decide +kernel
theorem pd_6 : parseMethodDescriptor "([BII)V" = some ⟨[(.array .byte), .int, .int], none⟩ := by decide +kernel
theorem pd_7 : parseMethodDescriptor "([BI)C" = some ⟨[(.array .byte), .int], some .char⟩ := by decide +kernel
theorem pd_8 : parseMethodDescriptor "(IILjava/util/function/BiFunction;)I" = some ⟨[.int, .int, (.object "java/util/function/BiFunction")], some .int⟩ := by decide +kernel
theorem pd_9 : parseMethodDescriptor "([B)I" = some ⟨[(.array .byte)], some .int⟩ := by decide +kernel
theorem pd_10 : parseMethodDescriptor "(II)V" = some ⟨[.int, .int], none⟩ := by decide +kernel
theorem pd_11 : parseMethodDescriptor "(I[B)V" = some ⟨[.int, (.array .byte)], none⟩ := by decide +kernel
theorem pd_12 : parseMethodDescriptor "()Z" = some ⟨[], some .boolean⟩ := by decide +kernel
theorem pd_13 : parseMethodDescriptor "(I)C" = some ⟨[.int], some .char⟩ := by decide +kernel
theorem pd_14 : parseMethodDescriptor "(C)Z" = some ⟨[.char], some .boolean⟩ := by decide +kernel
theorem pd_15 : parseMethodDescriptor "([C)V" = some ⟨[(.array .char)], none⟩ := by decide +kernel
theorem pd_16 : parseMethodDescriptor "(Ljava/lang/String;II)Z" = some ⟨[(.object "java/lang/String"), .int, .int], some .boolean⟩ := by decide +kernel
theorem pd_17 : parseMethodDescriptor "(IIIC)Z" = some ⟨[.int, .int, .int, .char], some .boolean⟩ := by decide +kernel
theorem ef_rmC2_4 (m : MethodId) (x0 : Addr) (x1 : Int32) (x2 : Addr) (x3 : Int32) (x4 : Int32) : entryFrame m #[(.ref x0), (.int x1), (.ref x2), (.int x3), (.int x4)] 7 = mkF m 0 #[.val (.ref x0), .val (.int x1), .val (.ref x2), .val (.int x3), .val (.int x4), .unset, .unset] [] := by first | (simp [entryFrame, mkF, argsToLocals, Value.category]; done) | rfl
theorem ef_rmC1_4 (m : MethodId) (x0 : Addr) (x1 : Int32) (x2 : Int32) : entryFrame m #[(.ref x0), (.int x1), (.int x2)] 6 = mkF m 0 #[.val (.ref x0), .val (.int x1), .val (.int x2), .unset, .unset, .unset] [] := by first | (simp [entryFrame, mkF, argsToLocals, Value.category]; done) | rfl
theorem ef_rmCo_4 (m : MethodId) (x0 : Addr) (x1 : Int32) : entryFrame m #[(.ref x0), (.int x1)] 2 = mkF m 0 #[.val (.ref x0), .val (.int x1)] [] := by first | (simp [entryFrame, mkF, argsToLocals, Value.category]; done) | rfl
theorem ef_rmS4_4 (m : MethodId) (x0 : Addr) (x1 : Addr) (x2 : Int32) (x3 : Int32) : entryFrame m #[(.ref x0), (.ref x1), (.int x2), (.int x3), .null] 6 = mkF m 0 #[.val (.ref x0), .val (.ref x1), .val (.int x2), .val (.int x3), .val .null, .unset] [] := by first | (simp [entryFrame, mkF, argsToLocals, Value.category]; done) | rfl
theorem ef_rmS1_4 (m : MethodId) (x0 : Addr) (x1 : Addr) : entryFrame m #[(.ref x0), (.ref x1)] 2 = mkF m 0 #[.val (.ref x0), .val (.ref x1)] [] := by first | (simp [entryFrame, mkF, argsToLocals, Value.category]; done) | rfl
theorem ef_rmNL (m : MethodId) (x0 : Int32) : entryFrame m #[(.int x0)] 1 = mkF m 0 #[.val (.int x0)] [] := by first | (simp [entryFrame, mkF, argsToLocals, Value.category]; done) | rfl
theorem ef_rmNF (m : MethodId) (x0 : Int32) : entryFrame m #[(.int x0)] 1 = mkF m 0 #[.val (.int x0)] [] := by first | (simp [entryFrame, mkF, argsToLocals, Value.category]; done) | rfl
theorem ef_rmPU0 (m : MethodId) (x0 : Addr) (x1 : Int32) (x2 : Int32) : entryFrame m #[(.ref x0), (.int x1), (.int x2)] 3 = mkF m 0 #[.val (.ref x0), .val (.int x1), .val (.int x2)] [] := by first | (simp [entryFrame, mkF, argsToLocals, Value.category]; done) | rfl
theorem ef_rmPU1 (m : MethodId) (x0 : Addr) (x1 : Int32) (x2 : Int32) : entryFrame m #[(.ref x0), (.int x1), (.int x2)] 3 = mkF m 0 #[.val (.ref x0), .val (.int x1), .val (.int x2)] [] := by first | (simp [entryFrame, mkF, argsToLocals, Value.category]; done) | rfl
theorem ef_rmPU2 (m : MethodId) (x0 : Addr) (x1 : Int32) (x2 : Int32) : entryFrame m #[(.ref x0), (.int x1), (.int x2)] 3 = mkF m 0 #[.val (.ref x0), .val (.int x1), .val (.int x2)] [] := by first | (simp [entryFrame, mkF, argsToLocals, Value.category]; done) | rfl
theorem ef_rmPU3 (m : MethodId) (x0 : Addr) (x1 : Int32) (x2 : Int32) : entryFrame m #[(.ref x0), (.int x1), (.int x2)] 3 = mkF m 0 #[.val (.ref x0), .val (.int x1), .val (.int x2)] [] := by first | (simp [entryFrame, mkF, argsToLocals, Value.category]; done) | rfl
theorem ef_rmTB (m : MethodId) (x0 : Addr) (x1 : Int32) (x2 : Int32) : entryFrame m #[(.ref x0), (.int x1), (.int x2)] 5 = mkF m 0 #[.val (.ref x0), .val (.int x1), .val (.int x2), .unset, .unset] [] := by first | (simp [entryFrame, mkF, argsToLocals, Value.category]; done) | rfl
theorem ef_rmG0 (m : MethodId) (x0 : Addr) (x1 : Int32) : entryFrame m #[(.ref x0), (.int x1)] 2 = mkF m 0 #[.val (.ref x0), .val (.int x1)] [] := by first | (simp [entryFrame, mkF, argsToLocals, Value.category]; done) | rfl
theorem ef_rmG1 (m : MethodId) (x0 : Addr) (x1 : Int32) : entryFrame m #[(.ref x0), (.int x1)] 2 = mkF m 0 #[.val (.ref x0), .val (.int x1)] [] := by first | (simp [entryFrame, mkF, argsToLocals, Value.category]; done) | rfl
theorem ef_rmG2 (m : MethodId) (x0 : Addr) (x1 : Int32) : entryFrame m #[(.ref x0), (.int x1)] 2 = mkF m 0 #[.val (.ref x0), .val (.int x1)] [] := by first | (simp [entryFrame, mkF, argsToLocals, Value.category]; done) | rfl
theorem ef_rmG3 (m : MethodId) (x0 : Addr) (x1 : Int32) : entryFrame m #[(.ref x0), (.int x1)] 2 = mkF m 0 #[.val (.ref x0), .val (.int x1)] [] := by first | (simp [entryFrame, mkF, argsToLocals, Value.category]; done) | rfl
theorem ef_rmC2U (m : MethodId) (x0 : Addr) (x1 : Int32) (x2 : Addr) (x3 : Int32) (x4 : Int32) : entryFrame m #[(.ref x0), (.int x1), (.ref x2), (.int x3), (.int x4)] 7 = mkF m 0 #[.val (.ref x0), .val (.int x1), .val (.ref x2), .val (.int x3), .val (.int x4), .unset, .unset] [] := by first | (simp [entryFrame, mkF, argsToLocals, Value.category]; done) | rfl
theorem ef_rmC1U (m : MethodId) (x0 : Addr) (x1 : Int32) (x2 : Int32) : entryFrame m #[(.ref x0), (.int x1), (.int x2)] 6 = mkF m 0 #[.val (.ref x0), .val (.int x1), .val (.int x2), .unset, .unset, .unset] [] := by first | (simp [entryFrame, mkF, argsToLocals, Value.category]; done) | rfl
theorem ef_rmCoU (m : MethodId) (x0 : Addr) (x1 : Int32) : entryFrame m #[(.ref x0), (.int x1)] 2 = mkF m 0 #[.val (.ref x0), .val (.int x1)] [] := by first | (simp [entryFrame, mkF, argsToLocals, Value.category]; done) | rfl
theorem ef_rmS4U (m : MethodId) (x0 : Addr) (x1 : Addr) (x2 : Int32) (x3 : Int32) : entryFrame m #[(.ref x0), (.ref x1), (.int x2), (.int x3), .null] 6 = mkF m 0 #[.val (.ref x0), .val (.ref x1), .val (.int x2), .val (.int x3), .val .null, .unset] [] := by first | (simp [entryFrame, mkF, argsToLocals, Value.category]; done) | rfl
theorem ef_rmS1U (m : MethodId) (x0 : Addr) (x1 : Addr) : entryFrame m #[(.ref x0), (.ref x1)] 2 = mkF m 0 #[.val (.ref x0), .val (.ref x1)] [] := by first | (simp [entryFrame, mkF, argsToLocals, Value.category]; done) | rfl
theorem ef_rmPX (m : MethodId) (x0 : Int32) (x1 : Int32) (x2 : Value) (hr2 : x2.isRef = true) : entryFrame m #[(.int x0), (.int x1), x2] 3 = mkF m 0 #[.val (.int x0), .val (.int x1), .val x2] [] := by
  rcases ref_cases hr2 with rfl | ⟨_, rfl⟩
  all_goals (first | (simp [entryFrame, mkF, argsToLocals, Value.category]; done) | rfl)
theorem ef_rmSX (m : MethodId) (x0 : Int32) (x1 : Int32) : entryFrame m #[(.int x0), (.int x1)] 2 = mkF m 0 #[.val (.int x0), .val (.int x1)] [] := by first | (simp [entryFrame, mkF, argsToLocals, Value.category]; done) | rfl
theorem ef_rmUL (m : MethodId) (x0 : Addr) : entryFrame m #[(.ref x0)] 1 = mkF m 0 #[.val (.ref x0)] [] := by first | (simp [entryFrame, mkF, argsToLocals, Value.category]; done) | rfl
theorem ef_rmUX (m : MethodId) (x0 : Int32) (x1 : Addr) : entryFrame m #[(.int x0), (.ref x1)] 2 = mkF m 0 #[.val (.int x0), .val (.ref x1)] [] := by first | (simp [entryFrame, mkF, argsToLocals, Value.category]; done) | rfl
theorem ef_rmLC0 (m : MethodId) (x0 : Addr) (x1 : Int32) : entryFrame m #[(.ref x0), (.int x1)] 2 = mkF m 0 #[.val (.ref x0), .val (.int x1)] [] := by first | (simp [entryFrame, mkF, argsToLocals, Value.category]; done) | rfl
theorem ef_rmUC0 (m : MethodId) (x0 : Addr) (x1 : Int32) : entryFrame m #[(.ref x0), (.int x1)] 2 = mkF m 0 #[.val (.ref x0), .val (.int x1)] [] := by first | (simp [entryFrame, mkF, argsToLocals, Value.category]; done) | rfl
theorem ef_rmLC1 (m : MethodId) (x0 : Addr) (x1 : Int32) : entryFrame m #[(.ref x0), (.int x1)] 2 = mkF m 0 #[.val (.ref x0), .val (.int x1)] [] := by first | (simp [entryFrame, mkF, argsToLocals, Value.category]; done) | rfl
theorem ef_rmUC1 (m : MethodId) (x0 : Addr) (x1 : Int32) : entryFrame m #[(.ref x0), (.int x1)] 2 = mkF m 0 #[.val (.ref x0), .val (.int x1)] [] := by first | (simp [entryFrame, mkF, argsToLocals, Value.category]; done) | rfl
theorem ef_rmLC2 (m : MethodId) (x0 : Addr) (x1 : Int32) : entryFrame m #[(.ref x0), (.int x1)] 2 = mkF m 0 #[.val (.ref x0), .val (.int x1)] [] := by first | (simp [entryFrame, mkF, argsToLocals, Value.category]; done) | rfl
theorem ef_rmUC2 (m : MethodId) (x0 : Addr) (x1 : Int32) : entryFrame m #[(.ref x0), (.int x1)] 2 = mkF m 0 #[.val (.ref x0), .val (.int x1)] [] := by first | (simp [entryFrame, mkF, argsToLocals, Value.category]; done) | rfl
theorem ef_rmLC3 (m : MethodId) (x0 : Addr) (x1 : Int32) : entryFrame m #[(.ref x0), (.int x1)] 2 = mkF m 0 #[.val (.ref x0), .val (.int x1)] [] := by first | (simp [entryFrame, mkF, argsToLocals, Value.category]; done) | rfl
theorem ef_rmUC3 (m : MethodId) (x0 : Addr) (x1 : Int32) : entryFrame m #[(.ref x0), (.int x1)] 2 = mkF m 0 #[.val (.ref x0), .val (.int x1)] [] := by first | (simp [entryFrame, mkF, argsToLocals, Value.category]; done) | rfl
theorem ef_rmIL0 (m : MethodId) (x0 : Addr) : entryFrame m #[(.ref x0)] 1 = mkF m 0 #[.val (.ref x0)] [] := by first | (simp [entryFrame, mkF, argsToLocals, Value.category]; done) | rfl
theorem ef_rmIL1 (m : MethodId) (x0 : Addr) : entryFrame m #[(.ref x0)] 1 = mkF m 0 #[.val (.ref x0)] [] := by first | (simp [entryFrame, mkF, argsToLocals, Value.category]; done) | rfl
theorem ef_rmCAL0 (m : MethodId) (x0 : Addr) (x1 : Int32) : entryFrame m #[(.ref x0), (.int x1)] 2 = mkF m 0 #[.val (.ref x0), .val (.int x1)] [] := by first | (simp [entryFrame, mkF, argsToLocals, Value.category]; done) | rfl
theorem ef_rmCAL1 (m : MethodId) (x0 : Addr) (x1 : Int32) : entryFrame m #[(.ref x0), (.int x1)] 2 = mkF m 0 #[.val (.ref x0), .val (.int x1)] [] := by first | (simp [entryFrame, mkF, argsToLocals, Value.category]; done) | rfl
theorem ef_rmCAL2 (m : MethodId) (x0 : Addr) (x1 : Int32) : entryFrame m #[(.ref x0), (.int x1)] 2 = mkF m 0 #[.val (.ref x0), .val (.int x1)] [] := by first | (simp [entryFrame, mkF, argsToLocals, Value.category]; done) | rfl
theorem ef_rmCAL3 (m : MethodId) (x0 : Addr) (x1 : Int32) : entryFrame m #[(.ref x0), (.int x1)] 2 = mkF m 0 #[.val (.ref x0), .val (.int x1)] [] := by first | (simp [entryFrame, mkF, argsToLocals, Value.category]; done) | rfl
theorem ef_rmDIL (m : MethodId) (x0 : Addr) (x1 : Int32) (x2 : Int32) : entryFrame m #[(.ref x0), (.int x1), (.int x2)] 6 = mkF m 0 #[.val (.ref x0), .val (.int x1), .val (.int x2), .unset, .unset, .unset] [] := by first | (simp [entryFrame, mkF, argsToLocals, Value.category]; done) | rfl
theorem ef_rmCAU0 (m : MethodId) (x0 : Addr) (x1 : Int32) : entryFrame m #[(.ref x0), (.int x1)] 2 = mkF m 0 #[.val (.ref x0), .val (.int x1)] [] := by first | (simp [entryFrame, mkF, argsToLocals, Value.category]; done) | rfl
theorem ef_rmCAU1 (m : MethodId) (x0 : Addr) (x1 : Int32) : entryFrame m #[(.ref x0), (.int x1)] 2 = mkF m 0 #[.val (.ref x0), .val (.int x1)] [] := by first | (simp [entryFrame, mkF, argsToLocals, Value.category]; done) | rfl
theorem ef_rmCAU2 (m : MethodId) (x0 : Addr) (x1 : Int32) : entryFrame m #[(.ref x0), (.int x1)] 2 = mkF m 0 #[.val (.ref x0), .val (.int x1)] [] := by first | (simp [entryFrame, mkF, argsToLocals, Value.category]; done) | rfl
theorem ef_rmCAU3 (m : MethodId) (x0 : Addr) (x1 : Int32) : entryFrame m #[(.ref x0), (.int x1)] 2 = mkF m 0 #[.val (.ref x0), .val (.int x1)] [] := by first | (simp [entryFrame, mkF, argsToLocals, Value.category]; done) | rfl
theorem ef_rmDIU (m : MethodId) (x0 : Addr) (x1 : Int32) (x2 : Int32) : entryFrame m #[(.ref x0), (.int x1), (.int x2)] 6 = mkF m 0 #[.val (.ref x0), .val (.int x1), .val (.int x2), .unset, .unset, .unset] [] := by first | (simp [entryFrame, mkF, argsToLocals, Value.category]; done) | rfl
theorem ef_rmAD (m : MethodId) (x0 : Int32) : entryFrame m #[(.int x0)] 2 = mkF m 0 #[.val (.int x0), .unset] [] := by first | (simp [entryFrame, mkF, argsToLocals, Value.category]; done) | rfl
theorem ef_rmFN (m : MethodId) (x0 : Int32) (x1 : Int32) (x2 : Int32) (x3 : Int32) : entryFrame m #[(.int x0), (.int x1), (.int x2), (.int x3)] 4 = mkF m 0 #[.val (.int x0), .val (.int x1), .val (.int x2), .val (.int x3)] [] := by first | (simp [entryFrame, mkF, argsToLocals, Value.category]; done) | rfl
theorem ef_rm0 (m : MethodId) (x0 : Int32) (x1 : Int32) (x2 : Int32) (x3 : Int32) : entryFrame m #[(.int x0), (.int x1), (.int x2), (.int x3)] maxLocals = mkF m 0 #[.val (.int x0), .val (.int x1), .val (.int x2), .val (.int x3), .unset, .unset, .unset, .unset, .unset, .unset] [] := by first | (simp [entryFrame, mkF, argsToLocals, Value.category, maxLocals]; done) | rfl
theorem own_i2c (x : Int32) (h0 : 0 ≤ x.toInt) (h1 : x.toInt ≤ 65535) : x.toUInt32.toUInt16.toUInt32.toInt32 = x := by
  have h := c_i2c x
  exact Int32.toInt_inj.mp (by omega)
theorem own_narc (x : Int32) : nar .char x = x.toUInt32.toUInt16.toUInt32.toInt32 := rfl
theorem own_c8 (x : Int32) : ((x &&& (255 : Int32)).toUInt32.toUInt16.toUInt32.toInt32) = (x &&& (255 : Int32)) := by
  have h := c_and x (255 : Int32) (by decide)
  have h2 : (255 : Int32).toInt = 255 := rfl
  exact own_i2c _ h.1 (by omega)
theorem own_n8 (x : Int32) : nar .char (x &&& (255 : Int32)) = (x &&& (255 : Int32)) := own_c8 x
theorem own_nc {x : Int32} (h0 : ¬ (x < (0 : Int32))) (h1 : ¬ ((255 : Int32) < x)) : nar .char x = x := by
  have a0 : (0 : Int32).toInt = 0 := rfl
  have a1 : (255 : Int32).toInt = 255 := rfl
  rw [Int32.lt_iff_toInt_lt] at h0 h1
  exact own_i2c x (by omega) (by omega)
theorem own_ic {x : Int32} (h0 : ¬ (x < (0 : Int32))) (h1 : ¬ ((255 : Int32) < x)) : x.toUInt32.toUInt16.toUInt32.toInt32 = x := own_nc h0 h1
theorem own_ch8 (x : Int32) : nar .char (((x &&& (255 : Int32)).toUInt32.toUInt16.toUInt32.toInt32)) = (x &&& (255 : Int32)) := by
  have h := c_and x (255 : Int32) (by decide)
  have h2 : (255 : Int32).toInt = 255 := rfl
  rw [own_narc, own_i2c _ h.1 (by omega), own_i2c _ h.1 (by omega)]
theorem own_le255 (x : Int32) : ¬ ((255 : Int32) < (x &&& (255 : Int32))) := by
  have h := c_and x (255 : Int32) (by decide)
  rw [Int32.lt_iff_toInt_lt]; omega
theorem own_ge0 (x : Int32) : ¬ ((x &&& (255 : Int32)) < (0 : Int32)) := by
  have h := c_and x (255 : Int32) (by decide)
  have h2 : (0 : Int32).toInt = 0 := rfl
  rw [Int32.lt_iff_toInt_lt]; omega
theorem own_ob {c d : Int32} (c0 : ¬ (c < (0 : Int32))) (c1 : ¬ ((255 : Int32) < c)) (d0 : ¬ (d < (0 : Int32))) (d1 : ¬ ((255 : Int32) < d)) (h : nar .byte (c.toInt8.toInt32) = nar .byte (d.toInt8.toInt32)) : c = d := by
  have a0 : (0 : Int32).toInt = 0 := rfl
  have a1 : (255 : Int32).toInt = 255 := rfl
  rw [Int32.lt_iff_toInt_lt] at c0 c1 d0 d1
  have e : ∀ x : Int32, (nar .byte (x.toInt8.toInt32)).toInt = x.toInt.bmod 256 := fun x => by
    show (x.toInt8.toInt32.toInt8.toInt32).toInt = _
    rw [Int8.toInt_toInt32, Int32.toInt_toInt8, Int8.toInt_toInt32, Int32.toInt_toInt8]
    simp
  have q : (nar .byte (c.toInt8.toInt32)).toInt = (nar .byte (d.toInt8.toInt32)).toInt := by rw [h]
  rw [e, e] at q
  simp only [Int.bmod] at q
  apply Int32.toInt_inj.mp
  split at q <;> split at q <;> omega
theorem own_ofNat {i n : Nat} {z : Int32} (hz : z.toNatClampNeg = n) (h : i < n) : (Int32.ofNat i) < z ∧ ¬ (Int32.ofNat i) < 0 ∧ (Int32.ofNat i).toNatClampNeg = i := by
  have h1 := Int32.toInt_lt z
  have h2 : z.toInt.toNat = n := hz
  have h3 : (Int32.ofNat i).toInt = i := Int32.toInt_ofNat_small (by omega)
  have a0 : (0 : Int32).toInt = 0 := rfl
  refine ⟨?_, ?_, ?_⟩
  · rw [Int32.lt_iff_toInt_lt, h3]; omega
  · rw [Int32.lt_iff_toInt_lt, h3]; omega
  · show (Int32.ofNat i).toInt.toNat = i
    rw [h3]; rfl
theorem own_ofNatG {i n : Nat} {z : Int32} (hz : z.toNatClampNeg = n) (hn : ¬ z < 0) (h : i = n) : ¬ (Int32.ofNat i) < z := by
  have h1 := Int32.toInt_lt z
  have h2 : z.toInt.toNat = n := hz
  have a0 : (0 : Int32).toInt = 0 := rfl
  rw [Int32.lt_iff_toInt_lt] at hn
  have h3 : (Int32.ofNat i).toInt = i := Int32.toInt_ofNat_small (by omega)
  rw [Int32.lt_iff_toInt_lt, h3]; omega
theorem own_zeq {z w : Int32} {n k : Nat} (hz : z.toNatClampNeg = n) (hw : w.toNatClampNeg = k) (h1 : ¬ z < 0) (h2 : ¬ w < 0) : z = w ↔ n = k := by
  have a0 : (0 : Int32).toInt = 0 := rfl
  have e1 : z.toInt.toNat = n := hz
  have e2 : w.toInt.toNat = k := hw
  rw [Int32.lt_iff_toInt_lt] at h1 h2
  constructor
  · rintro rfl; omega
  · intro h; exact Int32.toInt_inj.mp (by omega)
theorem own_getD (xs : List Int32) (i : Nat) : (xs.map Value.int).getD i (.int (0 : Int32)) = .int (xs.getD i 0) := by
  simp only [List.getD_eq_getElem?_getD, List.getElem?_map]
  cases xs[i]? <;> rfl
theorem own_lists {xs ys : List Int32} (h : xs.length = ys.length) (q : ∀ j, j < xs.length → xs.getD j 0 = ys.getD j 0) : xs = ys := by
  apply List.ext_getElem h
  intro i h1 h2
  have := q i h1
  simpa [List.getD_eq_getElem?_getD, h1, h2] using this
theorem own_succ32 (i : Nat) : Int32.ofNat i + (1 : Int32) = Int32.ofNat (i + 1) := by
  rw [Int32.ofNat_add]; rfl
theorem own_c16 (x : Int32) : ((x &&& (65535 : Int32)).toUInt32.toUInt16.toUInt32.toInt32) = (x &&& (65535 : Int32)) := by
  have h := c_and x (65535 : Int32) (by decide)
  have h2 : (65535 : Int32).toInt = 65535 := rfl
  exact own_i2c _ h.1 (by omega)
theorem own_n16 (x : Int32) : nar .char (x &&& (65535 : Int32)) = (x &&& (65535 : Int32)) := own_c16 x
theorem own_r16 {x : Int32} : ¬ (x &&& (65535 : Int32)) < (0 : Int32) ∧ ¬ (65535 : Int32) < (x &&& (65535 : Int32)) := by
  have h := c_and x (65535 : Int32) (by decide)
  have a0 : (0 : Int32).toInt = 0 := rfl
  rw [Int32.lt_iff_toInt_lt, Int32.lt_iff_toInt_lt]; omega
theorem own_nc16 {x : Int32} (h0 : ¬ (x < (0 : Int32))) (h1 : ¬ ((65535 : Int32) < x)) : nar .char x = x := by
  have a0 : (0 : Int32).toInt = 0 := rfl
  have a1 : (65535 : Int32).toInt = 65535 := rfl
  rw [Int32.lt_iff_toInt_lt] at h0 h1
  exact own_i2c x (by omega) (by omega)
theorem own_gc {c : Int32} (h0 : ¬ (c < (0 : Int32))) (h1 : ¬ ((65535 : Int32) < c)) : (((((nar .byte ((c >>> ((0 : Int32) &&& 31)).toInt8.toInt32)) &&& (255 : Int32)) <<< ((0 : Int32) &&& 31)) ||| (((nar .byte ((c >>> ((8 : Int32) &&& 31)).toInt8.toInt32)) &&& (255 : Int32)) <<< ((8 : Int32) &&& 31))).toUInt32.toUInt16.toUInt32.toInt32) = c := by
  have a0 : (0 : Int32).toInt = 0 := rfl
  have a1 : (65535 : Int32).toInt = 65535 := rfl
  rw [Int32.lt_iff_toInt_lt] at h0 h1
  have e1 := c_ishr c (0 : Int32) 0 (by decide)
  have e2 := c_ishr c (8 : Int32) 8 (by decide)
  have n1 : (nar .byte ((c >>> ((0 : Int32) &&& 31)).toInt8.toInt32)) = ((c >>> ((0 : Int32) &&& 31)).toInt8.toInt32).toInt8.toInt32 := rfl
  have n2 : (nar .byte ((c >>> ((8 : Int32) &&& 31)).toInt8.toInt32)) = ((c >>> ((8 : Int32) &&& 31)).toInt8.toInt32).toInt8.toInt32 := rfl
  rw [n1, n2]
  generalize (c >>> ((0 : Int32) &&& 31)) = x at e1 ⊢
  generalize (c >>> ((8 : Int32) &&& 31)) = y at e2 ⊢
  have f1 := c_i2b x
  have f2 := c_i2b y
  generalize x.toInt8.toInt32 = x2 at f1 ⊢
  generalize y.toInt8.toInt32 = y2 at f2 ⊢
  have f3 := c_i2b x2
  have f4 := c_i2b y2
  generalize x2.toInt8.toInt32 = x3 at f3 ⊢
  generalize y2.toInt8.toInt32 = y3 at f4 ⊢
  have g1 := c_mask x3 (255 : Int32) 8 (by decide) (by decide)
  have g2 := c_mask y3 (255 : Int32) 8 (by decide) (by decide)
  generalize (x3 &&& (255 : Int32)) = x4 at g1 ⊢
  generalize (y3 &&& (255 : Int32)) = y4 at g2 ⊢
  have k1 := c_ishl x4 (0 : Int32) 0 (by decide)
  have k2 := c_ishl y4 (8 : Int32) 8 (by decide)
  have r1 := Int32.toInt_lt (x4 <<< ((0 : Int32) &&& 31))
  have r2 := Int32.le_toInt (x4 <<< ((0 : Int32) &&& 31))
  have r3 := Int32.toInt_lt (y4 <<< ((8 : Int32) &&& 31))
  have r4 := Int32.le_toInt (y4 <<< ((8 : Int32) &&& 31))
  generalize (x4 <<< ((0 : Int32) &&& 31)) = x5 at k1 r1 r2 ⊢
  generalize (y4 <<< ((8 : Int32) &&& 31)) = y5 at k2 r3 r4 ⊢
  have p0 : ((2 ^ 0 : Nat) : Int) = 1 := rfl
  have p8 : ((2 ^ 8 : Nat) : Int) = 256 := rfl
  rw [p0] at e1 k1
  rw [p8] at e2 g1 g2 k2
  have q := c_or' x5 y5 8 (by decide) 256 rfl (by omega) (by omega) (by omega)
  have r5 := Int32.toInt_lt (x5 ||| y5)
  have r6 := Int32.le_toInt (x5 ||| y5)
  generalize (x5 ||| y5) = w at q r5 r6 ⊢
  have v := c_i2c w
  exact Int32.toInt_inj.mp (by omega)
theorem own_b8 {c : Int32} (h0 : ¬ (c < (0 : Int32))) (h1 : ¬ ((255 : Int32) < c)) : (((nar .byte (c.toInt8.toInt32)) &&& (255 : Int32)).toUInt32.toUInt16.toUInt32.toInt32) = c := by
  have a0 : (0 : Int32).toInt = 0 := rfl
  have a1 : (255 : Int32).toInt = 255 := rfl
  rw [Int32.lt_iff_toInt_lt] at h0 h1
  have n1 : (nar .byte (c.toInt8.toInt32)) = c.toInt8.toInt32.toInt8.toInt32 := rfl
  rw [n1]
  have f1 := c_i2b c
  generalize c.toInt8.toInt32 = x2 at f1 ⊢
  have f3 := c_i2b x2
  generalize x2.toInt8.toInt32 = x3 at f3 ⊢
  have g1 := c_mask x3 (255 : Int32) 8 (by decide) (by decide)
  generalize (x3 &&& (255 : Int32)) = x4 at g1 ⊢
  have p8 : ((2 ^ 8 : Nat) : Int) = 256 := rfl
  rw [p8] at g1
  have v := c_i2c x4
  exact Int32.toInt_inj.mp (by omega)
def own_k (c0 c1 c2 c3 : Int32) : Int32 := (if (255 : Int32) < c0 then (0 : Int32) else if (255 : Int32) < c1 then (1 : Int32) else if (255 : Int32) < c2 then (2 : Int32) else if (255 : Int32) < c3 then (3 : Int32) else (4 : Int32))
def own_an (c0 c1 c2 c3 : Int32) (i : Nat) : Int32 := match i with | 0 => c0 | 1 => c1 | 2 => c2 | _ => c3
theorem own_kL {c0 c1 c2 c3 : Int32} (h : own_k c0 c1 c2 c3 = 4) : ¬ (255 : Int32) < c0 ∧ ¬ (255 : Int32) < c1 ∧ ¬ (255 : Int32) < c2 ∧ ¬ (255 : Int32) < c3 := by
  unfold own_k at h
  by_cases q0 : (255 : Int32) < c0
  · rw [if_pos q0] at h; exact absurd h (by decide)
  · by_cases q1 : (255 : Int32) < c1
    · rw [if_neg q0, if_pos q1] at h; exact absurd h (by decide)
    · by_cases q2 : (255 : Int32) < c2
      · rw [if_neg q0, if_neg q1, if_pos q2] at h; exact absurd h (by decide)
      · by_cases q3 : (255 : Int32) < c3
        · rw [if_neg q0, if_neg q1, if_neg q2, if_pos q3] at h; exact absurd h (by decide)
        · exact ⟨q0, q1, q2, q3⟩
theorem own_kU {c0 c1 c2 c3 : Int32} (h : ¬ own_k c0 c1 c2 c3 = 4) : ∃ i : Nat, i < 4 ∧ own_k c0 c1 c2 c3 = Int32.ofNat i ∧ (255 : Int32) < own_an c0 c1 c2 c3 i := by
  unfold own_k at h ⊢
  by_cases q0 : (255 : Int32) < c0
  · exact ⟨0, by decide, by rw [if_pos q0]; rfl, q0⟩
  · by_cases q1 : (255 : Int32) < c1
    · exact ⟨1, by decide, by rw [if_neg q0, if_pos q1]; rfl, q1⟩
    · by_cases q2 : (255 : Int32) < c2
      · exact ⟨2, by decide, by rw [if_neg q0, if_neg q1, if_pos q2]; rfl, q2⟩
      · by_cases q3 : (255 : Int32) < c3
        · exact ⟨3, by decide, by rw [if_neg q0, if_neg q1, if_neg q2, if_pos q3]; rfl, q3⟩
        · exact absurd (by rw [if_neg q0, if_neg q1, if_neg q2, if_neg q3]) h
abbrev own_dg (c : Int32) : Prop := ¬ c < (48 : Int32) ∧ ¬ (57 : Int32) < c
abbrev own_fine (i f t c : Int32) : Prop := i < f ∨ ¬ i < t ∨ own_dg c
theorem own_b01 {P : Prop} [Decidable P] : narrow .boolean (.int (if P then (1 : Int32) else (0 : Int32))) = .int (if P then (1 : Int32) else (0 : Int32)) := by by_cases h : P <;> simp only [h, if_true, if_false] <;> rfl
theorem own_m5 (x : Int32) : 0 ≤ ((x &&& (2147483647 : Int32)) % (5 : Int32)).toInt ∧ ((x &&& (2147483647 : Int32)) % (5 : Int32)).toInt ≤ 4 := by
  have h := c_and x (2147483647 : Int32) (by decide)
  have h2 := (c_irem (x &&& (2147483647 : Int32)) (5 : Int32) 5 rfl).1 h.1
  generalize ((x &&& (2147483647 : Int32)) % (5 : Int32)) = y at h2 ⊢
  omega
/-- every char from f to t is a digit -/
def own_all (c0 c1 c2 c3 f t : Int32) : Prop := f < t ∧ ∀ j : Nat, f.toNatClampNeg ≤ j → j < t.toNatClampNeg → own_dg (own_an c0 c1 c2 c3 j)
theorem own_ofN {f : Int32} (h : 0 ≤ f.toInt) : Int32.ofNat f.toNatClampNeg = f := by
  have h1 := Int32.toInt_lt f
  have h2 : f.toNatClampNeg = f.toInt.toNat := rfl
  apply Int32.toInt_inj.mp
  rw [h2, Int32.toInt_ofNat_small (by omega)]; omega
theorem own_toN {f : Int32} (h : 0 ≤ f.toInt) : (f.toNatClampNeg : Int) = f.toInt := by
  have h2 : f.toNatClampNeg = f.toInt.toNat := rfl
  omega
theorem own_ltN {i : Nat} {t : Int32} (ht : 0 ≤ t.toInt ∧ t.toInt ≤ 4) (hi : i ≤ 4) : Int32.ofNat i < t ↔ i < t.toNatClampNeg := by
  have h1 := own_toN ht.1
  rw [Int32.lt_iff_toInt_lt, Int32.toInt_ofNat_small (by omega)]; omega
theorem own_alln {c0 c1 c2 c3 f t : Int32} (hf : 0 ≤ f.toInt ∧ f.toInt ≤ 4) (ht : 0 ≤ t.toInt ∧ t.toInt ≤ 4) : own_all c0 c1 c2 c3 f t ↔ f < t ∧ own_fine 0 f t c0 ∧ own_fine 1 f t c1 ∧ own_fine 2 f t c2 ∧ own_fine 3 f t c3 := by
  have b0 : (0 : Int32).toInt = 0 := rfl
  have b1 : (1 : Int32).toInt = 1 := rfl
  have b2 : (2 : Int32).toInt = 2 := rfl
  have b3 : (3 : Int32).toInt = 3 := rfl
  have n1 := own_toN hf.1
  have n2 := own_toN ht.1
  have key : ∀ (j : Nat) (J c : Int32), J.toInt = j → (f.toNatClampNeg ≤ j → j < t.toNatClampNeg → own_dg c) → own_fine J f t c := by
    intro j J c hJ h
    by_cases q1 : J < f
    · exact Or.inl q1
    · by_cases q2 : J < t
      · rw [Int32.lt_iff_toInt_lt] at q1 q2
        exact Or.inr (Or.inr (h (by omega) (by omega)))
      · exact Or.inr (Or.inl q2)
  have back : ∀ (j : Nat) (J c : Int32), J.toInt = j → own_fine J f t c → f.toNatClampNeg ≤ j → j < t.toNatClampNeg → own_dg c := by
    intro j J c hJ h l1 l2
    rcases h with q | q | q
    · rw [Int32.lt_iff_toInt_lt] at q; omega
    · rw [Int32.lt_iff_toInt_lt] at q; omega
    · exact q
  constructor
  · rintro ⟨h1, h2⟩
    exact ⟨h1, key 0 0 c0 b0 (h2 0), key 1 1 c1 b1 (h2 1), key 2 2 c2 b2 (h2 2), key 3 3 c3 b3 (h2 3)⟩
  · rintro ⟨h1, f0, f1, f2, f3⟩
    refine ⟨h1, fun j l1 l2 => ?_⟩
    match j, l1, l2 with
    | 0, l1, l2 => exact back 0 0 c0 b0 f0 l1 l2
    | 1, l1, l2 => exact back 1 1 c1 b1 f1 l1 l2
    | 2, l1, l2 => exact back 2 2 c2 b2 f2 l1 l2
    | 3, l1, l2 => exact back 3 3 c3 b3 f3 l1 l2
    | j + 4, l1, l2 => exact absurd l2 (by omega)
def Q_rmC2_4 (Z : State) (a1 a2 : Addr) (k1 k2 : ClassId) (c0 c1 c2 c3 : Int32) (h0 : Heap) (n0 : Nat) : Option Value → Heap → List Loc → Prop := fun v h L => v = some (.int (4 : Int32)) ∧ Fr n0 L ∧ Keep h0 h [a2] ∧ Arv Z h a2 k2 .byte (4 : Int32) [(.int (nar .byte (c0.toInt8.toInt32))), (.int (nar .byte (c1.toInt8.toInt32))), (.int (nar .byte (c2.toInt8.toInt32))), (.int (nar .byte (c3.toInt8.toInt32)))] (.int (0 : Int32))
set_option maxRecDepth 65536 in
set_option maxHeartbeats 40000000 in
theorem rmC2_4 (l : Launch) (Z : State) (a0 : Array Value) (hw : ∀ d ∈ tables_1, d.before a0 Z = true) (ws : List Jvm.Cond) (a1 a2 : Addr) (k1 k2 : ClassId) (c0 c1 c2 c3 : Int32) (h0 : Heap) (n0 : Nat) (O : Old Z n0 h0) (V_a1 : Arv Z h0 a1 k1 .char (4 : Int32) [(.int c0), (.int c1), (.int c2), (.int c3)] (.int (0 : Int32))) (V_a2 : Arv Z h0 a2 k2 .byte (4 : Int32) [(.int (0 : Int32)), (.int (0 : Int32)), (.int (0 : Int32)), (.int (0 : Int32))] (.int (0 : Int32))) (g_a2 : n0 ≤ a2) (ne_a1_a2 : a1 ≠ a2) (hb0 : ¬ ((255 : Int32) < c0)) (hb1 : ¬ ((255 : Int32) < c1)) (hb2 : ¬ ((255 : Int32) < c2)) (hb3 : ¬ ((255 : Int32) < c3)) :
    MetFree l (⟨"java/lang/StringUTF16", "compress", "([CI[BII)I"⟩ : MethodName) (head1 (Jvm.Cond.code (⟨"java/lang/StringUTF16", "compress", "([CI[BII)I"⟩ : MethodName) jdk_52_method_21_code 7 (some .int) :: ws) ({ frames := 0, cells := 0, slots := 0, locals := 0 } : Room)) (fun a U => a = #[(.ref a1), (.int (0 : Int32)), (.ref a2), (.int (0 : Int32)), (.int (4 : Int32))] ∧ Z.Warmed39 U.vm ∧ U.heap = h0) (fun _ _ _ _ _ => True) (fun _ U o U' => ∃ v L, o = .returned v ∧ (Q_rmC2_4 Z a1 a2 k1 k2 c0 c1 c2 c3 h0 n0) v U'.heap L ∧ FrameEnd U o U' L ({ frames := 0, cells := 0, slots := 0, locals := 0 } : Room).cells ({ frames := 0, cells := 0, slots := 0, locals := 0 } : Room).slots) := by
  refine MetFree.of_bodySF (plainFor_of_name pn_0) hisR ?_
  intro p e s m args below meth c s₁ Bd hml0 hP hK
  obtain ⟨rfl, hZ, hh⟩ := hP
  have hx := Bd.exec
  have hby := Bd.bytes
  have hml : c.maxLocals = 7 := hml0
  have hown : s.vm.findClass "java/lang/StringUTF16" = some m.cls := findClass_of_methodNamed Bd.named
  have hnm := (name_of_methodNamed Bd.named Bd.method).1
  have hlk := BodyLoose.notSynchronized Bd
  have X0 : Stand p l e ({ frames := 0, cells := 0, slots := 0, locals := 0 } : Room) s m #[(.ref a1), (.int (0 : Int32)), (.ref a2), (.int (0 : Int32)), (.int (4 : Int32))] below meth c s₁ [] 0 0 := Stand.of_body Bd
  have e0 : s₁.heap = h0 := by rw [← hh, Bd.state]; rfl
  have N := Fr.nil n0
  have K := Keep.refl h0 [a2]
  obtain ⟨G, hG⟩ : ∃ G : State → JFrame → Prop, G = OwnG p e below s ({ frames := 0, cells := 0, slots := 0, locals := 0 } : Room).cells ({ frames := 0, cells := 0, slots := 0, locals := 0 } : Room).slots (Q_rmC2_4 Z a1 a2 k1 k2 c0 c1 c2 c3 h0 n0) := ⟨_, rfl⟩
  have gb : ∀ {T T' : State} {g g' : JFrame}, (∀ t, Steps p.tables e below (T'.setTop g') t → Steps p.tables e below (T.setTop g) t) → G T' g' → G T g := by subst hG; exact fun k h => own_by k h
  have go : ∀ {T : State} {locs : List Loc} {cells slots : Nat} {g : JFrame} {v : Option Value}, Stand p l e ({ frames := 0, cells := 0, slots := 0, locals := 0 } : Room) s m #[(.ref a1), (.int (0 : Int32)), (.ref a2), (.int (0 : Int32)), (.int (4 : Int32))] below meth c T locs cells slots → (meth.sig.returnType = none → v = none) → (∀ fs, (∀ (f : JFrame) (acts : List Action), f.method = m → f.locked = none → f.entered = [] → (doReturn e (T.setTop f) acts v).1 = T.setFrames fs) → Steps p.tables e below (T.setTop g) (T.setFrames fs)) → (Q_rmC2_4 Z a1 a2 k1 k2 c0 c1 c2 c3 h0 n0) v T.heap locs → cells ≤ ({ frames := 0, cells := 0, slots := 0, locals := 0 } : Room).cells → slots ≤ ({ frames := 0, cells := 0, slots := 0, locals := 0 } : Room).slots → G T g := by subst hG; exact fun X h1 h2 h3 h4 h5 => own_out X hlk h1 h2 h3 h4 h5
  show OwnG p e below s ({ frames := 0, cells := 0, slots := 0, locals := 0 } : Room).cells ({ frames := 0, cells := 0, slots := 0, locals := 0 } : Room).slots (Q_rmC2_4 Z a1 a2 k1 k2 c0 c1 c2 c3 h0 n0) s₁ (entryFrame m #[(.ref a1), (.int (0 : Int32)), (.ref a2), (.int (0 : Int32)), (.int (4 : Int32))] 7)
  rw [← hG, ef_rmC2_4 m a1 (0 : Int32) a2 (0 : Int32) (4 : Int32)]
  clear hG
  show G s₁ (mkF m 0 #[.val (.ref a1), .val (.int (0 : Int32)), .val (.ref a2), .val (.int (0 : Int32)), .val (.int (4 : Int32)), .unset, .unset] [])
  refine gb (fun _ k => XS.iconst X0.here hx rfl (hb hby d5_0) (XS.istore X0.here hx rfl (hb hby d5_1) rfl (l' := #[rv a1, iv 0, rv a2, iv 0, iv 4, iv 0, .unset]) rfl (XS.iload X0.here hx rfl (hb hby d5_3) rfl (XS.iload X0.here hx rfl (hb hby d5_5) rfl (XS.icmpNo X0.here hx rfl (hb hby d5_7) rfl (tlt (by decide : (0 : Int32) < (4 : Int32))).2.1 (XS.aloadN X0.here hx rfl (hb hby d5_10) rfl rfl k)))))) ?_
  show G s₁ (mkF m 11 #[rv a1, iv 0, rv a2, iv 0, iv 4, iv 0, .unset] [.ref a1])
  refine gb (fun _ k => XS.iloadN X0.here hx rfl (hb hby d5_11) rfl k) ?_
  show G s₁ (mkF m 12 #[rv a1, iv 0, rv a2, iv 0, iv 4, iv 0, .unset] [.int 0, .ref a1])
  have V'1 := V_a1
  obtain ⟨cl1, Ar1, qk1, sz1, nn1, hs1, ft1⟩ := V'1
  have hin1 : ¬ ((0 : Int32) < 0 ∨ cl1.slots.size ≤ ((0 : Int32)).toNatClampNeg) := inb_of sz1 ⟨by decide, by decide⟩
  have hat1 : cl1.slots[((0 : Int32)).toNatClampNeg]? = some (.int c0) := hs1.at hin1 rfl
  refine gb (X0.caload hx (j := (0 : Int32)) (v := (.int c0)) (by rw [e0]; exact Ar1.1) (State.isArrayOf_alike hZ.alike Ar1.2.1) Ar1.2.2 hin1 hat1 (g := (mkF m 12 #[rv a1, iv 0, rv a2, iv 0, iv 4, iv 0, .unset] [.int 0, .ref a1])) rfl rfl (hb hby d5_12)) ?_
  show G s₁ (mkF m 13 #[rv a1, iv 0, rv a2, iv 0, iv 4, iv 0, .unset] [.int c0])
  refine gb (fun _ k => XS.istore X0.here hx rfl (hb hby d5_13) rfl (l' := #[rv a1, iv 0, rv a2, iv 0, iv 4, iv 0, iv c0]) rfl (XS.iload X0.here hx rfl (hb hby d5_15) rfl (XS.sipush X0.here hx rfl (hb hby d5_17) (XS.icmpYes X0.here hx rfl (pc0 := 20) (pc' := 26) rfl (hb hby d5_20) rfl (flt hb0).2.2.2 (by decide) (by decide) (XS.aloadN X0.here hx rfl (hb hby d5_26) rfl rfl (XS.iloadN X0.here hx rfl (hb hby d5_27) rfl k)))))) ?_
  show G s₁ (mkF m 28 #[rv a1, iv 0, rv a2, iv 0, iv 4, iv 0, iv c0] [.int 0, .ref a2])
  refine gb (fun _ k => XS.iload X0.here hx rfl (hb hby d5_28) rfl (XS.i2b X0.here hx rfl (hb hby d5_30) rfl k)) ?_
  show G s₁ (mkF m 31 #[rv a1, iv 0, rv a2, iv 0, iv 4, iv 0, iv c0] [.int (c0.toInt8.toInt32), .int 0, .ref a2])
  have V'2 := V_a2
  obtain ⟨cl2, Ar2, qk2, sz2, nn2, hs2, ft2⟩ := V'2
  have hin2 : ¬ ((0 : Int32) < 0 ∨ cl2.slots.size ≤ ((0 : Int32)).toNatClampNeg) := inb_of sz2 ⟨by decide, by decide⟩
  obtain ⟨T3, h3, X3, e3, W3, st3⟩ := stB X0 hx hZ e0 Ar2 (j := (0 : Int32)) hin2 (g := (mkF m 31 #[rv a1, iv 0, rv a2, iv 0, iv 4, iv 0, iv c0] [.int (c0.toInt8.toInt32), .int 0, .ref a2])) rfl rfl (hb hby d5_31)
  have V_a2 : Arv Z h3 a2 k2 .byte (4 : Int32) [(.int (nar .byte (c0.toInt8.toInt32))), (.int (0 : Int32)), (.int (0 : Int32)), (.int (0 : Int32))] (.int (0 : Int32)) := Arv.set Ar2 qk2 sz2 nn2 hs2 ft2 (fits_nar_byte _) W3 0 rfl (Nat.le_of_ble_eq_true rfl)
  have V_a1 := V_a1.other W3 ne_a1_a2
  have O := O.wr W3 g_a2
  have K := K.wr W3 (Or.inl (List.mem_of_getElem? (i := 0) rfl))
  have N := Fr.snoc X3 N g_a2
  refine gb st3 ?_
  show G T3 (mkF m 32 #[rv a1, iv 0, rv a2, iv 0, iv 4, iv 0, iv c0] [])
  refine gb (fun _ k => XS.iinc X3.here hx rfl (hb hby d5_32) rfl (l' := #[rv a1, iv 1, rv a2, iv 0, iv 4, iv 0, iv c0]) rfl (XS.iinc X3.here hx rfl (hb hby d5_35) rfl (l' := #[rv a1, iv 1, rv a2, iv 1, iv 4, iv 0, iv c0]) rfl (XS.iinc X3.here hx rfl (hb hby d5_38) rfl (l' := #[rv a1, iv 1, rv a2, iv 1, iv 4, iv 1, iv c0]) rfl (XS.goto X3.here hx rfl (pc0 := 41) (pc' := 3) rfl (hb hby d5_41) (by decide) (by decide) (XS.iload X3.here hx rfl (hb hby d5_3) rfl (XS.iload X3.here hx rfl (hb hby d5_5) rfl k)))))) ?_
  show G T3 (mkF m 7 #[rv a1, iv 1, rv a2, iv 1, iv 4, iv 1, iv c0] [.int 4, .int 1])
  refine gb (fun _ k => XS.icmpNo X3.here hx rfl (hb hby d5_7) rfl (tlt (by decide : (1 : Int32) < (4 : Int32))).2.1 (XS.aloadN X3.here hx rfl (hb hby d5_10) rfl rfl (XS.iloadN X3.here hx rfl (hb hby d5_11) rfl k))) ?_
  show G T3 (mkF m 12 #[rv a1, iv 1, rv a2, iv 1, iv 4, iv 1, iv c0] [.int 1, .ref a1])
  have V'4 := V_a1
  obtain ⟨cl4, Ar4, qk4, sz4, nn4, hs4, ft4⟩ := V'4
  have hin4 : ¬ ((1 : Int32) < 0 ∨ cl4.slots.size ≤ ((1 : Int32)).toNatClampNeg) := inb_of sz4 ⟨by decide, by decide⟩
  have hat4 : cl4.slots[((1 : Int32)).toNatClampNeg]? = some (.int c1) := hs4.at hin4 rfl
  refine gb (X3.caload hx (j := (1 : Int32)) (v := (.int c1)) (by rw [e3]; exact Ar4.1) (State.isArrayOf_alike hZ.alike Ar4.2.1) Ar4.2.2 hin4 hat4 (g := (mkF m 12 #[rv a1, iv 1, rv a2, iv 1, iv 4, iv 1, iv c0] [.int 1, .ref a1])) rfl rfl (hb hby d5_12)) ?_
  show G T3 (mkF m 13 #[rv a1, iv 1, rv a2, iv 1, iv 4, iv 1, iv c0] [.int c1])
  refine gb (fun _ k => XS.istore X3.here hx rfl (hb hby d5_13) rfl (l' := #[rv a1, iv 1, rv a2, iv 1, iv 4, iv 1, iv c1]) rfl (XS.iload X3.here hx rfl (hb hby d5_15) rfl (XS.sipush X3.here hx rfl (hb hby d5_17) (XS.icmpYes X3.here hx rfl (pc0 := 20) (pc' := 26) rfl (hb hby d5_20) rfl (flt hb1).2.2.2 (by decide) (by decide) (XS.aloadN X3.here hx rfl (hb hby d5_26) rfl rfl (XS.iloadN X3.here hx rfl (hb hby d5_27) rfl k)))))) ?_
  show G T3 (mkF m 28 #[rv a1, iv 1, rv a2, iv 1, iv 4, iv 1, iv c1] [.int 1, .ref a2])
  refine gb (fun _ k => XS.iload X3.here hx rfl (hb hby d5_28) rfl (XS.i2b X3.here hx rfl (hb hby d5_30) rfl k)) ?_
  show G T3 (mkF m 31 #[rv a1, iv 1, rv a2, iv 1, iv 4, iv 1, iv c1] [.int (c1.toInt8.toInt32), .int 1, .ref a2])
  have V'5 := V_a2
  obtain ⟨cl5, Ar5, qk5, sz5, nn5, hs5, ft5⟩ := V'5
  have hin5 : ¬ ((1 : Int32) < 0 ∨ cl5.slots.size ≤ ((1 : Int32)).toNatClampNeg) := inb_of sz5 ⟨by decide, by decide⟩
  obtain ⟨T6, h6, X6, e6, W6, st6⟩ := stB X3 hx hZ e3 Ar5 (j := (1 : Int32)) hin5 (g := (mkF m 31 #[rv a1, iv 1, rv a2, iv 1, iv 4, iv 1, iv c1] [.int (c1.toInt8.toInt32), .int 1, .ref a2])) rfl rfl (hb hby d5_31)
  have V_a2 : Arv Z h6 a2 k2 .byte (4 : Int32) [(.int (nar .byte (c0.toInt8.toInt32))), (.int (nar .byte (c1.toInt8.toInt32))), (.int (0 : Int32)), (.int (0 : Int32))] (.int (0 : Int32)) := Arv.set Ar5 qk5 sz5 nn5 hs5 ft5 (fits_nar_byte _) W6 1 rfl (Nat.le_of_ble_eq_true rfl)
  have V_a1 := V_a1.other W6 ne_a1_a2
  have O := O.wr W6 g_a2
  have K := K.wr W6 (Or.inl (List.mem_of_getElem? (i := 0) rfl))
  have N := Fr.snoc X6 N g_a2
  refine gb st6 ?_
  show G T6 (mkF m 32 #[rv a1, iv 1, rv a2, iv 1, iv 4, iv 1, iv c1] [])
  refine gb (fun _ k => XS.iinc X6.here hx rfl (hb hby d5_32) rfl (l' := #[rv a1, iv 2, rv a2, iv 1, iv 4, iv 1, iv c1]) rfl (XS.iinc X6.here hx rfl (hb hby d5_35) rfl (l' := #[rv a1, iv 2, rv a2, iv 2, iv 4, iv 1, iv c1]) rfl (XS.iinc X6.here hx rfl (hb hby d5_38) rfl (l' := #[rv a1, iv 2, rv a2, iv 2, iv 4, iv 2, iv c1]) rfl (XS.goto X6.here hx rfl (pc0 := 41) (pc' := 3) rfl (hb hby d5_41) (by decide) (by decide) (XS.iload X6.here hx rfl (hb hby d5_3) rfl (XS.iload X6.here hx rfl (hb hby d5_5) rfl k)))))) ?_
  show G T6 (mkF m 7 #[rv a1, iv 2, rv a2, iv 2, iv 4, iv 2, iv c1] [.int 4, .int 2])
  refine gb (fun _ k => XS.icmpNo X6.here hx rfl (hb hby d5_7) rfl (tlt (by decide : (2 : Int32) < (4 : Int32))).2.1 (XS.aloadN X6.here hx rfl (hb hby d5_10) rfl rfl (XS.iloadN X6.here hx rfl (hb hby d5_11) rfl k))) ?_
  show G T6 (mkF m 12 #[rv a1, iv 2, rv a2, iv 2, iv 4, iv 2, iv c1] [.int 2, .ref a1])
  have V'7 := V_a1
  obtain ⟨cl7, Ar7, qk7, sz7, nn7, hs7, ft7⟩ := V'7
  have hin7 : ¬ ((2 : Int32) < 0 ∨ cl7.slots.size ≤ ((2 : Int32)).toNatClampNeg) := inb_of sz7 ⟨by decide, by decide⟩
  have hat7 : cl7.slots[((2 : Int32)).toNatClampNeg]? = some (.int c2) := hs7.at hin7 rfl
  refine gb (X6.caload hx (j := (2 : Int32)) (v := (.int c2)) (by rw [e6]; exact Ar7.1) (State.isArrayOf_alike hZ.alike Ar7.2.1) Ar7.2.2 hin7 hat7 (g := (mkF m 12 #[rv a1, iv 2, rv a2, iv 2, iv 4, iv 2, iv c1] [.int 2, .ref a1])) rfl rfl (hb hby d5_12)) ?_
  show G T6 (mkF m 13 #[rv a1, iv 2, rv a2, iv 2, iv 4, iv 2, iv c1] [.int c2])
  refine gb (fun _ k => XS.istore X6.here hx rfl (hb hby d5_13) rfl (l' := #[rv a1, iv 2, rv a2, iv 2, iv 4, iv 2, iv c2]) rfl (XS.iload X6.here hx rfl (hb hby d5_15) rfl (XS.sipush X6.here hx rfl (hb hby d5_17) (XS.icmpYes X6.here hx rfl (pc0 := 20) (pc' := 26) rfl (hb hby d5_20) rfl (flt hb2).2.2.2 (by decide) (by decide) (XS.aloadN X6.here hx rfl (hb hby d5_26) rfl rfl (XS.iloadN X6.here hx rfl (hb hby d5_27) rfl k)))))) ?_
  show G T6 (mkF m 28 #[rv a1, iv 2, rv a2, iv 2, iv 4, iv 2, iv c2] [.int 2, .ref a2])
  refine gb (fun _ k => XS.iload X6.here hx rfl (hb hby d5_28) rfl (XS.i2b X6.here hx rfl (hb hby d5_30) rfl k)) ?_
  show G T6 (mkF m 31 #[rv a1, iv 2, rv a2, iv 2, iv 4, iv 2, iv c2] [.int (c2.toInt8.toInt32), .int 2, .ref a2])
  have V'8 := V_a2
  obtain ⟨cl8, Ar8, qk8, sz8, nn8, hs8, ft8⟩ := V'8
  have hin8 : ¬ ((2 : Int32) < 0 ∨ cl8.slots.size ≤ ((2 : Int32)).toNatClampNeg) := inb_of sz8 ⟨by decide, by decide⟩
  obtain ⟨T9, h9, X9, e9, W9, st9⟩ := stB X6 hx hZ e6 Ar8 (j := (2 : Int32)) hin8 (g := (mkF m 31 #[rv a1, iv 2, rv a2, iv 2, iv 4, iv 2, iv c2] [.int (c2.toInt8.toInt32), .int 2, .ref a2])) rfl rfl (hb hby d5_31)
  have V_a2 : Arv Z h9 a2 k2 .byte (4 : Int32) [(.int (nar .byte (c0.toInt8.toInt32))), (.int (nar .byte (c1.toInt8.toInt32))), (.int (nar .byte (c2.toInt8.toInt32))), (.int (0 : Int32))] (.int (0 : Int32)) := Arv.set Ar8 qk8 sz8 nn8 hs8 ft8 (fits_nar_byte _) W9 2 rfl (Nat.le_of_ble_eq_true rfl)
  have V_a1 := V_a1.other W9 ne_a1_a2
  have O := O.wr W9 g_a2
  have K := K.wr W9 (Or.inl (List.mem_of_getElem? (i := 0) rfl))
  have N := Fr.snoc X9 N g_a2
  refine gb st9 ?_
  show G T9 (mkF m 32 #[rv a1, iv 2, rv a2, iv 2, iv 4, iv 2, iv c2] [])
  refine gb (fun _ k => XS.iinc X9.here hx rfl (hb hby d5_32) rfl (l' := #[rv a1, iv 3, rv a2, iv 2, iv 4, iv 2, iv c2]) rfl (XS.iinc X9.here hx rfl (hb hby d5_35) rfl (l' := #[rv a1, iv 3, rv a2, iv 3, iv 4, iv 2, iv c2]) rfl (XS.iinc X9.here hx rfl (hb hby d5_38) rfl (l' := #[rv a1, iv 3, rv a2, iv 3, iv 4, iv 3, iv c2]) rfl (XS.goto X9.here hx rfl (pc0 := 41) (pc' := 3) rfl (hb hby d5_41) (by decide) (by decide) (XS.iload X9.here hx rfl (hb hby d5_3) rfl (XS.iload X9.here hx rfl (hb hby d5_5) rfl k)))))) ?_
  show G T9 (mkF m 7 #[rv a1, iv 3, rv a2, iv 3, iv 4, iv 3, iv c2] [.int 4, .int 3])
  refine gb (fun _ k => XS.icmpNo X9.here hx rfl (hb hby d5_7) rfl (tlt (by decide : (3 : Int32) < (4 : Int32))).2.1 (XS.aloadN X9.here hx rfl (hb hby d5_10) rfl rfl (XS.iloadN X9.here hx rfl (hb hby d5_11) rfl k))) ?_
  show G T9 (mkF m 12 #[rv a1, iv 3, rv a2, iv 3, iv 4, iv 3, iv c2] [.int 3, .ref a1])
  have V'10 := V_a1
  obtain ⟨cl10, Ar10, qk10, sz10, nn10, hs10, ft10⟩ := V'10
  have hin10 : ¬ ((3 : Int32) < 0 ∨ cl10.slots.size ≤ ((3 : Int32)).toNatClampNeg) := inb_of sz10 ⟨by decide, by decide⟩
  have hat10 : cl10.slots[((3 : Int32)).toNatClampNeg]? = some (.int c3) := hs10.at hin10 rfl
  refine gb (X9.caload hx (j := (3 : Int32)) (v := (.int c3)) (by rw [e9]; exact Ar10.1) (State.isArrayOf_alike hZ.alike Ar10.2.1) Ar10.2.2 hin10 hat10 (g := (mkF m 12 #[rv a1, iv 3, rv a2, iv 3, iv 4, iv 3, iv c2] [.int 3, .ref a1])) rfl rfl (hb hby d5_12)) ?_
  show G T9 (mkF m 13 #[rv a1, iv 3, rv a2, iv 3, iv 4, iv 3, iv c2] [.int c3])
  refine gb (fun _ k => XS.istore X9.here hx rfl (hb hby d5_13) rfl (l' := #[rv a1, iv 3, rv a2, iv 3, iv 4, iv 3, iv c3]) rfl (XS.iload X9.here hx rfl (hb hby d5_15) rfl (XS.sipush X9.here hx rfl (hb hby d5_17) (XS.icmpYes X9.here hx rfl (pc0 := 20) (pc' := 26) rfl (hb hby d5_20) rfl (flt hb3).2.2.2 (by decide) (by decide) (XS.aloadN X9.here hx rfl (hb hby d5_26) rfl rfl (XS.iloadN X9.here hx rfl (hb hby d5_27) rfl k)))))) ?_
  show G T9 (mkF m 28 #[rv a1, iv 3, rv a2, iv 3, iv 4, iv 3, iv c3] [.int 3, .ref a2])
  refine gb (fun _ k => XS.iload X9.here hx rfl (hb hby d5_28) rfl (XS.i2b X9.here hx rfl (hb hby d5_30) rfl k)) ?_
  show G T9 (mkF m 31 #[rv a1, iv 3, rv a2, iv 3, iv 4, iv 3, iv c3] [.int (c3.toInt8.toInt32), .int 3, .ref a2])
  have V'11 := V_a2
  obtain ⟨cl11, Ar11, qk11, sz11, nn11, hs11, ft11⟩ := V'11
  have hin11 : ¬ ((3 : Int32) < 0 ∨ cl11.slots.size ≤ ((3 : Int32)).toNatClampNeg) := inb_of sz11 ⟨by decide, by decide⟩
  obtain ⟨T12, h12, X12, e12, W12, st12⟩ := stB X9 hx hZ e9 Ar11 (j := (3 : Int32)) hin11 (g := (mkF m 31 #[rv a1, iv 3, rv a2, iv 3, iv 4, iv 3, iv c3] [.int (c3.toInt8.toInt32), .int 3, .ref a2])) rfl rfl (hb hby d5_31)
  have V_a2 : Arv Z h12 a2 k2 .byte (4 : Int32) [(.int (nar .byte (c0.toInt8.toInt32))), (.int (nar .byte (c1.toInt8.toInt32))), (.int (nar .byte (c2.toInt8.toInt32))), (.int (nar .byte (c3.toInt8.toInt32)))] (.int (0 : Int32)) := Arv.set Ar11 qk11 sz11 nn11 hs11 ft11 (fits_nar_byte _) W12 3 rfl (Nat.le_of_ble_eq_true rfl)
  have V_a1 := V_a1.other W12 ne_a1_a2
  have O := O.wr W12 g_a2
  have K := K.wr W12 (Or.inl (List.mem_of_getElem? (i := 0) rfl))
  have N := Fr.snoc X12 N g_a2
  refine gb st12 ?_
  show G T12 (mkF m 32 #[rv a1, iv 3, rv a2, iv 3, iv 4, iv 3, iv c3] [])
  refine gb (fun _ k => XS.iinc X12.here hx rfl (hb hby d5_32) rfl (l' := #[rv a1, iv 4, rv a2, iv 3, iv 4, iv 3, iv c3]) rfl (XS.iinc X12.here hx rfl (hb hby d5_35) rfl (l' := #[rv a1, iv 4, rv a2, iv 4, iv 4, iv 3, iv c3]) rfl (XS.iinc X12.here hx rfl (hb hby d5_38) rfl (l' := #[rv a1, iv 4, rv a2, iv 4, iv 4, iv 4, iv c3]) rfl (XS.goto X12.here hx rfl (pc0 := 41) (pc' := 3) rfl (hb hby d5_41) (by decide) (by decide) (XS.iload X12.here hx rfl (hb hby d5_3) rfl (XS.iload X12.here hx rfl (hb hby d5_5) rfl k)))))) ?_
  show G T12 (mkF m 7 #[rv a1, iv 4, rv a2, iv 4, iv 4, iv 4, iv c3] [.int 4, .int 4])
  refine gb (fun _ k => XS.icmpYes X12.here hx rfl (pc0 := 7) (pc' := 44) rfl (hb hby d5_7) rfl (flt (by decide : ¬ ((4 : Int32) < (4 : Int32)))).2.1 (by decide) (by decide) (XS.iload X12.here hx rfl (hb hby d5_44) rfl k)) ?_
  show G T12 (mkF m 46 #[rv a1, iv 4, rv a2, iv 4, iv 4, iv 4, iv c3] [.int 4])
  exact go X12 (v := (some (.int (4 : Int32)))) (fun h => by rw [Bd.returns] at h; cases h) (fun fs hr => retOut X12 hx Bd.returns rfl (Or.inl ⟨rfl, by simp, _, rfl⟩) (hb hby d5_46) hr) (by rw [e12]; exact ⟨rfl, N, K, V_a2⟩) (by decide) (by decide)
def Q_rmC1_4 (Z : State) (a1 : Addr) (k1 : ClassId) (c0 c1 c2 c3 : Int32) (h0 : Heap) (n0 : Nat) : Option Value → Heap → List Loc → Prop := fun v h L => ∃ (b : Addr) (kb : ClassId), v = some (.ref b) ∧ Fr n0 L ∧ Keep h0 h [] ∧ n0 ≤ b ∧ h0.size ≤ b ∧ Arv Z h b kb .byte (4 : Int32) [(.int (nar .byte (c0.toInt8.toInt32))), (.int (nar .byte (c1.toInt8.toInt32))), (.int (nar .byte (c2.toInt8.toInt32))), (.int (nar .byte (c3.toInt8.toInt32)))] (.int (0 : Int32))
set_option maxRecDepth 65536 in
set_option maxHeartbeats 40000000 in
theorem rmC1_4 (l : Launch) (Z : State) (a0 : Array Value) (hw : ∀ d ∈ tables_1, d.before a0 Z = true) (ws : List Jvm.Cond) (a1 : Addr) (k1 : ClassId) (c0 c1 c2 c3 : Int32) (h0 : Heap) (n0 : Nat) (O : Old Z n0 h0) (V_a1 : Arv Z h0 a1 k1 .char (4 : Int32) [(.int c0), (.int c1), (.int c2), (.int c3)] (.int (0 : Int32))) (hb0 : ¬ ((255 : Int32) < c0)) (hb1 : ¬ ((255 : Int32) < c1)) (hb2 : ¬ ((255 : Int32) < c2)) (hb3 : ¬ ((255 : Int32) < c3)) :
    MetFree l (⟨"java/lang/StringUTF16", "compress", "([CII)[B"⟩ : MethodName) (head1 (Jvm.Cond.code (⟨"java/lang/StringUTF16", "compress", "([CII)[B"⟩ : MethodName) jdk_52_method_16_code 6 (some (.array .byte)) :: ws) ({ frames := 1, cells := 1, slots := 4, locals := 18 } : Room)) (fun a U => a = #[(.ref a1), (.int (0 : Int32)), (.int (4 : Int32))] ∧ Z.Warmed39 U.vm ∧ U.heap = h0) (fun _ _ _ _ _ => True) (fun _ U o U' => ∃ v L, o = .returned v ∧ (Q_rmC1_4 Z a1 k1 c0 c1 c2 c3 h0 n0) v U'.heap L ∧ FrameEnd U o U' L ({ frames := 1, cells := 1, slots := 4, locals := 18 } : Room).cells ({ frames := 1, cells := 1, slots := 4, locals := 18 } : Room).slots) := by
  refine MetFree.of_bodySF (plainFor_of_name pn_0) hisR ?_
  intro p e s m args below meth c s₁ Bd hml0 hP hK
  obtain ⟨rfl, hZ, hh⟩ := hP
  have hx := Bd.exec
  have hby := Bd.bytes
  have hml : c.maxLocals = 6 := hml0
  have hown : s.vm.findClass "java/lang/StringUTF16" = some m.cls := findClass_of_methodNamed Bd.named
  have hnm := (name_of_methodNamed Bd.named Bd.method).1
  have hlk := BodyLoose.notSynchronized Bd
  have X0 : Stand p l e ({ frames := 1, cells := 1, slots := 4, locals := 18 } : Room) s m #[(.ref a1), (.int (0 : Int32)), (.int (4 : Int32))] below meth c s₁ [] 0 0 := Stand.of_body Bd
  have e0 : s₁.heap = h0 := by rw [← hh, Bd.state]; rfl
  have N := Fr.nil n0
  have K := Keep.refl h0 []
  obtain ⟨G, hG⟩ : ∃ G : State → JFrame → Prop, G = OwnG p e below s ({ frames := 1, cells := 1, slots := 4, locals := 18 } : Room).cells ({ frames := 1, cells := 1, slots := 4, locals := 18 } : Room).slots (Q_rmC1_4 Z a1 k1 c0 c1 c2 c3 h0 n0) := ⟨_, rfl⟩
  have gb : ∀ {T T' : State} {g g' : JFrame}, (∀ t, Steps p.tables e below (T'.setTop g') t → Steps p.tables e below (T.setTop g) t) → G T' g' → G T g := by subst hG; exact fun k h => own_by k h
  have go : ∀ {T : State} {locs : List Loc} {cells slots : Nat} {g : JFrame} {v : Option Value}, Stand p l e ({ frames := 1, cells := 1, slots := 4, locals := 18 } : Room) s m #[(.ref a1), (.int (0 : Int32)), (.int (4 : Int32))] below meth c T locs cells slots → (meth.sig.returnType = none → v = none) → (∀ fs, (∀ (f : JFrame) (acts : List Action), f.method = m → f.locked = none → f.entered = [] → (doReturn e (T.setTop f) acts v).1 = T.setFrames fs) → Steps p.tables e below (T.setTop g) (T.setFrames fs)) → (Q_rmC1_4 Z a1 k1 c0 c1 c2 c3 h0 n0) v T.heap locs → cells ≤ ({ frames := 1, cells := 1, slots := 4, locals := 18 } : Room).cells → slots ≤ ({ frames := 1, cells := 1, slots := 4, locals := 18 } : Room).slots → G T g := by subst hG; exact fun X h1 h2 h3 h4 h5 => own_out X hlk h1 h2 h3 h4 h5
  show OwnG p e below s ({ frames := 1, cells := 1, slots := 4, locals := 18 } : Room).cells ({ frames := 1, cells := 1, slots := 4, locals := 18 } : Room).slots (Q_rmC1_4 Z a1 k1 c0 c1 c2 c3 h0 n0) s₁ (entryFrame m #[(.ref a1), (.int (0 : Int32)), (.int (4 : Int32))] 6)
  rw [← hG, ef_rmC1_4 m a1 (0 : Int32) (4 : Int32)]
  clear hG
  show G s₁ (mkF m 0 #[.val (.ref a1), .val (.int (0 : Int32)), .val (.int (4 : Int32)), .unset, .unset, .unset] [])
  refine gb (fun _ k => XS.iloadN X0.here hx rfl (hb hby d4_0) rfl k) ?_
  show G s₁ (mkF m 1 #[rv a1, iv 0, iv 4, .unset, .unset, .unset] [.int 4])
  obtain ⟨T1, h1, kA1, X1, e1, E1, A1, st1⟩ := newP X0 hx hZ (ow hw 20 rfl) e0 (g := (mkF m 1 #[rv a1, iv 0, iv 4, .unset, .unset, .unset] [.int 4])) rfl (hb hby d4_1) rfl (by decide) (cap := 4) (by decide) (by decide) (by decide) (by decide)
  obtain ⟨b1, g1⟩ : ∃ z, z = h0.size := ⟨_, rfl⟩
  rw [← g1] at A1 st1
  have g_b1 : n0 ≤ b1 := Nat.le_trans (by have := O.2.1; rw [O.1] at this; exact this) (Nat.le_of_eq g1.symm)
  have sz_b1 : h0.size ≤ b1 := Nat.le_trans K.1 (Nat.le_of_eq g1.symm)
  have ne_a1_b1 : a1 ≠ b1 := Nat.ne_of_lt (Nat.lt_of_lt_of_le V_a1.lt (Nat.le_of_eq g1.symm))
  have V_a1 := V_a1.ext E1
  have O := O.ext E1
  have K := K.ext E1
  have V_b1 : Arv Z h1 b1 kA1 .byte (4 : Int32) [(.int (0 : Int32)), (.int (0 : Int32)), (.int (0 : Int32)), (.int (0 : Int32))] (.int (0 : Int32)) := (Arv.new A1 (by decide)).pad (pad_rep [] (.int (0 : Int32)) 4)
  refine gb st1 ?_
  show G T1 (mkF m 3 #[rv a1, iv 0, iv 4, .unset, .unset, .unset] [.ref b1])
  refine gb (fun _ k => XS.astoreN X1.here hx rfl (hb hby d4_3) rfl rfl (l' := #[rv a1, iv 0, iv 4, rv b1, .unset, .unset]) rfl (XS.aloadN X1.here hx rfl (hb hby d4_4) rfl rfl (XS.iloadN X1.here hx rfl (hb hby d4_5) rfl (XS.aloadN X1.here hx rfl (hb hby d4_6) rfl rfl (XS.iconst X1.here hx rfl (hb hby d4_7) (XS.iloadN X1.here hx rfl (hb hby d4_8) rfl k)))))) ?_
  show G T1 (mkF m 9 #[rv a1, iv 0, iv 4, rv b1, .unset, .unset] [.int 4, .int 0, .ref b1, .int 0, .ref a1])
  obtain ⟨_, _, ⟨T2, Lz2, kz2, nz2⟩, -, X2, ⟨Lc2, hQ2, lq2, yq2, zq2⟩, st2⟩ := Jvm.LawKit.callS X1 hx (y := (⟨"java/lang/StringUTF16", "compress", "([CI[BII)I"⟩ : MethodName)) hown (mvT hZ (ow hw 21 rfl)) (mvT hZ (ow hw 22 rfl)) (mvT hZ (ow hw 18 rfl)) (mvT hZ (ow hw 23 rfl)) (by decide) (backOf (W := 0) (rmC2_4 l Z a0 hw [] a1 b1 k1 kA1 c0 c1 c2 c3 h1 n0 O V_a1 V_b1 g_b1 ne_a1_b1 hb0 hb1 hb2 hb3) hZ (ow hw 23 rfl) (ow hw 18 rfl) (by decide) (by decide)) (g := (mkF m 9 #[rv a1, iv 0, iv 4, rv b1, .unset, .unset] [.int 4, .int 0, .ref b1, .int 0, .ref a1])) rfl (by rw [hml]; rfl) (argsL := [(.ref a1), (.int (0 : Int32)), (.ref b1), (.int (0 : Int32)), (.int (4 : Int32))]) (rest := []) (lenOf pd_0 rfl) rfl (by show 2 * 0 + _ ≤ _; exact Nat.le_of_eq rfl) (hb hby d4_9) (fun _ _ => ⟨rfl, e1, (by decide : 1 + 0 ≤ _), (by decide : 4 + 0 ≤ _)⟩)
  dsimp only [Pt.U, Pt.locs, Pt.cells, Pt.slots] at X2 lq2 yq2 zq2 st2 hQ2
  subst lq2 yq2 zq2
  obtain ⟨h2, e2⟩ : ∃ z, z = T2.heap := ⟨_, rfl⟩
  rw [← e2] at hQ2
  replace e2 := e2.symm
  obtain ⟨rfl, Nq2, Kq2, hR2⟩ := hQ2
  have N := Fr.app N Nq2
  have V_a1 := V_a1.keep Kq2 (ninS ne_a1_b1 nin0)
  have V_b1 := hR2
  have O := O.keep Kq2 (allS g_b1 all0)
  have K := K.trans Kq2 (allS (Or.inr sz_b1) all0)
  refine gb st2 ?_
  show G T2 (mkF m 12 #[rv a1, iv 0, iv 4, rv b1, .unset, .unset] [.int 4])
  refine gb (fun _ k => XS.istore X2.here hx rfl (hb hby d4_12) rfl (l' := #[rv a1, iv 0, iv 4, rv b1, iv 4, .unset]) rfl (XS.iload X2.here hx rfl (hb hby d4_14) rfl (XS.iloadN X2.here hx rfl (hb hby d4_16) rfl (XS.icmpYes X2.here hx rfl (pc0 := 17) (pc' := 57) rfl (hb hby d4_17) rfl (teq (by decide : (4 : Int32) = (4 : Int32))).1 (by decide) (by decide) (XS.aloadN X2.here hx rfl (hb hby d4_57) rfl rfl k))))) ?_
  show G T2 (mkF m 58 #[rv a1, iv 0, iv 4, rv b1, iv 4, .unset] [.ref b1])
  exact go X2 (v := (some (.ref b1))) (fun h => by rw [Bd.returns] at h; cases h) (fun fs hr => retOut X2 hx Bd.returns rfl (Or.inr (Or.inr (Or.inr (Or.inr ⟨rfl, rfl, rfl⟩)))) (hb hby d4_58) hr) (by rw [e2]; exact ⟨_, _, rfl, N, K, g_b1, sz_b1, V_b1⟩) (by decide) (by decide)
def Q_rmCo_4 (Z : State) (a1 : Addr) (k1 : ClassId) (vs1 : List Value) (h0 : Heap) (n0 : Nat) : Option Value → Heap → List Loc → Prop := fun v h L => v = some (.int (0 : Int32)) ∧ L = [] ∧ h = h0
set_option maxRecDepth 65536 in
set_option maxHeartbeats 40000000 in
theorem rmCo_4 (l : Launch) (Z : State) (a0 : Array Value) (hw : ∀ d ∈ tables_1, d.before a0 Z = true) (ws : List Jvm.Cond) (a1 : Addr) (k1 : ClassId) (vs1 : List Value) (h0 : Heap) (n0 : Nat) (O : Old Z n0 h0) (V_a1 : Arv Z h0 a1 k1 .byte (4 : Int32) vs1 (.int (0 : Int32))) :
    MetFree l (⟨"java/lang/StringUTF16", "coderFromArrayLen", "([BI)B"⟩ : MethodName) (head1 (Jvm.Cond.code (⟨"java/lang/StringUTF16", "coderFromArrayLen", "([BI)B"⟩ : MethodName) jdk_52_method_15_code 2 (some .byte) :: ws) ({ frames := 0, cells := 0, slots := 0, locals := 0 } : Room)) (fun a U => a = #[(.ref a1), (.int (4 : Int32))] ∧ Z.Warmed39 U.vm ∧ U.heap = h0) (fun _ _ _ _ _ => True) (fun _ U o U' => ∃ v L, o = .returned v ∧ (Q_rmCo_4 Z a1 k1 vs1 h0 n0) v U'.heap L ∧ FrameEnd U o U' L ({ frames := 0, cells := 0, slots := 0, locals := 0 } : Room).cells ({ frames := 0, cells := 0, slots := 0, locals := 0 } : Room).slots) := by
  refine MetFree.of_bodySF (plainFor_of_name pn_0) hisR ?_
  intro p e s m args below meth c s₁ Bd hml0 hP hK
  obtain ⟨rfl, hZ, hh⟩ := hP
  have hx := Bd.exec
  have hby := Bd.bytes
  have hml : c.maxLocals = 2 := hml0
  have hown : s.vm.findClass "java/lang/StringUTF16" = some m.cls := findClass_of_methodNamed Bd.named
  have hnm := (name_of_methodNamed Bd.named Bd.method).1
  have hlk := BodyLoose.notSynchronized Bd
  have X0 : Stand p l e ({ frames := 0, cells := 0, slots := 0, locals := 0 } : Room) s m #[(.ref a1), (.int (4 : Int32))] below meth c s₁ [] 0 0 := Stand.of_body Bd
  have e0 : s₁.heap = h0 := by rw [← hh, Bd.state]; rfl
  have N := Fr.nil n0
  obtain ⟨G, hG⟩ : ∃ G : State → JFrame → Prop, G = OwnG p e below s ({ frames := 0, cells := 0, slots := 0, locals := 0 } : Room).cells ({ frames := 0, cells := 0, slots := 0, locals := 0 } : Room).slots (Q_rmCo_4 Z a1 k1 vs1 h0 n0) := ⟨_, rfl⟩
  have gb : ∀ {T T' : State} {g g' : JFrame}, (∀ t, Steps p.tables e below (T'.setTop g') t → Steps p.tables e below (T.setTop g) t) → G T' g' → G T g := by subst hG; exact fun k h => own_by k h
  have go : ∀ {T : State} {locs : List Loc} {cells slots : Nat} {g : JFrame} {v : Option Value}, Stand p l e ({ frames := 0, cells := 0, slots := 0, locals := 0 } : Room) s m #[(.ref a1), (.int (4 : Int32))] below meth c T locs cells slots → (meth.sig.returnType = none → v = none) → (∀ fs, (∀ (f : JFrame) (acts : List Action), f.method = m → f.locked = none → f.entered = [] → (doReturn e (T.setTop f) acts v).1 = T.setFrames fs) → Steps p.tables e below (T.setTop g) (T.setFrames fs)) → (Q_rmCo_4 Z a1 k1 vs1 h0 n0) v T.heap locs → cells ≤ ({ frames := 0, cells := 0, slots := 0, locals := 0 } : Room).cells → slots ≤ ({ frames := 0, cells := 0, slots := 0, locals := 0 } : Room).slots → G T g := by subst hG; exact fun X h1 h2 h3 h4 h5 => own_out X hlk h1 h2 h3 h4 h5
  show OwnG p e below s ({ frames := 0, cells := 0, slots := 0, locals := 0 } : Room).cells ({ frames := 0, cells := 0, slots := 0, locals := 0 } : Room).slots (Q_rmCo_4 Z a1 k1 vs1 h0 n0) s₁ (entryFrame m #[(.ref a1), (.int (4 : Int32))] 2)
  rw [← hG, ef_rmCo_4 m a1 (4 : Int32)]
  clear hG
  show G s₁ (mkF m 0 #[.val (.ref a1), .val (.int (4 : Int32))] [])
  refine gb (fun _ k => XS.iloadN X0.here hx rfl (hb hby d6_0) rfl (XS.aloadN X0.here hx rfl (hb hby d6_1) rfl rfl k)) ?_
  show G s₁ (mkF m 2 #[rv a1, iv 4] [.ref a1, .int 4])
  have V'1 := V_a1
  obtain ⟨cl1, Ar1, qk1, sz1, nn1, hs1, ft1⟩ := V'1
  refine gb (X0.arraylength hx (by rw [e0]; exact Ar1.1) (State.isArrayOf_alike hZ.alike Ar1.2.1) (g := (mkF m 2 #[rv a1, iv 4] [.ref a1, .int 4])) rfl rfl (hb hby d6_2)) ?_
  rw [len_of sz1 nn1]
  show G s₁ (mkF m 3 #[rv a1, iv 4] [.int 4, .int 4])
  refine gb (fun _ k => XS.isub X0.here hx rfl (hb hby d6_3) rfl (XS.bipush X0.here hx rfl (hb hby d6_4) (XS.iushr X0.here hx rfl (hb hby d6_6) rfl (XS.i2b X0.here hx rfl (hb hby d6_7) rfl k)))) ?_
  show G s₁ (mkF m 8 #[rv a1, iv 4] [.int 0])
  exact go X0 (v := (some (.int (0 : Int32)))) (fun h => by rw [Bd.returns] at h; cases h) (fun fs hr => retOut X0 hx Bd.returns rfl (Or.inl ⟨rfl, by simp, _, rfl⟩) (hb hby d6_8) hr) (⟨rfl, rfl, e0⟩) (by decide) (by decide)
def Q_rmS4_4 (Z : State) (a1 a2 : Addr) (k2 : ClassId) (c0 c1 c2 c3 : Int32) (h0 : Heap) (n0 : Nat) (zc : Int32) : Option Value → Heap → List Loc → Prop := fun v h L => ∃ (b : Addr) (kb : ClassId), v = none ∧ Fr n0 L ∧ Keep h0 h [a1] ∧ Exa Z h a1 "java/lang/String" ∧ Fld Z h a1 "java/lang/String" "coder" "B" (.int (0 : Int32)) ∧ Fld Z h a1 "java/lang/String" "value" "[B" (.ref b) ∧ n0 ≤ b ∧ h0.size ≤ b ∧ Arv Z h b kb .byte (4 : Int32) [(.int (nar .byte (c0.toInt8.toInt32))), (.int (nar .byte (c1.toInt8.toInt32))), (.int (nar .byte (c2.toInt8.toInt32))), (.int (nar .byte (c3.toInt8.toInt32)))] (.int (0 : Int32))
set_option maxRecDepth 65536 in
set_option maxHeartbeats 40000000 in
theorem rmS4_4 (l : Launch) (Z : State) (a0 : Array Value) (hw : ∀ d ∈ tables_1, d.before a0 Z = true) (ws : List Jvm.Cond) (a1 a2 : Addr) (k2 : ClassId) (c0 c1 c2 c3 : Int32) (h0 : Heap) (n0 : Nat) (O : Old Z n0 h0) (E_a1 : Exa Z h0 a1 "java/lang/String") (F_coder_a1 : Fld Z h0 a1 "java/lang/String" "coder" "B" (.int (0 : Int32))) (F_value_a1 : Fld Z h0 a1 "java/lang/String" "value" "[B" .null) (g_a1 : n0 ≤ a1) (V_a2 : Arv Z h0 a2 k2 .char (4 : Int32) [(.int c0), (.int c1), (.int c2), (.int c3)] (.int (0 : Int32))) (ne_a2_a1 : a2 ≠ a1) (hb0 : ¬ ((255 : Int32) < c0)) (hb1 : ¬ ((255 : Int32) < c1)) (hb2 : ¬ ((255 : Int32) < c2)) (hb3 : ¬ ((255 : Int32) < c3)) (zc : Int32) (S_cs : Sta Z Z.heap "java/lang/String" "COMPACT_STRINGS" "Z" (.int zc)) (hzc : ¬ zc = (0 : Int32)) :
    MetFree l (⟨"java/lang/String", "<init>", "([CIILjava/lang/Void;)V"⟩ : MethodName) (head1 (Jvm.Cond.code (⟨"java/lang/String", "<init>", "([CIILjava/lang/Void;)V"⟩ : MethodName) jdk_42_method_149_code 6 none :: ws) ({ frames := 2, cells := 1, slots := 4, locals := 35 } : Room)) (fun a U => a = #[(.ref a1), (.ref a2), (.int (0 : Int32)), (.int (4 : Int32)), .null] ∧ Z.Warmed39 U.vm ∧ U.heap = h0) (fun _ _ _ _ _ => True) (fun _ U o U' => ∃ v L, o = .returned v ∧ (Q_rmS4_4 Z a1 a2 k2 c0 c1 c2 c3 h0 n0 zc) v U'.heap L ∧ FrameEnd U o U' L ({ frames := 2, cells := 1, slots := 4, locals := 35 } : Room).cells ({ frames := 2, cells := 1, slots := 4, locals := 35 } : Room).slots) := by
  refine MetFree.of_bodySF (plainFor_of_name pn_1) hisR ?_
  intro p e s m args below meth c s₁ Bd hml0 hP hK
  obtain ⟨rfl, hZ, hh⟩ := hP
  have hx := Bd.exec
  have hby := Bd.bytes
  have hml : c.maxLocals = 6 := hml0
  have hown : s.vm.findClass "java/lang/String" = some m.cls := findClass_of_methodNamed Bd.named
  have hnm := (name_of_methodNamed Bd.named Bd.method).1
  have hlk := BodyLoose.notSynchronized Bd
  have X0 : Stand p l e ({ frames := 2, cells := 1, slots := 4, locals := 35 } : Room) s m #[(.ref a1), (.ref a2), (.int (0 : Int32)), (.int (4 : Int32)), .null] below meth c s₁ [] 0 0 := Stand.of_body Bd
  have e0 : s₁.heap = h0 := by rw [← hh, Bd.state]; rfl
  have N := Fr.nil n0
  have K := Keep.refl h0 [a1]
  obtain ⟨G, hG⟩ : ∃ G : State → JFrame → Prop, G = OwnG p e below s ({ frames := 2, cells := 1, slots := 4, locals := 35 } : Room).cells ({ frames := 2, cells := 1, slots := 4, locals := 35 } : Room).slots (Q_rmS4_4 Z a1 a2 k2 c0 c1 c2 c3 h0 n0 zc) := ⟨_, rfl⟩
  have gb : ∀ {T T' : State} {g g' : JFrame}, (∀ t, Steps p.tables e below (T'.setTop g') t → Steps p.tables e below (T.setTop g) t) → G T' g' → G T g := by subst hG; exact fun k h => own_by k h
  have go : ∀ {T : State} {locs : List Loc} {cells slots : Nat} {g : JFrame} {v : Option Value}, Stand p l e ({ frames := 2, cells := 1, slots := 4, locals := 35 } : Room) s m #[(.ref a1), (.ref a2), (.int (0 : Int32)), (.int (4 : Int32)), .null] below meth c T locs cells slots → (meth.sig.returnType = none → v = none) → (∀ fs, (∀ (f : JFrame) (acts : List Action), f.method = m → f.locked = none → f.entered = [] → (doReturn e (T.setTop f) acts v).1 = T.setFrames fs) → Steps p.tables e below (T.setTop g) (T.setFrames fs)) → (Q_rmS4_4 Z a1 a2 k2 c0 c1 c2 c3 h0 n0 zc) v T.heap locs → cells ≤ ({ frames := 2, cells := 1, slots := 4, locals := 35 } : Room).cells → slots ≤ ({ frames := 2, cells := 1, slots := 4, locals := 35 } : Room).slots → G T g := by subst hG; exact fun X h1 h2 h3 h4 h5 => own_out X hlk h1 h2 h3 h4 h5
  show OwnG p e below s ({ frames := 2, cells := 1, slots := 4, locals := 35 } : Room).cells ({ frames := 2, cells := 1, slots := 4, locals := 35 } : Room).slots (Q_rmS4_4 Z a1 a2 k2 c0 c1 c2 c3 h0 n0 zc) s₁ (entryFrame m #[(.ref a1), (.ref a2), (.int (0 : Int32)), (.int (4 : Int32)), .null] 6)
  rw [← hG, ef_rmS4_4 m a1 a2 (0 : Int32) (4 : Int32)]
  clear hG
  show G s₁ (mkF m 0 #[.val (.ref a1), .val (.ref a2), .val (.int (0 : Int32)), .val (.int (4 : Int32)), .val .null, .unset] [])
  refine gb (fun _ k => XS.aloadN X0.here hx rfl (hb hby d2_0) rfl rfl k) ?_
  show G s₁ (mkF m 1 #[rv a1, rv a2, iv 0, iv 4, .val .null, .unset] [.ref a1])
  obtain ⟨T1, X1, e1, st1⟩ := initO X0 hx hZ hown (ow hw 12 rfl) (ow hw 13 rfl) (ow hw 14 rfl) e0 (g := (mkF m 1 #[rv a1, rv a2, iv 0, iv 4, .val .null, .unset] [.ref a1])) rfl (by rw [hml]; rfl) rfl (hb hby d2_1) (by decide) (W := 0) (by show 2 * 0 + _ ≤ _; exact Nat.le_of_eq rfl) (by decide)
  refine gb st1 ?_
  show G T1 (mkF m 4 #[rv a1, rv a2, iv 0, iv 4, .val .null, .unset] [])
  refine gb (fun _ k => XS.iloadN X1.here hx rfl (hb hby d2_4) rfl (XS.ifYes X1.here hx rfl (pc0 := 5) (pc' := 27) rfl (hb hby d2_5) rfl ((if0 _ _).trans (feq (by decide : ¬ ((4 : Int32) = (0 : Int32)))).2) (by decide) (by decide) k)) ?_
  show G T1 (mkF m 27 #[rv a1, rv a2, iv 0, iv 4, .val .null, .unset] [])
  obtain ⟨T2, X2, e2, st2⟩ := getS2 X1 hx hZ hown (host := "") (Or.inl (ow hw 15 rfl)) Via.refl e1 (S_cs.ext O.2) (g := (mkF m 27 #[rv a1, rv a2, iv 0, iv 4, .val .null, .unset] [])) rfl (hb hby d2_27)
  refine gb st2 ?_
  show G T2 (mkF m 30 #[rv a1, rv a2, iv 0, iv 4, .val .null, .unset] [.int zc])
  refine gb (fun _ k => XS.ifNo X2.here hx rfl (hb hby d2_30) rfl ((if0 _ _).trans (feq hzc).1) (XS.aloadN X2.here hx rfl (hb hby d2_33) rfl rfl (XS.iloadN X2.here hx rfl (hb hby d2_34) rfl (XS.iloadN X2.here hx rfl (hb hby d2_35) rfl k)))) ?_
  show G T2 (mkF m 36 #[rv a1, rv a2, iv 0, iv 4, .val .null, .unset] [.int 4, .int 0, .ref a2])
  have lt_a1 := E_a1.lt
  have lt_a2 := V_a2.lt
  have szK := K.1
  obtain ⟨_, _, ⟨T3, Lz3, kz3, nz3⟩, -, X3, ⟨Lc3, hQ3, lq3, yq3, zq3⟩, st3⟩ := Jvm.LawKit.callS X2 hx (y := (⟨"java/lang/StringUTF16", "compress", "([CII)[B"⟩ : MethodName)) hown (mvT hZ (ow hw 16 rfl)) (mvT hZ (ow hw 17 rfl)) (mvT hZ (ow hw 18 rfl)) (mvT hZ (ow hw 19 rfl)) (by decide) (backOf (W := 0) (rmC1_4 l Z a0 hw [] a2 k2 c0 c1 c2 c3 h0 n0 O V_a2 hb0 hb1 hb2 hb3) hZ (ow hw 19 rfl) (ow hw 18 rfl) (by decide) (by decide)) (g := (mkF m 36 #[rv a1, rv a2, iv 0, iv 4, .val .null, .unset] [.int 4, .int 0, .ref a2])) rfl (by rw [hml]; rfl) (argsL := [(.ref a2), (.int (0 : Int32)), (.int (4 : Int32))]) (rest := []) (lenOf pd_1 rfl) rfl (by show 2 * 0 + _ ≤ _; exact Nat.le_of_eq rfl) (hb hby d2_36) (fun _ _ => ⟨rfl, e2, (by decide : 0 + 1 ≤ _), (by decide : 0 + 4 ≤ _)⟩)
  dsimp only [Pt.U, Pt.locs, Pt.cells, Pt.slots] at X3 lq3 yq3 zq3 st3 hQ3
  subst lq3 yq3 zq3
  obtain ⟨h3, e3⟩ : ∃ z, z = T3.heap := ⟨_, rfl⟩
  rw [← e3] at hQ3
  replace e3 := e3.symm
  obtain ⟨b3, kb3, rfl, Nq3, Kq3, hR3⟩ := hQ3
  have N := Fr.app N Nq3
  have E_a1 := E_a1.keep Kq3
  have F_coder_a1 := F_coder_a1.keep Kq3 nin0
  have F_value_a1 := F_value_a1.keep Kq3 nin0
  have V_a2 := V_a2.keep Kq3 nin0
  obtain ⟨g_b3, sz_b3, V_b3⟩ := hR3
  have O := O.keep Kq3 all0
  have K := K.trans Kq3 all0
  have ne_a1_b3 : a1 ≠ b3 := Nat.ne_of_lt (Nat.lt_of_lt_of_le lt_a1 sz_b3)
  have ne_a2_b3 : a2 ≠ b3 := Nat.ne_of_lt (Nat.lt_of_lt_of_le lt_a2 sz_b3)
  have sz_b3 := Nat.le_trans szK sz_b3
  refine gb st3 ?_
  show G T3 (mkF m 39 #[rv a1, rv a2, iv 0, iv 4, .val .null, .unset] [.ref b3])
  refine gb (fun _ k => XS.astore X3.here hx rfl (hb hby d2_39) rfl rfl (l' := #[rv a1, rv a2, iv 0, iv 4, .val .null, rv b3]) rfl (XS.aloadN X3.here hx rfl (hb hby d2_41) rfl rfl (XS.aload X3.here hx rfl (hb hby d2_42) rfl rfl (XS.iloadN X3.here hx rfl (hb hby d2_44) rfl k)))) ?_
  show G T3 (mkF m 45 #[rv a1, rv a2, iv 0, iv 4, .val .null, rv b3] [.int 4, .ref b3, .ref a1])
  obtain ⟨_, _, ⟨T4, Lz4, kz4, nz4⟩, -, X4, ⟨Lc4, hQ4, lq4, yq4, zq4⟩, st4⟩ := Jvm.LawKit.callS X3 hx (y := (⟨"java/lang/StringUTF16", "coderFromArrayLen", "([BI)B"⟩ : MethodName)) hown (mvT hZ (ow hw 24 rfl)) (mvT hZ (ow hw 25 rfl)) (mvT hZ (ow hw 18 rfl)) (mvT hZ (ow hw 26 rfl)) (by decide) (backOf (W := 1) (rmCo_4 l Z a0 hw [] b3 kb3 _ h3 n0 O V_b3) hZ (ow hw 26 rfl) (ow hw 18 rfl) (by decide) (by decide)) (g := (mkF m 45 #[rv a1, rv a2, iv 0, iv 4, .val .null, rv b3] [.int 4, .ref b3, .ref a1])) rfl (by rw [hml]; rfl) (argsL := [(.ref b3), (.int (4 : Int32))]) (rest := [(.ref a1)]) (lenOf pd_2 rfl) rfl (by show 2 * 0 + _ ≤ _; exact Nat.le_of_eq rfl) (hb hby d2_45) (fun _ _ => ⟨rfl, e3, (by decide : 1 + 0 ≤ _), (by decide : 4 + 0 ≤ _)⟩)
  dsimp only [Pt.U, Pt.locs, Pt.cells, Pt.slots] at X4 lq4 yq4 zq4 st4 hQ4
  subst lq4 yq4 zq4
  obtain ⟨rfl, rfl, e4⟩ := hQ4
  try rw [List.append_nil] at X4
  refine gb st4 ?_
  show G T4 (mkF m 48 #[rv a1, rv a2, iv 0, iv 4, .val .null, rv b3] [.int 0, .ref a1])
  obtain ⟨T5, h5, X5, e5, W5, st5⟩ := putFN X4 hx hZ hown (ow hw 27 rfl) Via.refl e4 F_coder_a1 E_a1 (Or.inr ⟨(ow hw 28 rfl), rfl, hnm⟩) (ow hw 3 rfl) (ty := .byte) (v' := (.int (0 : Int32))) (by decide) rfl (by decide) (g := (mkF m 48 #[rv a1, rv a2, iv 0, iv 4, .val .null, rv b3] [.int 0, .ref a1])) rfl rfl (hb hby d2_48)
  refine gb st5 ?_
  have F_coder_a1 := F_coder_a1.same W5
  have E_a1 := E_a1.wr W5
  have F_value_a1 := F_value_a1.other W5 (Or.inr (slot_ne (Or.inr (ow hw 30 rfl)) (Or.inr (ow hw 28 rfl)) (by decide) (t := (.array .byte)) (t' := .byte) (by decide) (by decide)))
  have V_a2 := V_a2.other W5 ne_a2_a1
  have V_b3 := V_b3.other W5 (Ne.symm ne_a1_b3)
  have O := O.wr W5 g_a1
  have K := K.wr W5 (Or.inl (List.mem_of_getElem? (i := 0) rfl))
  have N := Fr.snoc X5 N g_a1
  show G T5 (mkF m 51 #[rv a1, rv a2, iv 0, iv 4, .val .null, rv b3] [])
  refine gb (fun _ k => XS.aloadN X5.here hx rfl (hb hby d2_51) rfl rfl (XS.aload X5.here hx rfl (hb hby d2_52) rfl rfl k)) ?_
  show G T5 (mkF m 54 #[rv a1, rv a2, iv 0, iv 4, .val .null, rv b3] [.ref b3, .ref a1])
  obtain ⟨T6, h6, X6, e6, W6, st6⟩ := putF X5 hx hZ hown (host := "") (Or.inl (ow hw 29 rfl)) Via.refl e5 F_value_a1 E_a1 (Or.inr ⟨(ow hw 30 rfl), rfl, hnm⟩) (ow hw 3 rfl) (ty := (.array .byte)) (by decide) rfl rfl (g := (mkF m 54 #[rv a1, rv a2, iv 0, iv 4, .val .null, rv b3] [.ref b3, .ref a1])) rfl rfl (hb hby d2_54)
  refine gb st6 ?_
  have F_value_a1 := F_value_a1.same W6
  have E_a1 := E_a1.wr W6
  have V_a2 := V_a2.other W6 ne_a2_a1
  have V_b3 := V_b3.other W6 (Ne.symm ne_a1_b3)
  have F_coder_a1 := F_coder_a1.other W6 (Or.inr (slot_ne (Or.inr (ow hw 28 rfl)) (Or.inr (ow hw 30 rfl)) (by decide) (t := .byte) (t' := (.array .byte)) (by decide) (by decide)))
  have O := O.wr W6 g_a1
  have K := K.wr W6 (Or.inl (List.mem_of_getElem? (i := 0) rfl))
  have N := Fr.snoc X6 N g_a1
  show G T6 (mkF m 57 #[rv a1, rv a2, iv 0, iv 4, .val .null, rv b3] [])
  exact go X6 (v := none) (fun _ => rfl) (fun fs hr => X6.returnOut hx Bd.returns (hb hby d2_57) hr) (by rw [e6]; exact ⟨_, _, rfl, N, K, E_a1, F_coder_a1, F_value_a1, g_b3, sz_b3, V_b3⟩) (by decide) (by decide)
def Q_rmS1_4 (Z : State) (a1 a2 : Addr) (k2 : ClassId) (c0 c1 c2 c3 : Int32) (h0 : Heap) (n0 : Nat) (zc : Int32) : Option Value → Heap → List Loc → Prop := fun v h L => ∃ (b : Addr) (kb : ClassId), v = none ∧ Fr n0 L ∧ Keep h0 h [a1] ∧ Exa Z h a1 "java/lang/String" ∧ Fld Z h a1 "java/lang/String" "coder" "B" (.int (0 : Int32)) ∧ Fld Z h a1 "java/lang/String" "value" "[B" (.ref b) ∧ n0 ≤ b ∧ h0.size ≤ b ∧ Arv Z h b kb .byte (4 : Int32) [(.int (nar .byte (c0.toInt8.toInt32))), (.int (nar .byte (c1.toInt8.toInt32))), (.int (nar .byte (c2.toInt8.toInt32))), (.int (nar .byte (c3.toInt8.toInt32)))] (.int (0 : Int32))
set_option maxRecDepth 65536 in
set_option maxHeartbeats 40000000 in
theorem rmS1_4 (l : Launch) (Z : State) (a0 : Array Value) (hw : ∀ d ∈ tables_1, d.before a0 Z = true) (ws : List Jvm.Cond) (a1 a2 : Addr) (k2 : ClassId) (c0 c1 c2 c3 : Int32) (h0 : Heap) (n0 : Nat) (O : Old Z n0 h0) (E_a1 : Exa Z h0 a1 "java/lang/String") (F_coder_a1 : Fld Z h0 a1 "java/lang/String" "coder" "B" (.int (0 : Int32))) (F_value_a1 : Fld Z h0 a1 "java/lang/String" "value" "[B" .null) (g_a1 : n0 ≤ a1) (V_a2 : Arv Z h0 a2 k2 .char (4 : Int32) [(.int c0), (.int c1), (.int c2), (.int c3)] (.int (0 : Int32))) (ne_a2_a1 : a2 ≠ a1) (hb0 : ¬ ((255 : Int32) < c0)) (hb1 : ¬ ((255 : Int32) < c1)) (hb2 : ¬ ((255 : Int32) < c2)) (hb3 : ¬ ((255 : Int32) < c3)) (zc : Int32) (S_cs : Sta Z Z.heap "java/lang/String" "COMPACT_STRINGS" "Z" (.int zc)) (hzc : ¬ zc = (0 : Int32)) :
    MetFree l (⟨"java/lang/String", "<init>", "([C)V"⟩ : MethodName) (head1 (Jvm.Cond.code (⟨"java/lang/String", "<init>", "([C)V"⟩ : MethodName) jdk_42_method_3_code 2 none :: ws) ({ frames := 3, cells := 1, slots := 4, locals := 52 } : Room)) (fun a U => a = #[(.ref a1), (.ref a2)] ∧ Z.Warmed39 U.vm ∧ U.heap = h0) (fun _ _ _ _ _ => True) (fun _ U o U' => ∃ v L, o = .returned v ∧ (Q_rmS1_4 Z a1 a2 k2 c0 c1 c2 c3 h0 n0 zc) v U'.heap L ∧ FrameEnd U o U' L ({ frames := 3, cells := 1, slots := 4, locals := 52 } : Room).cells ({ frames := 3, cells := 1, slots := 4, locals := 52 } : Room).slots) := by
  refine MetFree.of_bodySF (plainFor_of_name pn_1) hisR ?_
  intro p e s m args below meth c s₁ Bd hml0 hP hK
  obtain ⟨rfl, hZ, hh⟩ := hP
  have hx := Bd.exec
  have hby := Bd.bytes
  have hml : c.maxLocals = 2 := hml0
  have hown : s.vm.findClass "java/lang/String" = some m.cls := findClass_of_methodNamed Bd.named
  have hnm := (name_of_methodNamed Bd.named Bd.method).1
  have hlk := BodyLoose.notSynchronized Bd
  have X0 : Stand p l e ({ frames := 3, cells := 1, slots := 4, locals := 52 } : Room) s m #[(.ref a1), (.ref a2)] below meth c s₁ [] 0 0 := Stand.of_body Bd
  have e0 : s₁.heap = h0 := by rw [← hh, Bd.state]; rfl
  have N := Fr.nil n0
  have K := Keep.refl h0 [a1]
  obtain ⟨G, hG⟩ : ∃ G : State → JFrame → Prop, G = OwnG p e below s ({ frames := 3, cells := 1, slots := 4, locals := 52 } : Room).cells ({ frames := 3, cells := 1, slots := 4, locals := 52 } : Room).slots (Q_rmS1_4 Z a1 a2 k2 c0 c1 c2 c3 h0 n0 zc) := ⟨_, rfl⟩
  have gb : ∀ {T T' : State} {g g' : JFrame}, (∀ t, Steps p.tables e below (T'.setTop g') t → Steps p.tables e below (T.setTop g) t) → G T' g' → G T g := by subst hG; exact fun k h => own_by k h
  have go : ∀ {T : State} {locs : List Loc} {cells slots : Nat} {g : JFrame} {v : Option Value}, Stand p l e ({ frames := 3, cells := 1, slots := 4, locals := 52 } : Room) s m #[(.ref a1), (.ref a2)] below meth c T locs cells slots → (meth.sig.returnType = none → v = none) → (∀ fs, (∀ (f : JFrame) (acts : List Action), f.method = m → f.locked = none → f.entered = [] → (doReturn e (T.setTop f) acts v).1 = T.setFrames fs) → Steps p.tables e below (T.setTop g) (T.setFrames fs)) → (Q_rmS1_4 Z a1 a2 k2 c0 c1 c2 c3 h0 n0 zc) v T.heap locs → cells ≤ ({ frames := 3, cells := 1, slots := 4, locals := 52 } : Room).cells → slots ≤ ({ frames := 3, cells := 1, slots := 4, locals := 52 } : Room).slots → G T g := by subst hG; exact fun X h1 h2 h3 h4 h5 => own_out X hlk h1 h2 h3 h4 h5
  show OwnG p e below s ({ frames := 3, cells := 1, slots := 4, locals := 52 } : Room).cells ({ frames := 3, cells := 1, slots := 4, locals := 52 } : Room).slots (Q_rmS1_4 Z a1 a2 k2 c0 c1 c2 c3 h0 n0 zc) s₁ (entryFrame m #[(.ref a1), (.ref a2)] 2)
  rw [← hG, ef_rmS1_4 m a1 a2]
  clear hG
  show G s₁ (mkF m 0 #[.val (.ref a1), .val (.ref a2)] [])
  refine gb (fun _ k => XS.aloadN X0.here hx rfl (hb hby d1_0) rfl rfl (XS.aloadN X0.here hx rfl (hb hby d1_1) rfl rfl (XS.iconst X0.here hx rfl (hb hby d1_2) (XS.aloadN X0.here hx rfl (hb hby d1_3) rfl rfl k)))) ?_
  show G s₁ (mkF m 4 #[rv a1, rv a2] [.ref a2, .int 0, .ref a2, .ref a1])
  have V'1 := V_a2
  obtain ⟨cl1, Ar1, qk1, sz1, nn1, hs1, ft1⟩ := V'1
  refine gb (X0.arraylength hx (by rw [e0]; exact Ar1.1) (State.isArrayOf_alike hZ.alike Ar1.2.1) (g := (mkF m 4 #[rv a1, rv a2] [.ref a2, .int 0, .ref a2, .ref a1])) rfl rfl (hb hby d1_4)) ?_
  rw [len_of sz1 nn1]
  show G s₁ (mkF m 5 #[rv a1, rv a2] [.int 4, .int 0, .ref a2, .ref a1])
  refine gb (fun _ k => XS.aconstNull X0.here hx rfl (hb hby d1_5) k) ?_
  show G s₁ (mkF m 6 #[rv a1, rv a2] [.null, .int 4, .int 0, .ref a2, .ref a1])
  obtain ⟨_, _, ⟨T2, Lz2, kz2, nz2⟩, -, X2, ⟨Lc2, hQ2, lq2, yq2, zq2⟩, st2⟩ := X0.specialBack hx (y := (⟨"java/lang/String", "<init>", "([CIILjava/lang/Void;)V"⟩ : MethodName)) rfl hown (mvT hZ (ow hw 8 rfl)) (mvT hZ (ow hw 9 rfl)) (mvT hZ (ow hw 11 rfl)) (by decide) (backOf (W := 0) (rmS4_4 l Z a0 hw [] a1 a2 k2 c0 c1 c2 c3 h0 n0 O E_a1 F_coder_a1 F_value_a1 g_a1 V_a2 ne_a2_a1 hb0 hb1 hb2 hb3 zc S_cs hzc) hZ (ow hw 11 rfl) (ow hw 4 rfl) (by decide) (by decide)) (g := (mkF m 6 #[rv a1, rv a2] [.null, .int 4, .int 0, .ref a2, .ref a1])) rfl (by rw [hml]; rfl) (Steps.refl _) (a := a1) (argsL := [(.ref a2), (.int (0 : Int32)), (.int (4 : Int32)), .null]) (rest := []) (lenOf pd_3 rfl) rfl (by show 2 * 0 + _ ≤ _; exact Nat.le_of_eq rfl) (hb hby d1_6) (fun _ _ => ⟨rfl, e0, (by decide : 0 + 1 ≤ _), (by decide : 0 + 4 ≤ _)⟩)
  dsimp only [Pt.U, Pt.locs, Pt.cells, Pt.slots] at X2 lq2 yq2 zq2 st2 hQ2
  subst lq2 yq2 zq2
  obtain ⟨h2, e2⟩ : ∃ z, z = T2.heap := ⟨_, rfl⟩
  rw [← e2] at hQ2
  replace e2 := e2.symm
  obtain ⟨b2, kb2, rfl, Nq2, Kq2, hR2⟩ := hQ2
  have N := Fr.app N Nq2
  have E_a1 := E_a1.keep Kq2
  have V_a2 := V_a2.keep Kq2 (ninS ne_a2_a1 nin0)
  obtain ⟨E_a1, Fc2, Fv2, gb2, sb2, Vb2⟩ := hR2
  have O := O.keep Kq2 (allS g_a1 all0)
  have K := K.trans Kq2 (allS (Or.inl (List.mem_of_getElem? (i := 0) rfl)) all0)
  refine gb (fun _ k => st2.trans k) ?_
  show G T2 (mkF m 9 #[rv a1, rv a2] [])
  exact go X2 (v := none) (fun _ => rfl) (fun fs hr => X2.returnOut hx Bd.returns (hb hby d1_9) hr) (by rw [e2]; exact ⟨_, _, rfl, N, K, E_a1, Fc2, Fv2, gb2, sb2, Vb2⟩) (by decide) (by decide)
def Q_rmNL (Z : State) (h0 : Heap) (n0 : Nat) : Option Value → Heap → List Loc → Prop := fun v h L => v = some (.int (8 : Int32)) ∧ L = [] ∧ h = h0
set_option maxRecDepth 65536 in
set_option maxHeartbeats 40000000 in
theorem rmNL (l : Launch) (Z : State) (a0 : Array Value) (hw : ∀ d ∈ tables_1, d.before a0 Z = true) (ws : List Jvm.Cond) (h0 : Heap) (n0 : Nat) (O : Old Z n0 h0) :
    MetFree l (⟨"java/lang/StringUTF16", "newBytesLength", "(I)I"⟩ : MethodName) (head1 (Jvm.Cond.code (⟨"java/lang/StringUTF16", "newBytesLength", "(I)I"⟩ : MethodName) jdk_52_method_3_code 1 (some .int) :: ws) ({ frames := 0, cells := 0, slots := 0, locals := 0 } : Room)) (fun a U => a = #[(.int (4 : Int32))] ∧ Z.Warmed39 U.vm ∧ U.heap = h0) (fun _ _ _ _ _ => True) (fun _ U o U' => ∃ v L, o = .returned v ∧ (Q_rmNL Z h0 n0) v U'.heap L ∧ FrameEnd U o U' L ({ frames := 0, cells := 0, slots := 0, locals := 0 } : Room).cells ({ frames := 0, cells := 0, slots := 0, locals := 0 } : Room).slots) := by
  refine MetFree.of_bodySF (plainFor_of_name pn_0) hisR ?_
  intro p e s m args below meth c s₁ Bd hml0 hP hK
  obtain ⟨rfl, hZ, hh⟩ := hP
  have hx := Bd.exec
  have hby := Bd.bytes
  have hml : c.maxLocals = 1 := hml0
  have hown : s.vm.findClass "java/lang/StringUTF16" = some m.cls := findClass_of_methodNamed Bd.named
  have hnm := (name_of_methodNamed Bd.named Bd.method).1
  have hlk := BodyLoose.notSynchronized Bd
  have X0 : Stand p l e ({ frames := 0, cells := 0, slots := 0, locals := 0 } : Room) s m #[(.int (4 : Int32))] below meth c s₁ [] 0 0 := Stand.of_body Bd
  have e0 : s₁.heap = h0 := by rw [← hh, Bd.state]; rfl
  have N := Fr.nil n0
  obtain ⟨G, hG⟩ : ∃ G : State → JFrame → Prop, G = OwnG p e below s ({ frames := 0, cells := 0, slots := 0, locals := 0 } : Room).cells ({ frames := 0, cells := 0, slots := 0, locals := 0 } : Room).slots (Q_rmNL Z h0 n0) := ⟨_, rfl⟩
  have gb : ∀ {T T' : State} {g g' : JFrame}, (∀ t, Steps p.tables e below (T'.setTop g') t → Steps p.tables e below (T.setTop g) t) → G T' g' → G T g := by subst hG; exact fun k h => own_by k h
  have go : ∀ {T : State} {locs : List Loc} {cells slots : Nat} {g : JFrame} {v : Option Value}, Stand p l e ({ frames := 0, cells := 0, slots := 0, locals := 0 } : Room) s m #[(.int (4 : Int32))] below meth c T locs cells slots → (meth.sig.returnType = none → v = none) → (∀ fs, (∀ (f : JFrame) (acts : List Action), f.method = m → f.locked = none → f.entered = [] → (doReturn e (T.setTop f) acts v).1 = T.setFrames fs) → Steps p.tables e below (T.setTop g) (T.setFrames fs)) → (Q_rmNL Z h0 n0) v T.heap locs → cells ≤ ({ frames := 0, cells := 0, slots := 0, locals := 0 } : Room).cells → slots ≤ ({ frames := 0, cells := 0, slots := 0, locals := 0 } : Room).slots → G T g := by subst hG; exact fun X h1 h2 h3 h4 h5 => own_out X hlk h1 h2 h3 h4 h5
  show OwnG p e below s ({ frames := 0, cells := 0, slots := 0, locals := 0 } : Room).cells ({ frames := 0, cells := 0, slots := 0, locals := 0 } : Room).slots (Q_rmNL Z h0 n0) s₁ (entryFrame m #[(.int (4 : Int32))] 1)
  rw [← hG, ef_rmNL m (4 : Int32)]
  clear hG
  show G s₁ (mkF m 0 #[.val (.int (4 : Int32))] [])
  refine gb (fun _ k => XS.iloadN X0.here hx rfl (hb hby d10_0) rfl (XS.ifYes X0.here hx rfl (pc0 := 1) (pc' := 12) rfl (hb hby d10_1) rfl ((if0 _ _).trans (flt (by decide : ¬ ((4 : Int32) < (0 : Int32)))).2.1) (by decide) (by decide) (XS.iloadN X0.here hx rfl (hb hby d10_12) rfl k))) ?_
  show G s₁ (mkF m 13 #[iv 4] [.int 4])
  refine gb (X0.ldcInt hx hown (mvT hZ (ow hw 45 rfl)) (g := (mkF m 13 #[iv 4] [.int 4])) rfl (hb hby d10_13)) ?_
  show G s₁ (mkF m 15 #[iv 4] [.int 1073741823, .int 4])
  refine gb (fun _ k => XS.icmpYes X0.here hx rfl (pc0 := 15) (pc' := 55) rfl (hb hby d10_15) rfl (tlt (by decide : (4 : Int32) < (1073741823 : Int32))).1 (by decide) (by decide) (XS.iloadN X0.here hx rfl (hb hby d10_55) rfl (XS.iconst X0.here hx rfl (hb hby d10_56) (XS.ishl X0.here hx rfl (hb hby d10_57) rfl k)))) ?_
  show G s₁ (mkF m 58 #[iv 4] [.int 8])
  exact go X0 (v := (some (.int (8 : Int32)))) (fun h => by rw [Bd.returns] at h; cases h) (fun fs hr => retOut X0 hx Bd.returns rfl (Or.inl ⟨rfl, by simp, _, rfl⟩) (hb hby d10_58) hr) (⟨rfl, rfl, e0⟩) (by decide) (by decide)
def Q_rmNF (Z : State) (h0 : Heap) (n0 : Nat) : Option Value → Heap → List Loc → Prop := fun v h L => ∃ (b : Addr) (kb : ClassId), v = some (.ref b) ∧ Fr n0 L ∧ Keep h0 h [] ∧ n0 ≤ b ∧ h0.size ≤ b ∧ Arv Z h b kb .byte (8 : Int32) [(.int (0 : Int32)), (.int (0 : Int32)), (.int (0 : Int32)), (.int (0 : Int32)), (.int (0 : Int32)), (.int (0 : Int32)), (.int (0 : Int32)), (.int (0 : Int32))] (.int (0 : Int32))
set_option maxRecDepth 65536 in
set_option maxHeartbeats 40000000 in
theorem rmNF (l : Launch) (Z : State) (a0 : Array Value) (hw : ∀ d ∈ tables_1, d.before a0 Z = true) (ws : List Jvm.Cond) (h0 : Heap) (n0 : Nat) (O : Old Z n0 h0) :
    MetFree l (⟨"java/lang/StringUTF16", "newBytesFor", "(I)[B"⟩ : MethodName) (head1 (Jvm.Cond.code (⟨"java/lang/StringUTF16", "newBytesFor", "(I)[B"⟩ : MethodName) jdk_52_method_2_code 1 (some (.array .byte)) :: ws) ({ frames := 1, cells := 1, slots := 8, locals := 12 } : Room)) (fun a U => a = #[(.int (4 : Int32))] ∧ Z.Warmed39 U.vm ∧ U.heap = h0) (fun _ _ _ _ _ => True) (fun _ U o U' => ∃ v L, o = .returned v ∧ (Q_rmNF Z h0 n0) v U'.heap L ∧ FrameEnd U o U' L ({ frames := 1, cells := 1, slots := 8, locals := 12 } : Room).cells ({ frames := 1, cells := 1, slots := 8, locals := 12 } : Room).slots) := by
  refine MetFree.of_bodySF (plainFor_of_name pn_0) hisR ?_
  intro p e s m args below meth c s₁ Bd hml0 hP hK
  obtain ⟨rfl, hZ, hh⟩ := hP
  have hx := Bd.exec
  have hby := Bd.bytes
  have hml : c.maxLocals = 1 := hml0
  have hown : s.vm.findClass "java/lang/StringUTF16" = some m.cls := findClass_of_methodNamed Bd.named
  have hnm := (name_of_methodNamed Bd.named Bd.method).1
  have hlk := BodyLoose.notSynchronized Bd
  have X0 : Stand p l e ({ frames := 1, cells := 1, slots := 8, locals := 12 } : Room) s m #[(.int (4 : Int32))] below meth c s₁ [] 0 0 := Stand.of_body Bd
  have e0 : s₁.heap = h0 := by rw [← hh, Bd.state]; rfl
  have N := Fr.nil n0
  have K := Keep.refl h0 []
  obtain ⟨G, hG⟩ : ∃ G : State → JFrame → Prop, G = OwnG p e below s ({ frames := 1, cells := 1, slots := 8, locals := 12 } : Room).cells ({ frames := 1, cells := 1, slots := 8, locals := 12 } : Room).slots (Q_rmNF Z h0 n0) := ⟨_, rfl⟩
  have gb : ∀ {T T' : State} {g g' : JFrame}, (∀ t, Steps p.tables e below (T'.setTop g') t → Steps p.tables e below (T.setTop g) t) → G T' g' → G T g := by subst hG; exact fun k h => own_by k h
  have go : ∀ {T : State} {locs : List Loc} {cells slots : Nat} {g : JFrame} {v : Option Value}, Stand p l e ({ frames := 1, cells := 1, slots := 8, locals := 12 } : Room) s m #[(.int (4 : Int32))] below meth c T locs cells slots → (meth.sig.returnType = none → v = none) → (∀ fs, (∀ (f : JFrame) (acts : List Action), f.method = m → f.locked = none → f.entered = [] → (doReturn e (T.setTop f) acts v).1 = T.setFrames fs) → Steps p.tables e below (T.setTop g) (T.setFrames fs)) → (Q_rmNF Z h0 n0) v T.heap locs → cells ≤ ({ frames := 1, cells := 1, slots := 8, locals := 12 } : Room).cells → slots ≤ ({ frames := 1, cells := 1, slots := 8, locals := 12 } : Room).slots → G T g := by subst hG; exact fun X h1 h2 h3 h4 h5 => own_out X hlk h1 h2 h3 h4 h5
  show OwnG p e below s ({ frames := 1, cells := 1, slots := 8, locals := 12 } : Room).cells ({ frames := 1, cells := 1, slots := 8, locals := 12 } : Room).slots (Q_rmNF Z h0 n0) s₁ (entryFrame m #[(.int (4 : Int32))] 1)
  rw [← hG, ef_rmNF m (4 : Int32)]
  clear hG
  show G s₁ (mkF m 0 #[.val (.int (4 : Int32))] [])
  refine gb (fun _ k => XS.iloadN X0.here hx rfl (hb hby d9_0) rfl k) ?_
  show G s₁ (mkF m 1 #[iv 4] [.int 4])
  obtain ⟨_, _, ⟨T1, Lz1, kz1, nz1⟩, -, X1, ⟨Lc1, hQ1, lq1, yq1, zq1⟩, st1⟩ := Jvm.LawKit.callS X0 hx (y := (⟨"java/lang/StringUTF16", "newBytesLength", "(I)I"⟩ : MethodName)) hown (mvT hZ (ow hw 42 rfl)) (mvT hZ (ow hw 43 rfl)) (mvT hZ (ow hw 18 rfl)) (mvT hZ (ow hw 44 rfl)) (by decide) (backOf (W := 0) (rmNL l Z a0 hw [] h0 n0 O) hZ (ow hw 44 rfl) (ow hw 18 rfl) (by decide) (by decide)) (g := (mkF m 1 #[iv 4] [.int 4])) rfl (by rw [hml]; rfl) (argsL := [(.int (4 : Int32))]) (rest := []) (lenOf pd_4 rfl) rfl (by show 2 * 0 + _ ≤ _; exact Nat.le_of_eq rfl) (hb hby d9_1) (fun _ _ => ⟨rfl, e0, (by decide : 0 + 0 ≤ _), (by decide : 0 + 0 ≤ _)⟩)
  dsimp only [Pt.U, Pt.locs, Pt.cells, Pt.slots] at X1 lq1 yq1 zq1 st1 hQ1
  subst lq1 yq1 zq1
  obtain ⟨rfl, rfl, e1⟩ := hQ1
  try rw [List.append_nil] at X1
  refine gb st1 ?_
  show G T1 (mkF m 4 #[iv 4] [.int 8])
  obtain ⟨T2, h2, kA2, X2, e2, E2, A2, st2⟩ := newP X1 hx hZ (ow hw 20 rfl) e1 (g := (mkF m 4 #[iv 4] [.int 8])) rfl (hb hby d9_4) rfl (by decide) (cap := 8) (by decide) (by decide) (by decide) (by decide)
  obtain ⟨b2, g2⟩ : ∃ z, z = h0.size := ⟨_, rfl⟩
  rw [← g2] at A2 st2
  have g_b2 : n0 ≤ b2 := Nat.le_trans (by have := O.2.1; rw [O.1] at this; exact this) (Nat.le_of_eq g2.symm)
  have sz_b2 : h0.size ≤ b2 := Nat.le_trans K.1 (Nat.le_of_eq g2.symm)
  have O := O.ext E2
  have K := K.ext E2
  have V_b2 : Arv Z h2 b2 kA2 .byte (8 : Int32) [(.int (0 : Int32)), (.int (0 : Int32)), (.int (0 : Int32)), (.int (0 : Int32)), (.int (0 : Int32)), (.int (0 : Int32)), (.int (0 : Int32)), (.int (0 : Int32))] (.int (0 : Int32)) := (Arv.new A2 (by decide)).pad (pad_rep [] (.int (0 : Int32)) 8)
  refine gb st2 ?_
  show G T2 (mkF m 6 #[iv 4] [.ref b2])
  exact go X2 (v := (some (.ref b2))) (fun h => by rw [Bd.returns] at h; cases h) (fun fs hr => retOut X2 hx Bd.returns rfl (Or.inr (Or.inr (Or.inr (Or.inr ⟨rfl, rfl, rfl⟩)))) (hb hby d9_6) hr) (by rw [e2]; exact ⟨_, _, rfl, N, K, g_b2, sz_b2, V_b2⟩) (by decide) (by decide)
def Q_rmPU0 (Z : State) (a1 : Addr) (k1 : ClassId) (c0 : Int32) (h0 : Heap) (n0 : Nat) : Option Value → Heap → List Loc → Prop := fun v h L => v = none ∧ Fr n0 L ∧ Keep h0 h [a1] ∧ Arv Z h a1 k1 .byte (8 : Int32) [(.int (nar .byte ((c0 >>> ((0 : Int32) &&& 31)).toInt8.toInt32))), (.int (nar .byte ((c0 >>> ((8 : Int32) &&& 31)).toInt8.toInt32))), (.int (0 : Int32)), (.int (0 : Int32)), (.int (0 : Int32)), (.int (0 : Int32)), (.int (0 : Int32)), (.int (0 : Int32))] (.int (0 : Int32))
set_option maxRecDepth 65536 in
set_option maxHeartbeats 40000000 in
theorem rmPU0 (l : Launch) (Z : State) (a0 : Array Value) (hw : ∀ d ∈ tables_1, d.before a0 Z = true) (ws : List Jvm.Cond) (a1 : Addr) (k1 : ClassId) (c0 : Int32) (h0 : Heap) (n0 : Nat) (O : Old Z n0 h0) (S_ad : Sta Z Z.heap "java/lang/StringUTF16" "$assertionsDisabled" "Z" (.int (1 : Int32))) (S_hi : Sta Z Z.heap "java/lang/StringUTF16" "HI_BYTE_SHIFT" "I" (.int (0 : Int32))) (S_lo : Sta Z Z.heap "java/lang/StringUTF16" "LO_BYTE_SHIFT" "I" (.int (8 : Int32))) (V_a1 : Arv Z h0 a1 k1 .byte (8 : Int32) [(.int (0 : Int32)), (.int (0 : Int32)), (.int (0 : Int32)), (.int (0 : Int32)), (.int (0 : Int32)), (.int (0 : Int32)), (.int (0 : Int32)), (.int (0 : Int32))] (.int (0 : Int32))) (g_a1 : n0 ≤ a1) :
    MetFree l (⟨"java/lang/StringUTF16", "putChar", "([BII)V"⟩ : MethodName) (head1 (Jvm.Cond.code (⟨"java/lang/StringUTF16", "putChar", "([BII)V"⟩ : MethodName) jdk_52_method_4_code 3 none :: ws) ({ frames := 0, cells := 0, slots := 0, locals := 0 } : Room)) (fun a U => a = #[(.ref a1), (.int (0 : Int32)), (.int c0)] ∧ Z.Warmed39 U.vm ∧ U.heap = h0) (fun _ _ _ _ _ => True) (fun _ U o U' => ∃ v L, o = .returned v ∧ (Q_rmPU0 Z a1 k1 c0 h0 n0) v U'.heap L ∧ FrameEnd U o U' L ({ frames := 0, cells := 0, slots := 0, locals := 0 } : Room).cells ({ frames := 0, cells := 0, slots := 0, locals := 0 } : Room).slots) := by
  refine MetFree.of_bodySF (plainFor_of_name pn_0) hisR ?_
  intro p e s m args below meth c s₁ Bd hml0 hP hK
  obtain ⟨rfl, hZ, hh⟩ := hP
  have hx := Bd.exec
  have hby := Bd.bytes
  have hml : c.maxLocals = 3 := hml0
  have hown : s.vm.findClass "java/lang/StringUTF16" = some m.cls := findClass_of_methodNamed Bd.named
  have hnm := (name_of_methodNamed Bd.named Bd.method).1
  have hlk := BodyLoose.notSynchronized Bd
  have X0 : Stand p l e ({ frames := 0, cells := 0, slots := 0, locals := 0 } : Room) s m #[(.ref a1), (.int (0 : Int32)), (.int c0)] below meth c s₁ [] 0 0 := Stand.of_body Bd
  have e0 : s₁.heap = h0 := by rw [← hh, Bd.state]; rfl
  have N := Fr.nil n0
  have K := Keep.refl h0 [a1]
  obtain ⟨G, hG⟩ : ∃ G : State → JFrame → Prop, G = OwnG p e below s ({ frames := 0, cells := 0, slots := 0, locals := 0 } : Room).cells ({ frames := 0, cells := 0, slots := 0, locals := 0 } : Room).slots (Q_rmPU0 Z a1 k1 c0 h0 n0) := ⟨_, rfl⟩
  have gb : ∀ {T T' : State} {g g' : JFrame}, (∀ t, Steps p.tables e below (T'.setTop g') t → Steps p.tables e below (T.setTop g) t) → G T' g' → G T g := by subst hG; exact fun k h => own_by k h
  have go : ∀ {T : State} {locs : List Loc} {cells slots : Nat} {g : JFrame} {v : Option Value}, Stand p l e ({ frames := 0, cells := 0, slots := 0, locals := 0 } : Room) s m #[(.ref a1), (.int (0 : Int32)), (.int c0)] below meth c T locs cells slots → (meth.sig.returnType = none → v = none) → (∀ fs, (∀ (f : JFrame) (acts : List Action), f.method = m → f.locked = none → f.entered = [] → (doReturn e (T.setTop f) acts v).1 = T.setFrames fs) → Steps p.tables e below (T.setTop g) (T.setFrames fs)) → (Q_rmPU0 Z a1 k1 c0 h0 n0) v T.heap locs → cells ≤ ({ frames := 0, cells := 0, slots := 0, locals := 0 } : Room).cells → slots ≤ ({ frames := 0, cells := 0, slots := 0, locals := 0 } : Room).slots → G T g := by subst hG; exact fun X h1 h2 h3 h4 h5 => own_out X hlk h1 h2 h3 h4 h5
  show OwnG p e below s ({ frames := 0, cells := 0, slots := 0, locals := 0 } : Room).cells ({ frames := 0, cells := 0, slots := 0, locals := 0 } : Room).slots (Q_rmPU0 Z a1 k1 c0 h0 n0) s₁ (entryFrame m #[(.ref a1), (.int (0 : Int32)), (.int c0)] 3)
  rw [← hG, ef_rmPU0 m a1 (0 : Int32) c0]
  clear hG
  show G s₁ (mkF m 0 #[.val (.ref a1), .val (.int (0 : Int32)), .val (.int c0)] [])
  obtain ⟨T1, X1, e1, st1⟩ := getS2 X0 hx hZ hown (host := "") (Or.inl (ow hw 49 rfl)) Via.refl e0 (S_ad.ext O.2) (g := (mkF m 0 #[rv a1, iv 0, iv c0] [])) rfl (hb hby d11_0)
  refine gb st1 ?_
  show G T1 (mkF m 3 #[rv a1, iv 0, iv c0] [.int 1])
  refine gb (fun _ k => XS.ifYes X1.here hx rfl (pc0 := 3) (pc' := 28) rfl (hb hby d11_3) rfl ((if0 _ _).trans (feq (by decide : ¬ ((1 : Int32) = (0 : Int32)))).2) (by decide) (by decide) (XS.iloadN X1.here hx rfl (hb hby d11_28) rfl (XS.iconst X1.here hx rfl (hb hby d11_29) (XS.ishl X1.here hx rfl (hb hby d11_30) rfl (XS.istoreN X1.here hx rfl (hb hby d11_31) rfl (l' := #[rv a1, iv 0, iv c0]) rfl (XS.aloadN X1.here hx rfl (hb hby d11_32) rfl rfl k)))))) ?_
  show G T1 (mkF m 33 #[rv a1, iv 0, iv c0] [.ref a1])
  refine gb (fun _ k => XS.iloadN X1.here hx rfl (hb hby d11_33) rfl (XS.iinc X1.here hx rfl (hb hby d11_34) rfl (l' := #[rv a1, iv 1, iv c0]) rfl (XS.iloadN X1.here hx rfl (hb hby d11_37) rfl k))) ?_
  show G T1 (mkF m 38 #[rv a1, iv 1, iv c0] [.int c0, .int 0, .ref a1])
  obtain ⟨T2, X2, e2, st2⟩ := getS2 X1 hx hZ hown (host := "") (Or.inl (ow hw 50 rfl)) Via.refl e1 (S_hi.ext O.2) (g := (mkF m 38 #[rv a1, iv 1, iv c0] [.int c0, .int 0, .ref a1])) rfl (hb hby d11_38)
  refine gb st2 ?_
  show G T2 (mkF m 41 #[rv a1, iv 1, iv c0] [.int 0, .int c0, .int 0, .ref a1])
  refine gb (fun _ k => XS.ishr X2.here hx rfl (hb hby d11_41) rfl (XS.i2b X2.here hx rfl (hb hby d11_42) rfl k)) ?_
  show G T2 (mkF m 43 #[rv a1, iv 1, iv c0] [.int ((c0 >>> ((0 : Int32) &&& 31)).toInt8.toInt32), .int 0, .ref a1])
  have V'3 := V_a1
  obtain ⟨cl3, Ar3, qk3, sz3, nn3, hs3, ft3⟩ := V'3
  have hin3 : ¬ ((0 : Int32) < 0 ∨ cl3.slots.size ≤ ((0 : Int32)).toNatClampNeg) := inb_of sz3 ⟨by decide, by decide⟩
  obtain ⟨T4, h4, X4, e4, W4, st4⟩ := stB X2 hx hZ e2 Ar3 (j := (0 : Int32)) hin3 (g := (mkF m 43 #[rv a1, iv 1, iv c0] [.int ((c0 >>> ((0 : Int32) &&& 31)).toInt8.toInt32), .int 0, .ref a1])) rfl rfl (hb hby d11_43)
  have V_a1 : Arv Z h4 a1 k1 .byte (8 : Int32) [(.int (nar .byte ((c0 >>> ((0 : Int32) &&& 31)).toInt8.toInt32))), (.int (0 : Int32)), (.int (0 : Int32)), (.int (0 : Int32)), (.int (0 : Int32)), (.int (0 : Int32)), (.int (0 : Int32)), (.int (0 : Int32))] (.int (0 : Int32)) := Arv.set Ar3 qk3 sz3 nn3 hs3 ft3 (fits_nar_byte _) W4 0 rfl (Nat.le_of_ble_eq_true rfl)
  have O := O.wr W4 g_a1
  have K := K.wr W4 (Or.inl (List.mem_of_getElem? (i := 0) rfl))
  have N := Fr.snoc X4 N g_a1
  refine gb st4 ?_
  show G T4 (mkF m 44 #[rv a1, iv 1, iv c0] [])
  refine gb (fun _ k => XS.aloadN X4.here hx rfl (hb hby d11_44) rfl rfl (XS.iloadN X4.here hx rfl (hb hby d11_45) rfl (XS.iloadN X4.here hx rfl (hb hby d11_46) rfl k))) ?_
  show G T4 (mkF m 47 #[rv a1, iv 1, iv c0] [.int c0, .int 1, .ref a1])
  obtain ⟨T5, X5, e5, st5⟩ := getS2 X4 hx hZ hown (host := "") (Or.inl (ow hw 51 rfl)) Via.refl e4 (S_lo.ext O.2) (g := (mkF m 47 #[rv a1, iv 1, iv c0] [.int c0, .int 1, .ref a1])) rfl (hb hby d11_47)
  refine gb st5 ?_
  show G T5 (mkF m 50 #[rv a1, iv 1, iv c0] [.int 8, .int c0, .int 1, .ref a1])
  refine gb (fun _ k => XS.ishr X5.here hx rfl (hb hby d11_50) rfl (XS.i2b X5.here hx rfl (hb hby d11_51) rfl k)) ?_
  show G T5 (mkF m 52 #[rv a1, iv 1, iv c0] [.int ((c0 >>> ((8 : Int32) &&& 31)).toInt8.toInt32), .int 1, .ref a1])
  have V'6 := V_a1
  obtain ⟨cl6, Ar6, qk6, sz6, nn6, hs6, ft6⟩ := V'6
  have hin6 : ¬ ((1 : Int32) < 0 ∨ cl6.slots.size ≤ ((1 : Int32)).toNatClampNeg) := inb_of sz6 ⟨by decide, by decide⟩
  obtain ⟨T7, h7, X7, e7, W7, st7⟩ := stB X5 hx hZ e5 Ar6 (j := (1 : Int32)) hin6 (g := (mkF m 52 #[rv a1, iv 1, iv c0] [.int ((c0 >>> ((8 : Int32) &&& 31)).toInt8.toInt32), .int 1, .ref a1])) rfl rfl (hb hby d11_52)
  have V_a1 : Arv Z h7 a1 k1 .byte (8 : Int32) [(.int (nar .byte ((c0 >>> ((0 : Int32) &&& 31)).toInt8.toInt32))), (.int (nar .byte ((c0 >>> ((8 : Int32) &&& 31)).toInt8.toInt32))), (.int (0 : Int32)), (.int (0 : Int32)), (.int (0 : Int32)), (.int (0 : Int32)), (.int (0 : Int32)), (.int (0 : Int32))] (.int (0 : Int32)) := Arv.set Ar6 qk6 sz6 nn6 hs6 ft6 (fits_nar_byte _) W7 1 rfl (Nat.le_of_ble_eq_true rfl)
  have O := O.wr W7 g_a1
  have K := K.wr W7 (Or.inl (List.mem_of_getElem? (i := 0) rfl))
  have N := Fr.snoc X7 N g_a1
  refine gb st7 ?_
  show G T7 (mkF m 53 #[rv a1, iv 1, iv c0] [])
  exact go X7 (v := none) (fun _ => rfl) (fun fs hr => X7.returnOut hx Bd.returns (hb hby d11_53) hr) (by rw [e7]; exact ⟨rfl, N, K, V_a1⟩) (by decide) (by decide)
def Q_rmPU1 (Z : State) (a1 : Addr) (k1 : ClassId) (c0 c1 : Int32) (h0 : Heap) (n0 : Nat) : Option Value → Heap → List Loc → Prop := fun v h L => v = none ∧ Fr n0 L ∧ Keep h0 h [a1] ∧ Arv Z h a1 k1 .byte (8 : Int32) [(.int (nar .byte ((c0 >>> ((0 : Int32) &&& 31)).toInt8.toInt32))), (.int (nar .byte ((c0 >>> ((8 : Int32) &&& 31)).toInt8.toInt32))), (.int (nar .byte ((c1 >>> ((0 : Int32) &&& 31)).toInt8.toInt32))), (.int (nar .byte ((c1 >>> ((8 : Int32) &&& 31)).toInt8.toInt32))), (.int (0 : Int32)), (.int (0 : Int32)), (.int (0 : Int32)), (.int (0 : Int32))] (.int (0 : Int32))
set_option maxRecDepth 65536 in
set_option maxHeartbeats 40000000 in
theorem rmPU1 (l : Launch) (Z : State) (a0 : Array Value) (hw : ∀ d ∈ tables_1, d.before a0 Z = true) (ws : List Jvm.Cond) (a1 : Addr) (k1 : ClassId) (c0 c1 : Int32) (h0 : Heap) (n0 : Nat) (O : Old Z n0 h0) (S_ad : Sta Z Z.heap "java/lang/StringUTF16" "$assertionsDisabled" "Z" (.int (1 : Int32))) (S_hi : Sta Z Z.heap "java/lang/StringUTF16" "HI_BYTE_SHIFT" "I" (.int (0 : Int32))) (S_lo : Sta Z Z.heap "java/lang/StringUTF16" "LO_BYTE_SHIFT" "I" (.int (8 : Int32))) (V_a1 : Arv Z h0 a1 k1 .byte (8 : Int32) [(.int (nar .byte ((c0 >>> ((0 : Int32) &&& 31)).toInt8.toInt32))), (.int (nar .byte ((c0 >>> ((8 : Int32) &&& 31)).toInt8.toInt32))), (.int (0 : Int32)), (.int (0 : Int32)), (.int (0 : Int32)), (.int (0 : Int32)), (.int (0 : Int32)), (.int (0 : Int32))] (.int (0 : Int32))) (g_a1 : n0 ≤ a1) :
    MetFree l (⟨"java/lang/StringUTF16", "putChar", "([BII)V"⟩ : MethodName) (head1 (Jvm.Cond.code (⟨"java/lang/StringUTF16", "putChar", "([BII)V"⟩ : MethodName) jdk_52_method_4_code 3 none :: ws) ({ frames := 0, cells := 0, slots := 0, locals := 0 } : Room)) (fun a U => a = #[(.ref a1), (.int (1 : Int32)), (.int c1)] ∧ Z.Warmed39 U.vm ∧ U.heap = h0) (fun _ _ _ _ _ => True) (fun _ U o U' => ∃ v L, o = .returned v ∧ (Q_rmPU1 Z a1 k1 c0 c1 h0 n0) v U'.heap L ∧ FrameEnd U o U' L ({ frames := 0, cells := 0, slots := 0, locals := 0 } : Room).cells ({ frames := 0, cells := 0, slots := 0, locals := 0 } : Room).slots) := by
  refine MetFree.of_bodySF (plainFor_of_name pn_0) hisR ?_
  intro p e s m args below meth c s₁ Bd hml0 hP hK
  obtain ⟨rfl, hZ, hh⟩ := hP
  have hx := Bd.exec
  have hby := Bd.bytes
  have hml : c.maxLocals = 3 := hml0
  have hown : s.vm.findClass "java/lang/StringUTF16" = some m.cls := findClass_of_methodNamed Bd.named
  have hnm := (name_of_methodNamed Bd.named Bd.method).1
  have hlk := BodyLoose.notSynchronized Bd
  have X0 : Stand p l e ({ frames := 0, cells := 0, slots := 0, locals := 0 } : Room) s m #[(.ref a1), (.int (1 : Int32)), (.int c1)] below meth c s₁ [] 0 0 := Stand.of_body Bd
  have e0 : s₁.heap = h0 := by rw [← hh, Bd.state]; rfl
  have N := Fr.nil n0
  have K := Keep.refl h0 [a1]
  obtain ⟨G, hG⟩ : ∃ G : State → JFrame → Prop, G = OwnG p e below s ({ frames := 0, cells := 0, slots := 0, locals := 0 } : Room).cells ({ frames := 0, cells := 0, slots := 0, locals := 0 } : Room).slots (Q_rmPU1 Z a1 k1 c0 c1 h0 n0) := ⟨_, rfl⟩
  have gb : ∀ {T T' : State} {g g' : JFrame}, (∀ t, Steps p.tables e below (T'.setTop g') t → Steps p.tables e below (T.setTop g) t) → G T' g' → G T g := by subst hG; exact fun k h => own_by k h
  have go : ∀ {T : State} {locs : List Loc} {cells slots : Nat} {g : JFrame} {v : Option Value}, Stand p l e ({ frames := 0, cells := 0, slots := 0, locals := 0 } : Room) s m #[(.ref a1), (.int (1 : Int32)), (.int c1)] below meth c T locs cells slots → (meth.sig.returnType = none → v = none) → (∀ fs, (∀ (f : JFrame) (acts : List Action), f.method = m → f.locked = none → f.entered = [] → (doReturn e (T.setTop f) acts v).1 = T.setFrames fs) → Steps p.tables e below (T.setTop g) (T.setFrames fs)) → (Q_rmPU1 Z a1 k1 c0 c1 h0 n0) v T.heap locs → cells ≤ ({ frames := 0, cells := 0, slots := 0, locals := 0 } : Room).cells → slots ≤ ({ frames := 0, cells := 0, slots := 0, locals := 0 } : Room).slots → G T g := by subst hG; exact fun X h1 h2 h3 h4 h5 => own_out X hlk h1 h2 h3 h4 h5
  show OwnG p e below s ({ frames := 0, cells := 0, slots := 0, locals := 0 } : Room).cells ({ frames := 0, cells := 0, slots := 0, locals := 0 } : Room).slots (Q_rmPU1 Z a1 k1 c0 c1 h0 n0) s₁ (entryFrame m #[(.ref a1), (.int (1 : Int32)), (.int c1)] 3)
  rw [← hG, ef_rmPU1 m a1 (1 : Int32) c1]
  clear hG
  show G s₁ (mkF m 0 #[.val (.ref a1), .val (.int (1 : Int32)), .val (.int c1)] [])
  obtain ⟨T1, X1, e1, st1⟩ := getS2 X0 hx hZ hown (host := "") (Or.inl (ow hw 49 rfl)) Via.refl e0 (S_ad.ext O.2) (g := (mkF m 0 #[rv a1, iv 1, iv c1] [])) rfl (hb hby d11_0)
  refine gb st1 ?_
  show G T1 (mkF m 3 #[rv a1, iv 1, iv c1] [.int 1])
  refine gb (fun _ k => XS.ifYes X1.here hx rfl (pc0 := 3) (pc' := 28) rfl (hb hby d11_3) rfl ((if0 _ _).trans (feq (by decide : ¬ ((1 : Int32) = (0 : Int32)))).2) (by decide) (by decide) (XS.iloadN X1.here hx rfl (hb hby d11_28) rfl (XS.iconst X1.here hx rfl (hb hby d11_29) (XS.ishl X1.here hx rfl (hb hby d11_30) rfl (XS.istoreN X1.here hx rfl (hb hby d11_31) rfl (l' := #[rv a1, iv 2, iv c1]) rfl (XS.aloadN X1.here hx rfl (hb hby d11_32) rfl rfl k)))))) ?_
  show G T1 (mkF m 33 #[rv a1, iv 2, iv c1] [.ref a1])
  refine gb (fun _ k => XS.iloadN X1.here hx rfl (hb hby d11_33) rfl (XS.iinc X1.here hx rfl (hb hby d11_34) rfl (l' := #[rv a1, iv 3, iv c1]) rfl (XS.iloadN X1.here hx rfl (hb hby d11_37) rfl k))) ?_
  show G T1 (mkF m 38 #[rv a1, iv 3, iv c1] [.int c1, .int 2, .ref a1])
  obtain ⟨T2, X2, e2, st2⟩ := getS2 X1 hx hZ hown (host := "") (Or.inl (ow hw 50 rfl)) Via.refl e1 (S_hi.ext O.2) (g := (mkF m 38 #[rv a1, iv 3, iv c1] [.int c1, .int 2, .ref a1])) rfl (hb hby d11_38)
  refine gb st2 ?_
  show G T2 (mkF m 41 #[rv a1, iv 3, iv c1] [.int 0, .int c1, .int 2, .ref a1])
  refine gb (fun _ k => XS.ishr X2.here hx rfl (hb hby d11_41) rfl (XS.i2b X2.here hx rfl (hb hby d11_42) rfl k)) ?_
  show G T2 (mkF m 43 #[rv a1, iv 3, iv c1] [.int ((c1 >>> ((0 : Int32) &&& 31)).toInt8.toInt32), .int 2, .ref a1])
  have V'3 := V_a1
  obtain ⟨cl3, Ar3, qk3, sz3, nn3, hs3, ft3⟩ := V'3
  have hin3 : ¬ ((2 : Int32) < 0 ∨ cl3.slots.size ≤ ((2 : Int32)).toNatClampNeg) := inb_of sz3 ⟨by decide, by decide⟩
  obtain ⟨T4, h4, X4, e4, W4, st4⟩ := stB X2 hx hZ e2 Ar3 (j := (2 : Int32)) hin3 (g := (mkF m 43 #[rv a1, iv 3, iv c1] [.int ((c1 >>> ((0 : Int32) &&& 31)).toInt8.toInt32), .int 2, .ref a1])) rfl rfl (hb hby d11_43)
  have V_a1 : Arv Z h4 a1 k1 .byte (8 : Int32) [(.int (nar .byte ((c0 >>> ((0 : Int32) &&& 31)).toInt8.toInt32))), (.int (nar .byte ((c0 >>> ((8 : Int32) &&& 31)).toInt8.toInt32))), (.int (nar .byte ((c1 >>> ((0 : Int32) &&& 31)).toInt8.toInt32))), (.int (0 : Int32)), (.int (0 : Int32)), (.int (0 : Int32)), (.int (0 : Int32)), (.int (0 : Int32))] (.int (0 : Int32)) := Arv.set Ar3 qk3 sz3 nn3 hs3 ft3 (fits_nar_byte _) W4 2 rfl (Nat.le_of_ble_eq_true rfl)
  have O := O.wr W4 g_a1
  have K := K.wr W4 (Or.inl (List.mem_of_getElem? (i := 0) rfl))
  have N := Fr.snoc X4 N g_a1
  refine gb st4 ?_
  show G T4 (mkF m 44 #[rv a1, iv 3, iv c1] [])
  refine gb (fun _ k => XS.aloadN X4.here hx rfl (hb hby d11_44) rfl rfl (XS.iloadN X4.here hx rfl (hb hby d11_45) rfl (XS.iloadN X4.here hx rfl (hb hby d11_46) rfl k))) ?_
  show G T4 (mkF m 47 #[rv a1, iv 3, iv c1] [.int c1, .int 3, .ref a1])
  obtain ⟨T5, X5, e5, st5⟩ := getS2 X4 hx hZ hown (host := "") (Or.inl (ow hw 51 rfl)) Via.refl e4 (S_lo.ext O.2) (g := (mkF m 47 #[rv a1, iv 3, iv c1] [.int c1, .int 3, .ref a1])) rfl (hb hby d11_47)
  refine gb st5 ?_
  show G T5 (mkF m 50 #[rv a1, iv 3, iv c1] [.int 8, .int c1, .int 3, .ref a1])
  refine gb (fun _ k => XS.ishr X5.here hx rfl (hb hby d11_50) rfl (XS.i2b X5.here hx rfl (hb hby d11_51) rfl k)) ?_
  show G T5 (mkF m 52 #[rv a1, iv 3, iv c1] [.int ((c1 >>> ((8 : Int32) &&& 31)).toInt8.toInt32), .int 3, .ref a1])
  have V'6 := V_a1
  obtain ⟨cl6, Ar6, qk6, sz6, nn6, hs6, ft6⟩ := V'6
  have hin6 : ¬ ((3 : Int32) < 0 ∨ cl6.slots.size ≤ ((3 : Int32)).toNatClampNeg) := inb_of sz6 ⟨by decide, by decide⟩
  obtain ⟨T7, h7, X7, e7, W7, st7⟩ := stB X5 hx hZ e5 Ar6 (j := (3 : Int32)) hin6 (g := (mkF m 52 #[rv a1, iv 3, iv c1] [.int ((c1 >>> ((8 : Int32) &&& 31)).toInt8.toInt32), .int 3, .ref a1])) rfl rfl (hb hby d11_52)
  have V_a1 : Arv Z h7 a1 k1 .byte (8 : Int32) [(.int (nar .byte ((c0 >>> ((0 : Int32) &&& 31)).toInt8.toInt32))), (.int (nar .byte ((c0 >>> ((8 : Int32) &&& 31)).toInt8.toInt32))), (.int (nar .byte ((c1 >>> ((0 : Int32) &&& 31)).toInt8.toInt32))), (.int (nar .byte ((c1 >>> ((8 : Int32) &&& 31)).toInt8.toInt32))), (.int (0 : Int32)), (.int (0 : Int32)), (.int (0 : Int32)), (.int (0 : Int32))] (.int (0 : Int32)) := Arv.set Ar6 qk6 sz6 nn6 hs6 ft6 (fits_nar_byte _) W7 3 rfl (Nat.le_of_ble_eq_true rfl)
  have O := O.wr W7 g_a1
  have K := K.wr W7 (Or.inl (List.mem_of_getElem? (i := 0) rfl))
  have N := Fr.snoc X7 N g_a1
  refine gb st7 ?_
  show G T7 (mkF m 53 #[rv a1, iv 3, iv c1] [])
  exact go X7 (v := none) (fun _ => rfl) (fun fs hr => X7.returnOut hx Bd.returns (hb hby d11_53) hr) (by rw [e7]; exact ⟨rfl, N, K, V_a1⟩) (by decide) (by decide)
def Q_rmPU2 (Z : State) (a1 : Addr) (k1 : ClassId) (c0 c1 c2 : Int32) (h0 : Heap) (n0 : Nat) : Option Value → Heap → List Loc → Prop := fun v h L => v = none ∧ Fr n0 L ∧ Keep h0 h [a1] ∧ Arv Z h a1 k1 .byte (8 : Int32) [(.int (nar .byte ((c0 >>> ((0 : Int32) &&& 31)).toInt8.toInt32))), (.int (nar .byte ((c0 >>> ((8 : Int32) &&& 31)).toInt8.toInt32))), (.int (nar .byte ((c1 >>> ((0 : Int32) &&& 31)).toInt8.toInt32))), (.int (nar .byte ((c1 >>> ((8 : Int32) &&& 31)).toInt8.toInt32))), (.int (nar .byte ((c2 >>> ((0 : Int32) &&& 31)).toInt8.toInt32))), (.int (nar .byte ((c2 >>> ((8 : Int32) &&& 31)).toInt8.toInt32))), (.int (0 : Int32)), (.int (0 : Int32))] (.int (0 : Int32))
set_option maxRecDepth 65536 in
set_option maxHeartbeats 40000000 in
theorem rmPU2 (l : Launch) (Z : State) (a0 : Array Value) (hw : ∀ d ∈ tables_1, d.before a0 Z = true) (ws : List Jvm.Cond) (a1 : Addr) (k1 : ClassId) (c0 c1 c2 : Int32) (h0 : Heap) (n0 : Nat) (O : Old Z n0 h0) (S_ad : Sta Z Z.heap "java/lang/StringUTF16" "$assertionsDisabled" "Z" (.int (1 : Int32))) (S_hi : Sta Z Z.heap "java/lang/StringUTF16" "HI_BYTE_SHIFT" "I" (.int (0 : Int32))) (S_lo : Sta Z Z.heap "java/lang/StringUTF16" "LO_BYTE_SHIFT" "I" (.int (8 : Int32))) (V_a1 : Arv Z h0 a1 k1 .byte (8 : Int32) [(.int (nar .byte ((c0 >>> ((0 : Int32) &&& 31)).toInt8.toInt32))), (.int (nar .byte ((c0 >>> ((8 : Int32) &&& 31)).toInt8.toInt32))), (.int (nar .byte ((c1 >>> ((0 : Int32) &&& 31)).toInt8.toInt32))), (.int (nar .byte ((c1 >>> ((8 : Int32) &&& 31)).toInt8.toInt32))), (.int (0 : Int32)), (.int (0 : Int32)), (.int (0 : Int32)), (.int (0 : Int32))] (.int (0 : Int32))) (g_a1 : n0 ≤ a1) :
    MetFree l (⟨"java/lang/StringUTF16", "putChar", "([BII)V"⟩ : MethodName) (head1 (Jvm.Cond.code (⟨"java/lang/StringUTF16", "putChar", "([BII)V"⟩ : MethodName) jdk_52_method_4_code 3 none :: ws) ({ frames := 0, cells := 0, slots := 0, locals := 0 } : Room)) (fun a U => a = #[(.ref a1), (.int (2 : Int32)), (.int c2)] ∧ Z.Warmed39 U.vm ∧ U.heap = h0) (fun _ _ _ _ _ => True) (fun _ U o U' => ∃ v L, o = .returned v ∧ (Q_rmPU2 Z a1 k1 c0 c1 c2 h0 n0) v U'.heap L ∧ FrameEnd U o U' L ({ frames := 0, cells := 0, slots := 0, locals := 0 } : Room).cells ({ frames := 0, cells := 0, slots := 0, locals := 0 } : Room).slots) := by
  refine MetFree.of_bodySF (plainFor_of_name pn_0) hisR ?_
  intro p e s m args below meth c s₁ Bd hml0 hP hK
  obtain ⟨rfl, hZ, hh⟩ := hP
  have hx := Bd.exec
  have hby := Bd.bytes
  have hml : c.maxLocals = 3 := hml0
  have hown : s.vm.findClass "java/lang/StringUTF16" = some m.cls := findClass_of_methodNamed Bd.named
  have hnm := (name_of_methodNamed Bd.named Bd.method).1
  have hlk := BodyLoose.notSynchronized Bd
  have X0 : Stand p l e ({ frames := 0, cells := 0, slots := 0, locals := 0 } : Room) s m #[(.ref a1), (.int (2 : Int32)), (.int c2)] below meth c s₁ [] 0 0 := Stand.of_body Bd
  have e0 : s₁.heap = h0 := by rw [← hh, Bd.state]; rfl
  have N := Fr.nil n0
  have K := Keep.refl h0 [a1]
  obtain ⟨G, hG⟩ : ∃ G : State → JFrame → Prop, G = OwnG p e below s ({ frames := 0, cells := 0, slots := 0, locals := 0 } : Room).cells ({ frames := 0, cells := 0, slots := 0, locals := 0 } : Room).slots (Q_rmPU2 Z a1 k1 c0 c1 c2 h0 n0) := ⟨_, rfl⟩
  have gb : ∀ {T T' : State} {g g' : JFrame}, (∀ t, Steps p.tables e below (T'.setTop g') t → Steps p.tables e below (T.setTop g) t) → G T' g' → G T g := by subst hG; exact fun k h => own_by k h
  have go : ∀ {T : State} {locs : List Loc} {cells slots : Nat} {g : JFrame} {v : Option Value}, Stand p l e ({ frames := 0, cells := 0, slots := 0, locals := 0 } : Room) s m #[(.ref a1), (.int (2 : Int32)), (.int c2)] below meth c T locs cells slots → (meth.sig.returnType = none → v = none) → (∀ fs, (∀ (f : JFrame) (acts : List Action), f.method = m → f.locked = none → f.entered = [] → (doReturn e (T.setTop f) acts v).1 = T.setFrames fs) → Steps p.tables e below (T.setTop g) (T.setFrames fs)) → (Q_rmPU2 Z a1 k1 c0 c1 c2 h0 n0) v T.heap locs → cells ≤ ({ frames := 0, cells := 0, slots := 0, locals := 0 } : Room).cells → slots ≤ ({ frames := 0, cells := 0, slots := 0, locals := 0 } : Room).slots → G T g := by subst hG; exact fun X h1 h2 h3 h4 h5 => own_out X hlk h1 h2 h3 h4 h5
  show OwnG p e below s ({ frames := 0, cells := 0, slots := 0, locals := 0 } : Room).cells ({ frames := 0, cells := 0, slots := 0, locals := 0 } : Room).slots (Q_rmPU2 Z a1 k1 c0 c1 c2 h0 n0) s₁ (entryFrame m #[(.ref a1), (.int (2 : Int32)), (.int c2)] 3)
  rw [← hG, ef_rmPU2 m a1 (2 : Int32) c2]
  clear hG
  show G s₁ (mkF m 0 #[.val (.ref a1), .val (.int (2 : Int32)), .val (.int c2)] [])
  obtain ⟨T1, X1, e1, st1⟩ := getS2 X0 hx hZ hown (host := "") (Or.inl (ow hw 49 rfl)) Via.refl e0 (S_ad.ext O.2) (g := (mkF m 0 #[rv a1, iv 2, iv c2] [])) rfl (hb hby d11_0)
  refine gb st1 ?_
  show G T1 (mkF m 3 #[rv a1, iv 2, iv c2] [.int 1])
  refine gb (fun _ k => XS.ifYes X1.here hx rfl (pc0 := 3) (pc' := 28) rfl (hb hby d11_3) rfl ((if0 _ _).trans (feq (by decide : ¬ ((1 : Int32) = (0 : Int32)))).2) (by decide) (by decide) (XS.iloadN X1.here hx rfl (hb hby d11_28) rfl (XS.iconst X1.here hx rfl (hb hby d11_29) (XS.ishl X1.here hx rfl (hb hby d11_30) rfl (XS.istoreN X1.here hx rfl (hb hby d11_31) rfl (l' := #[rv a1, iv 4, iv c2]) rfl (XS.aloadN X1.here hx rfl (hb hby d11_32) rfl rfl k)))))) ?_
  show G T1 (mkF m 33 #[rv a1, iv 4, iv c2] [.ref a1])
  refine gb (fun _ k => XS.iloadN X1.here hx rfl (hb hby d11_33) rfl (XS.iinc X1.here hx rfl (hb hby d11_34) rfl (l' := #[rv a1, iv 5, iv c2]) rfl (XS.iloadN X1.here hx rfl (hb hby d11_37) rfl k))) ?_
  show G T1 (mkF m 38 #[rv a1, iv 5, iv c2] [.int c2, .int 4, .ref a1])
  obtain ⟨T2, X2, e2, st2⟩ := getS2 X1 hx hZ hown (host := "") (Or.inl (ow hw 50 rfl)) Via.refl e1 (S_hi.ext O.2) (g := (mkF m 38 #[rv a1, iv 5, iv c2] [.int c2, .int 4, .ref a1])) rfl (hb hby d11_38)
  refine gb st2 ?_
  show G T2 (mkF m 41 #[rv a1, iv 5, iv c2] [.int 0, .int c2, .int 4, .ref a1])
  refine gb (fun _ k => XS.ishr X2.here hx rfl (hb hby d11_41) rfl (XS.i2b X2.here hx rfl (hb hby d11_42) rfl k)) ?_
  show G T2 (mkF m 43 #[rv a1, iv 5, iv c2] [.int ((c2 >>> ((0 : Int32) &&& 31)).toInt8.toInt32), .int 4, .ref a1])
  have V'3 := V_a1
  obtain ⟨cl3, Ar3, qk3, sz3, nn3, hs3, ft3⟩ := V'3
  have hin3 : ¬ ((4 : Int32) < 0 ∨ cl3.slots.size ≤ ((4 : Int32)).toNatClampNeg) := inb_of sz3 ⟨by decide, by decide⟩
  obtain ⟨T4, h4, X4, e4, W4, st4⟩ := stB X2 hx hZ e2 Ar3 (j := (4 : Int32)) hin3 (g := (mkF m 43 #[rv a1, iv 5, iv c2] [.int ((c2 >>> ((0 : Int32) &&& 31)).toInt8.toInt32), .int 4, .ref a1])) rfl rfl (hb hby d11_43)
  have V_a1 : Arv Z h4 a1 k1 .byte (8 : Int32) [(.int (nar .byte ((c0 >>> ((0 : Int32) &&& 31)).toInt8.toInt32))), (.int (nar .byte ((c0 >>> ((8 : Int32) &&& 31)).toInt8.toInt32))), (.int (nar .byte ((c1 >>> ((0 : Int32) &&& 31)).toInt8.toInt32))), (.int (nar .byte ((c1 >>> ((8 : Int32) &&& 31)).toInt8.toInt32))), (.int (nar .byte ((c2 >>> ((0 : Int32) &&& 31)).toInt8.toInt32))), (.int (0 : Int32)), (.int (0 : Int32)), (.int (0 : Int32))] (.int (0 : Int32)) := Arv.set Ar3 qk3 sz3 nn3 hs3 ft3 (fits_nar_byte _) W4 4 rfl (Nat.le_of_ble_eq_true rfl)
  have O := O.wr W4 g_a1
  have K := K.wr W4 (Or.inl (List.mem_of_getElem? (i := 0) rfl))
  have N := Fr.snoc X4 N g_a1
  refine gb st4 ?_
  show G T4 (mkF m 44 #[rv a1, iv 5, iv c2] [])
  refine gb (fun _ k => XS.aloadN X4.here hx rfl (hb hby d11_44) rfl rfl (XS.iloadN X4.here hx rfl (hb hby d11_45) rfl (XS.iloadN X4.here hx rfl (hb hby d11_46) rfl k))) ?_
  show G T4 (mkF m 47 #[rv a1, iv 5, iv c2] [.int c2, .int 5, .ref a1])
  obtain ⟨T5, X5, e5, st5⟩ := getS2 X4 hx hZ hown (host := "") (Or.inl (ow hw 51 rfl)) Via.refl e4 (S_lo.ext O.2) (g := (mkF m 47 #[rv a1, iv 5, iv c2] [.int c2, .int 5, .ref a1])) rfl (hb hby d11_47)
  refine gb st5 ?_
  show G T5 (mkF m 50 #[rv a1, iv 5, iv c2] [.int 8, .int c2, .int 5, .ref a1])
  refine gb (fun _ k => XS.ishr X5.here hx rfl (hb hby d11_50) rfl (XS.i2b X5.here hx rfl (hb hby d11_51) rfl k)) ?_
  show G T5 (mkF m 52 #[rv a1, iv 5, iv c2] [.int ((c2 >>> ((8 : Int32) &&& 31)).toInt8.toInt32), .int 5, .ref a1])
  have V'6 := V_a1
  obtain ⟨cl6, Ar6, qk6, sz6, nn6, hs6, ft6⟩ := V'6
  have hin6 : ¬ ((5 : Int32) < 0 ∨ cl6.slots.size ≤ ((5 : Int32)).toNatClampNeg) := inb_of sz6 ⟨by decide, by decide⟩
  obtain ⟨T7, h7, X7, e7, W7, st7⟩ := stB X5 hx hZ e5 Ar6 (j := (5 : Int32)) hin6 (g := (mkF m 52 #[rv a1, iv 5, iv c2] [.int ((c2 >>> ((8 : Int32) &&& 31)).toInt8.toInt32), .int 5, .ref a1])) rfl rfl (hb hby d11_52)
  have V_a1 : Arv Z h7 a1 k1 .byte (8 : Int32) [(.int (nar .byte ((c0 >>> ((0 : Int32) &&& 31)).toInt8.toInt32))), (.int (nar .byte ((c0 >>> ((8 : Int32) &&& 31)).toInt8.toInt32))), (.int (nar .byte ((c1 >>> ((0 : Int32) &&& 31)).toInt8.toInt32))), (.int (nar .byte ((c1 >>> ((8 : Int32) &&& 31)).toInt8.toInt32))), (.int (nar .byte ((c2 >>> ((0 : Int32) &&& 31)).toInt8.toInt32))), (.int (nar .byte ((c2 >>> ((8 : Int32) &&& 31)).toInt8.toInt32))), (.int (0 : Int32)), (.int (0 : Int32))] (.int (0 : Int32)) := Arv.set Ar6 qk6 sz6 nn6 hs6 ft6 (fits_nar_byte _) W7 5 rfl (Nat.le_of_ble_eq_true rfl)
  have O := O.wr W7 g_a1
  have K := K.wr W7 (Or.inl (List.mem_of_getElem? (i := 0) rfl))
  have N := Fr.snoc X7 N g_a1
  refine gb st7 ?_
  show G T7 (mkF m 53 #[rv a1, iv 5, iv c2] [])
  exact go X7 (v := none) (fun _ => rfl) (fun fs hr => X7.returnOut hx Bd.returns (hb hby d11_53) hr) (by rw [e7]; exact ⟨rfl, N, K, V_a1⟩) (by decide) (by decide)
def Q_rmPU3 (Z : State) (a1 : Addr) (k1 : ClassId) (c0 c1 c2 c3 : Int32) (h0 : Heap) (n0 : Nat) : Option Value → Heap → List Loc → Prop := fun v h L => v = none ∧ Fr n0 L ∧ Keep h0 h [a1] ∧ Arv Z h a1 k1 .byte (8 : Int32) [(.int (nar .byte ((c0 >>> ((0 : Int32) &&& 31)).toInt8.toInt32))), (.int (nar .byte ((c0 >>> ((8 : Int32) &&& 31)).toInt8.toInt32))), (.int (nar .byte ((c1 >>> ((0 : Int32) &&& 31)).toInt8.toInt32))), (.int (nar .byte ((c1 >>> ((8 : Int32) &&& 31)).toInt8.toInt32))), (.int (nar .byte ((c2 >>> ((0 : Int32) &&& 31)).toInt8.toInt32))), (.int (nar .byte ((c2 >>> ((8 : Int32) &&& 31)).toInt8.toInt32))), (.int (nar .byte ((c3 >>> ((0 : Int32) &&& 31)).toInt8.toInt32))), (.int (nar .byte ((c3 >>> ((8 : Int32) &&& 31)).toInt8.toInt32)))] (.int (0 : Int32))
set_option maxRecDepth 65536 in
set_option maxHeartbeats 40000000 in
theorem rmPU3 (l : Launch) (Z : State) (a0 : Array Value) (hw : ∀ d ∈ tables_1, d.before a0 Z = true) (ws : List Jvm.Cond) (a1 : Addr) (k1 : ClassId) (c0 c1 c2 c3 : Int32) (h0 : Heap) (n0 : Nat) (O : Old Z n0 h0) (S_ad : Sta Z Z.heap "java/lang/StringUTF16" "$assertionsDisabled" "Z" (.int (1 : Int32))) (S_hi : Sta Z Z.heap "java/lang/StringUTF16" "HI_BYTE_SHIFT" "I" (.int (0 : Int32))) (S_lo : Sta Z Z.heap "java/lang/StringUTF16" "LO_BYTE_SHIFT" "I" (.int (8 : Int32))) (V_a1 : Arv Z h0 a1 k1 .byte (8 : Int32) [(.int (nar .byte ((c0 >>> ((0 : Int32) &&& 31)).toInt8.toInt32))), (.int (nar .byte ((c0 >>> ((8 : Int32) &&& 31)).toInt8.toInt32))), (.int (nar .byte ((c1 >>> ((0 : Int32) &&& 31)).toInt8.toInt32))), (.int (nar .byte ((c1 >>> ((8 : Int32) &&& 31)).toInt8.toInt32))), (.int (nar .byte ((c2 >>> ((0 : Int32) &&& 31)).toInt8.toInt32))), (.int (nar .byte ((c2 >>> ((8 : Int32) &&& 31)).toInt8.toInt32))), (.int (0 : Int32)), (.int (0 : Int32))] (.int (0 : Int32))) (g_a1 : n0 ≤ a1) :
    MetFree l (⟨"java/lang/StringUTF16", "putChar", "([BII)V"⟩ : MethodName) (head1 (Jvm.Cond.code (⟨"java/lang/StringUTF16", "putChar", "([BII)V"⟩ : MethodName) jdk_52_method_4_code 3 none :: ws) ({ frames := 0, cells := 0, slots := 0, locals := 0 } : Room)) (fun a U => a = #[(.ref a1), (.int (3 : Int32)), (.int c3)] ∧ Z.Warmed39 U.vm ∧ U.heap = h0) (fun _ _ _ _ _ => True) (fun _ U o U' => ∃ v L, o = .returned v ∧ (Q_rmPU3 Z a1 k1 c0 c1 c2 c3 h0 n0) v U'.heap L ∧ FrameEnd U o U' L ({ frames := 0, cells := 0, slots := 0, locals := 0 } : Room).cells ({ frames := 0, cells := 0, slots := 0, locals := 0 } : Room).slots) := by
  refine MetFree.of_bodySF (plainFor_of_name pn_0) hisR ?_
  intro p e s m args below meth c s₁ Bd hml0 hP hK
  obtain ⟨rfl, hZ, hh⟩ := hP
  have hx := Bd.exec
  have hby := Bd.bytes
  have hml : c.maxLocals = 3 := hml0
  have hown : s.vm.findClass "java/lang/StringUTF16" = some m.cls := findClass_of_methodNamed Bd.named
  have hnm := (name_of_methodNamed Bd.named Bd.method).1
  have hlk := BodyLoose.notSynchronized Bd
  have X0 : Stand p l e ({ frames := 0, cells := 0, slots := 0, locals := 0 } : Room) s m #[(.ref a1), (.int (3 : Int32)), (.int c3)] below meth c s₁ [] 0 0 := Stand.of_body Bd
  have e0 : s₁.heap = h0 := by rw [← hh, Bd.state]; rfl
  have N := Fr.nil n0
  have K := Keep.refl h0 [a1]
  obtain ⟨G, hG⟩ : ∃ G : State → JFrame → Prop, G = OwnG p e below s ({ frames := 0, cells := 0, slots := 0, locals := 0 } : Room).cells ({ frames := 0, cells := 0, slots := 0, locals := 0 } : Room).slots (Q_rmPU3 Z a1 k1 c0 c1 c2 c3 h0 n0) := ⟨_, rfl⟩
  have gb : ∀ {T T' : State} {g g' : JFrame}, (∀ t, Steps p.tables e below (T'.setTop g') t → Steps p.tables e below (T.setTop g) t) → G T' g' → G T g := by subst hG; exact fun k h => own_by k h
  have go : ∀ {T : State} {locs : List Loc} {cells slots : Nat} {g : JFrame} {v : Option Value}, Stand p l e ({ frames := 0, cells := 0, slots := 0, locals := 0 } : Room) s m #[(.ref a1), (.int (3 : Int32)), (.int c3)] below meth c T locs cells slots → (meth.sig.returnType = none → v = none) → (∀ fs, (∀ (f : JFrame) (acts : List Action), f.method = m → f.locked = none → f.entered = [] → (doReturn e (T.setTop f) acts v).1 = T.setFrames fs) → Steps p.tables e below (T.setTop g) (T.setFrames fs)) → (Q_rmPU3 Z a1 k1 c0 c1 c2 c3 h0 n0) v T.heap locs → cells ≤ ({ frames := 0, cells := 0, slots := 0, locals := 0 } : Room).cells → slots ≤ ({ frames := 0, cells := 0, slots := 0, locals := 0 } : Room).slots → G T g := by subst hG; exact fun X h1 h2 h3 h4 h5 => own_out X hlk h1 h2 h3 h4 h5
  show OwnG p e below s ({ frames := 0, cells := 0, slots := 0, locals := 0 } : Room).cells ({ frames := 0, cells := 0, slots := 0, locals := 0 } : Room).slots (Q_rmPU3 Z a1 k1 c0 c1 c2 c3 h0 n0) s₁ (entryFrame m #[(.ref a1), (.int (3 : Int32)), (.int c3)] 3)
  rw [← hG, ef_rmPU3 m a1 (3 : Int32) c3]
  clear hG
  show G s₁ (mkF m 0 #[.val (.ref a1), .val (.int (3 : Int32)), .val (.int c3)] [])
  obtain ⟨T1, X1, e1, st1⟩ := getS2 X0 hx hZ hown (host := "") (Or.inl (ow hw 49 rfl)) Via.refl e0 (S_ad.ext O.2) (g := (mkF m 0 #[rv a1, iv 3, iv c3] [])) rfl (hb hby d11_0)
  refine gb st1 ?_
  show G T1 (mkF m 3 #[rv a1, iv 3, iv c3] [.int 1])
  refine gb (fun _ k => XS.ifYes X1.here hx rfl (pc0 := 3) (pc' := 28) rfl (hb hby d11_3) rfl ((if0 _ _).trans (feq (by decide : ¬ ((1 : Int32) = (0 : Int32)))).2) (by decide) (by decide) (XS.iloadN X1.here hx rfl (hb hby d11_28) rfl (XS.iconst X1.here hx rfl (hb hby d11_29) (XS.ishl X1.here hx rfl (hb hby d11_30) rfl (XS.istoreN X1.here hx rfl (hb hby d11_31) rfl (l' := #[rv a1, iv 6, iv c3]) rfl (XS.aloadN X1.here hx rfl (hb hby d11_32) rfl rfl k)))))) ?_
  show G T1 (mkF m 33 #[rv a1, iv 6, iv c3] [.ref a1])
  refine gb (fun _ k => XS.iloadN X1.here hx rfl (hb hby d11_33) rfl (XS.iinc X1.here hx rfl (hb hby d11_34) rfl (l' := #[rv a1, iv 7, iv c3]) rfl (XS.iloadN X1.here hx rfl (hb hby d11_37) rfl k))) ?_
  show G T1 (mkF m 38 #[rv a1, iv 7, iv c3] [.int c3, .int 6, .ref a1])
  obtain ⟨T2, X2, e2, st2⟩ := getS2 X1 hx hZ hown (host := "") (Or.inl (ow hw 50 rfl)) Via.refl e1 (S_hi.ext O.2) (g := (mkF m 38 #[rv a1, iv 7, iv c3] [.int c3, .int 6, .ref a1])) rfl (hb hby d11_38)
  refine gb st2 ?_
  show G T2 (mkF m 41 #[rv a1, iv 7, iv c3] [.int 0, .int c3, .int 6, .ref a1])
  refine gb (fun _ k => XS.ishr X2.here hx rfl (hb hby d11_41) rfl (XS.i2b X2.here hx rfl (hb hby d11_42) rfl k)) ?_
  show G T2 (mkF m 43 #[rv a1, iv 7, iv c3] [.int ((c3 >>> ((0 : Int32) &&& 31)).toInt8.toInt32), .int 6, .ref a1])
  have V'3 := V_a1
  obtain ⟨cl3, Ar3, qk3, sz3, nn3, hs3, ft3⟩ := V'3
  have hin3 : ¬ ((6 : Int32) < 0 ∨ cl3.slots.size ≤ ((6 : Int32)).toNatClampNeg) := inb_of sz3 ⟨by decide, by decide⟩
  obtain ⟨T4, h4, X4, e4, W4, st4⟩ := stB X2 hx hZ e2 Ar3 (j := (6 : Int32)) hin3 (g := (mkF m 43 #[rv a1, iv 7, iv c3] [.int ((c3 >>> ((0 : Int32) &&& 31)).toInt8.toInt32), .int 6, .ref a1])) rfl rfl (hb hby d11_43)
  have V_a1 : Arv Z h4 a1 k1 .byte (8 : Int32) [(.int (nar .byte ((c0 >>> ((0 : Int32) &&& 31)).toInt8.toInt32))), (.int (nar .byte ((c0 >>> ((8 : Int32) &&& 31)).toInt8.toInt32))), (.int (nar .byte ((c1 >>> ((0 : Int32) &&& 31)).toInt8.toInt32))), (.int (nar .byte ((c1 >>> ((8 : Int32) &&& 31)).toInt8.toInt32))), (.int (nar .byte ((c2 >>> ((0 : Int32) &&& 31)).toInt8.toInt32))), (.int (nar .byte ((c2 >>> ((8 : Int32) &&& 31)).toInt8.toInt32))), (.int (nar .byte ((c3 >>> ((0 : Int32) &&& 31)).toInt8.toInt32))), (.int (0 : Int32))] (.int (0 : Int32)) := Arv.set Ar3 qk3 sz3 nn3 hs3 ft3 (fits_nar_byte _) W4 6 rfl (Nat.le_of_ble_eq_true rfl)
  have O := O.wr W4 g_a1
  have K := K.wr W4 (Or.inl (List.mem_of_getElem? (i := 0) rfl))
  have N := Fr.snoc X4 N g_a1
  refine gb st4 ?_
  show G T4 (mkF m 44 #[rv a1, iv 7, iv c3] [])
  refine gb (fun _ k => XS.aloadN X4.here hx rfl (hb hby d11_44) rfl rfl (XS.iloadN X4.here hx rfl (hb hby d11_45) rfl (XS.iloadN X4.here hx rfl (hb hby d11_46) rfl k))) ?_
  show G T4 (mkF m 47 #[rv a1, iv 7, iv c3] [.int c3, .int 7, .ref a1])
  obtain ⟨T5, X5, e5, st5⟩ := getS2 X4 hx hZ hown (host := "") (Or.inl (ow hw 51 rfl)) Via.refl e4 (S_lo.ext O.2) (g := (mkF m 47 #[rv a1, iv 7, iv c3] [.int c3, .int 7, .ref a1])) rfl (hb hby d11_47)
  refine gb st5 ?_
  show G T5 (mkF m 50 #[rv a1, iv 7, iv c3] [.int 8, .int c3, .int 7, .ref a1])
  refine gb (fun _ k => XS.ishr X5.here hx rfl (hb hby d11_50) rfl (XS.i2b X5.here hx rfl (hb hby d11_51) rfl k)) ?_
  show G T5 (mkF m 52 #[rv a1, iv 7, iv c3] [.int ((c3 >>> ((8 : Int32) &&& 31)).toInt8.toInt32), .int 7, .ref a1])
  have V'6 := V_a1
  obtain ⟨cl6, Ar6, qk6, sz6, nn6, hs6, ft6⟩ := V'6
  have hin6 : ¬ ((7 : Int32) < 0 ∨ cl6.slots.size ≤ ((7 : Int32)).toNatClampNeg) := inb_of sz6 ⟨by decide, by decide⟩
  obtain ⟨T7, h7, X7, e7, W7, st7⟩ := stB X5 hx hZ e5 Ar6 (j := (7 : Int32)) hin6 (g := (mkF m 52 #[rv a1, iv 7, iv c3] [.int ((c3 >>> ((8 : Int32) &&& 31)).toInt8.toInt32), .int 7, .ref a1])) rfl rfl (hb hby d11_52)
  have V_a1 : Arv Z h7 a1 k1 .byte (8 : Int32) [(.int (nar .byte ((c0 >>> ((0 : Int32) &&& 31)).toInt8.toInt32))), (.int (nar .byte ((c0 >>> ((8 : Int32) &&& 31)).toInt8.toInt32))), (.int (nar .byte ((c1 >>> ((0 : Int32) &&& 31)).toInt8.toInt32))), (.int (nar .byte ((c1 >>> ((8 : Int32) &&& 31)).toInt8.toInt32))), (.int (nar .byte ((c2 >>> ((0 : Int32) &&& 31)).toInt8.toInt32))), (.int (nar .byte ((c2 >>> ((8 : Int32) &&& 31)).toInt8.toInt32))), (.int (nar .byte ((c3 >>> ((0 : Int32) &&& 31)).toInt8.toInt32))), (.int (nar .byte ((c3 >>> ((8 : Int32) &&& 31)).toInt8.toInt32)))] (.int (0 : Int32)) := Arv.set Ar6 qk6 sz6 nn6 hs6 ft6 (fits_nar_byte _) W7 7 rfl (Nat.le_of_ble_eq_true rfl)
  have O := O.wr W7 g_a1
  have K := K.wr W7 (Or.inl (List.mem_of_getElem? (i := 0) rfl))
  have N := Fr.snoc X7 N g_a1
  refine gb st7 ?_
  show G T7 (mkF m 53 #[rv a1, iv 7, iv c3] [])
  exact go X7 (v := none) (fun _ => rfl) (fun fs hr => X7.returnOut hx Bd.returns (hb hby d11_53) hr) (by rw [e7]; exact ⟨rfl, N, K, V_a1⟩) (by decide) (by decide)
def Q_rmTB (Z : State) (a1 : Addr) (k1 : ClassId) (c0 c1 c2 c3 : Int32) (h0 : Heap) (n0 : Nat) : Option Value → Heap → List Loc → Prop := fun v h L => ∃ (b : Addr) (kb : ClassId), v = some (.ref b) ∧ Fr n0 L ∧ Keep h0 h [] ∧ n0 ≤ b ∧ h0.size ≤ b ∧ Arv Z h b kb .byte (8 : Int32) [(.int (nar .byte ((c0 >>> ((0 : Int32) &&& 31)).toInt8.toInt32))), (.int (nar .byte ((c0 >>> ((8 : Int32) &&& 31)).toInt8.toInt32))), (.int (nar .byte ((c1 >>> ((0 : Int32) &&& 31)).toInt8.toInt32))), (.int (nar .byte ((c1 >>> ((8 : Int32) &&& 31)).toInt8.toInt32))), (.int (nar .byte ((c2 >>> ((0 : Int32) &&& 31)).toInt8.toInt32))), (.int (nar .byte ((c2 >>> ((8 : Int32) &&& 31)).toInt8.toInt32))), (.int (nar .byte ((c3 >>> ((0 : Int32) &&& 31)).toInt8.toInt32))), (.int (nar .byte ((c3 >>> ((8 : Int32) &&& 31)).toInt8.toInt32)))] (.int (0 : Int32))
set_option maxRecDepth 65536 in
set_option maxHeartbeats 40000000 in
theorem rmTB (l : Launch) (Z : State) (a0 : Array Value) (hw : ∀ d ∈ tables_1, d.before a0 Z = true) (ws : List Jvm.Cond) (a1 : Addr) (k1 : ClassId) (c0 c1 c2 c3 : Int32) (h0 : Heap) (n0 : Nat) (O : Old Z n0 h0) (S_ad : Sta Z Z.heap "java/lang/StringUTF16" "$assertionsDisabled" "Z" (.int (1 : Int32))) (S_hi : Sta Z Z.heap "java/lang/StringUTF16" "HI_BYTE_SHIFT" "I" (.int (0 : Int32))) (S_lo : Sta Z Z.heap "java/lang/StringUTF16" "LO_BYTE_SHIFT" "I" (.int (8 : Int32))) (V_a1 : Arv Z h0 a1 k1 .char (4 : Int32) [(.int c0), (.int c1), (.int c2), (.int c3)] (.int (0 : Int32))) :
    MetFree l (⟨"java/lang/StringUTF16", "toBytes", "([CII)[B"⟩ : MethodName) (head1 (Jvm.Cond.code (⟨"java/lang/StringUTF16", "toBytes", "([CII)[B"⟩ : MethodName) jdk_52_method_14_code 5 (some (.array .byte)) :: ws) ({ frames := 2, cells := 1, slots := 8, locals := 24 } : Room)) (fun a U => a = #[(.ref a1), (.int (0 : Int32)), (.int (4 : Int32))] ∧ Z.Warmed39 U.vm ∧ U.heap = h0) (fun _ _ _ _ _ => True) (fun _ U o U' => ∃ v L, o = .returned v ∧ (Q_rmTB Z a1 k1 c0 c1 c2 c3 h0 n0) v U'.heap L ∧ FrameEnd U o U' L ({ frames := 2, cells := 1, slots := 8, locals := 24 } : Room).cells ({ frames := 2, cells := 1, slots := 8, locals := 24 } : Room).slots) := by
  refine MetFree.of_bodySF (plainFor_of_name pn_0) hisR ?_
  intro p e s m args below meth c s₁ Bd hml0 hP hK
  obtain ⟨rfl, hZ, hh⟩ := hP
  have hx := Bd.exec
  have hby := Bd.bytes
  have hml : c.maxLocals = 5 := hml0
  have hown : s.vm.findClass "java/lang/StringUTF16" = some m.cls := findClass_of_methodNamed Bd.named
  have hnm := (name_of_methodNamed Bd.named Bd.method).1
  have hlk := BodyLoose.notSynchronized Bd
  have X0 : Stand p l e ({ frames := 2, cells := 1, slots := 8, locals := 24 } : Room) s m #[(.ref a1), (.int (0 : Int32)), (.int (4 : Int32))] below meth c s₁ [] 0 0 := Stand.of_body Bd
  have e0 : s₁.heap = h0 := by rw [← hh, Bd.state]; rfl
  have N := Fr.nil n0
  have K := Keep.refl h0 []
  obtain ⟨G, hG⟩ : ∃ G : State → JFrame → Prop, G = OwnG p e below s ({ frames := 2, cells := 1, slots := 8, locals := 24 } : Room).cells ({ frames := 2, cells := 1, slots := 8, locals := 24 } : Room).slots (Q_rmTB Z a1 k1 c0 c1 c2 c3 h0 n0) := ⟨_, rfl⟩
  have gb : ∀ {T T' : State} {g g' : JFrame}, (∀ t, Steps p.tables e below (T'.setTop g') t → Steps p.tables e below (T.setTop g) t) → G T' g' → G T g := by subst hG; exact fun k h => own_by k h
  have go : ∀ {T : State} {locs : List Loc} {cells slots : Nat} {g : JFrame} {v : Option Value}, Stand p l e ({ frames := 2, cells := 1, slots := 8, locals := 24 } : Room) s m #[(.ref a1), (.int (0 : Int32)), (.int (4 : Int32))] below meth c T locs cells slots → (meth.sig.returnType = none → v = none) → (∀ fs, (∀ (f : JFrame) (acts : List Action), f.method = m → f.locked = none → f.entered = [] → (doReturn e (T.setTop f) acts v).1 = T.setFrames fs) → Steps p.tables e below (T.setTop g) (T.setFrames fs)) → (Q_rmTB Z a1 k1 c0 c1 c2 c3 h0 n0) v T.heap locs → cells ≤ ({ frames := 2, cells := 1, slots := 8, locals := 24 } : Room).cells → slots ≤ ({ frames := 2, cells := 1, slots := 8, locals := 24 } : Room).slots → G T g := by subst hG; exact fun X h1 h2 h3 h4 h5 => own_out X hlk h1 h2 h3 h4 h5
  show OwnG p e below s ({ frames := 2, cells := 1, slots := 8, locals := 24 } : Room).cells ({ frames := 2, cells := 1, slots := 8, locals := 24 } : Room).slots (Q_rmTB Z a1 k1 c0 c1 c2 c3 h0 n0) s₁ (entryFrame m #[(.ref a1), (.int (0 : Int32)), (.int (4 : Int32))] 5)
  rw [← hG, ef_rmTB m a1 (0 : Int32) (4 : Int32)]
  clear hG
  show G s₁ (mkF m 0 #[.val (.ref a1), .val (.int (0 : Int32)), .val (.int (4 : Int32)), .unset, .unset] [])
  refine gb (fun _ k => XS.iloadN X0.here hx rfl (hb hby d8_0) rfl k) ?_
  show G s₁ (mkF m 1 #[rv a1, iv 0, iv 4, .unset, .unset] [.int 4])
  have lt_a1 := V_a1.lt
  have szK := K.1
  obtain ⟨_, _, ⟨T1, Lz1, kz1, nz1⟩, -, X1, ⟨Lc1, hQ1, lq1, yq1, zq1⟩, st1⟩ := Jvm.LawKit.callS X0 hx (y := (⟨"java/lang/StringUTF16", "newBytesFor", "(I)[B"⟩ : MethodName)) hown (mvT hZ (ow hw 39 rfl)) (mvT hZ (ow hw 40 rfl)) (mvT hZ (ow hw 18 rfl)) (mvT hZ (ow hw 41 rfl)) (by decide) (backOf (W := 0) (rmNF l Z a0 hw [] h0 n0 O) hZ (ow hw 41 rfl) (ow hw 18 rfl) (by decide) (by decide)) (g := (mkF m 1 #[rv a1, iv 0, iv 4, .unset, .unset] [.int 4])) rfl (by rw [hml]; rfl) (argsL := [(.int (4 : Int32))]) (rest := []) (lenOf pd_5 rfl) rfl (by show 2 * 0 + _ ≤ _; exact Nat.le_of_eq rfl) (hb hby d8_1) (fun _ _ => ⟨rfl, e0, (by decide : 0 + 1 ≤ _), (by decide : 0 + 8 ≤ _)⟩)
  dsimp only [Pt.U, Pt.locs, Pt.cells, Pt.slots] at X1 lq1 yq1 zq1 st1 hQ1
  subst lq1 yq1 zq1
  obtain ⟨h1, e1⟩ : ∃ z, z = T1.heap := ⟨_, rfl⟩
  rw [← e1] at hQ1
  replace e1 := e1.symm
  obtain ⟨b1, kb1, rfl, Nq1, Kq1, hR1⟩ := hQ1
  have N := Fr.app N Nq1
  have V_a1 := V_a1.keep Kq1 nin0
  obtain ⟨g_b1, sz_b1, V_b1⟩ := hR1
  have O := O.keep Kq1 all0
  have K := K.trans Kq1 all0
  have ne_a1_b1 : a1 ≠ b1 := Nat.ne_of_lt (Nat.lt_of_lt_of_le lt_a1 sz_b1)
  have sz_b1 := Nat.le_trans szK sz_b1
  refine gb st1 ?_
  show G T1 (mkF m 4 #[rv a1, iv 0, iv 4, .unset, .unset] [.ref b1])
  refine gb (fun _ k => XS.astoreN X1.here hx rfl (hb hby d8_4) rfl rfl (l' := #[rv a1, iv 0, iv 4, rv b1, .unset]) rfl (XS.iconst X1.here hx rfl (hb hby d8_5) (XS.istore X1.here hx rfl (hb hby d8_6) rfl (l' := #[rv a1, iv 0, iv 4, rv b1, iv 0]) rfl (XS.iload X1.here hx rfl (hb hby d8_8) rfl (XS.iloadN X1.here hx rfl (hb hby d8_10) rfl (XS.icmpNo X1.here hx rfl (hb hby d8_11) rfl (tlt (by decide : (0 : Int32) < (4 : Int32))).2.1 k)))))) ?_
  show G T1 (mkF m 14 #[rv a1, iv 0, iv 4, rv b1, iv 0] [])
  refine gb (fun _ k => XS.aloadN X1.here hx rfl (hb hby d8_14) rfl rfl (XS.iload X1.here hx rfl (hb hby d8_15) rfl (XS.aloadN X1.here hx rfl (hb hby d8_17) rfl rfl (XS.iloadN X1.here hx rfl (hb hby d8_18) rfl k)))) ?_
  show G T1 (mkF m 19 #[rv a1, iv 0, iv 4, rv b1, iv 0] [.int 0, .ref a1, .int 0, .ref b1])
  have V'2 := V_a1
  obtain ⟨cl2, Ar2, qk2, sz2, nn2, hs2, ft2⟩ := V'2
  have hin2 : ¬ ((0 : Int32) < 0 ∨ cl2.slots.size ≤ ((0 : Int32)).toNatClampNeg) := inb_of sz2 ⟨by decide, by decide⟩
  have hat2 : cl2.slots[((0 : Int32)).toNatClampNeg]? = some (.int c0) := hs2.at hin2 rfl
  refine gb (X1.caload hx (j := (0 : Int32)) (v := (.int c0)) (by rw [e1]; exact Ar2.1) (State.isArrayOf_alike hZ.alike Ar2.2.1) Ar2.2.2 hin2 hat2 (g := (mkF m 19 #[rv a1, iv 0, iv 4, rv b1, iv 0] [.int 0, .ref a1, .int 0, .ref b1])) rfl rfl (hb hby d8_19)) ?_
  show G T1 (mkF m 20 #[rv a1, iv 0, iv 4, rv b1, iv 0] [.int c0, .int 0, .ref b1])
  obtain ⟨_, _, ⟨T3, Lz3, kz3, nz3⟩, -, X3, ⟨Lc3, hQ3, lq3, yq3, zq3⟩, st3⟩ := Jvm.LawKit.callS X1 hx (y := (⟨"java/lang/StringUTF16", "putChar", "([BII)V"⟩ : MethodName)) hown (mvT hZ (ow hw 46 rfl)) (mvT hZ (ow hw 47 rfl)) (mvT hZ (ow hw 18 rfl)) (mvT hZ (ow hw 48 rfl)) (by decide) (backOf (W := 0) (rmPU0 l Z a0 hw [] b1 kb1 c0 h1 n0 O S_ad S_hi S_lo V_b1 g_b1) hZ (ow hw 48 rfl) (ow hw 18 rfl) (by decide) (by decide)) (g := (mkF m 20 #[rv a1, iv 0, iv 4, rv b1, iv 0] [.int c0, .int 0, .ref b1])) rfl (by rw [hml]; rfl) (argsL := [(.ref b1), (.int (0 : Int32)), (.int c0)]) (rest := []) (lenOf pd_6 rfl) rfl (by show 2 * 0 + _ ≤ _; exact Nat.le_of_eq rfl) (hb hby d8_20) (fun _ _ => ⟨rfl, e1, (by decide : 1 + 0 ≤ _), (by decide : 8 + 0 ≤ _)⟩)
  dsimp only [Pt.U, Pt.locs, Pt.cells, Pt.slots] at X3 lq3 yq3 zq3 st3 hQ3
  subst lq3 yq3 zq3
  obtain ⟨h3, e3⟩ : ∃ z, z = T3.heap := ⟨_, rfl⟩
  rw [← e3] at hQ3
  replace e3 := e3.symm
  obtain ⟨rfl, Nq3, Kq3, hR3⟩ := hQ3
  have N := Fr.app N Nq3
  have V_a1 := V_a1.keep Kq3 (ninS ne_a1_b1 nin0)
  have V_b1 := hR3
  have O := O.keep Kq3 (allS g_b1 all0)
  have K := K.trans Kq3 (allS (Or.inr sz_b1) all0)
  refine gb st3 ?_
  show G T3 (mkF m 23 #[rv a1, iv 0, iv 4, rv b1, iv 0] [])
  refine gb (fun _ k => XS.iinc X3.here hx rfl (hb hby d8_23) rfl (l' := #[rv a1, iv 1, iv 4, rv b1, iv 0]) rfl (XS.iinc X3.here hx rfl (hb hby d8_26) rfl (l' := #[rv a1, iv 1, iv 4, rv b1, iv 1]) rfl (XS.goto X3.here hx rfl (pc0 := 29) (pc' := 8) rfl (hb hby d8_29) (by decide) (by decide) (XS.iload X3.here hx rfl (hb hby d8_8) rfl (XS.iloadN X3.here hx rfl (hb hby d8_10) rfl (XS.icmpNo X3.here hx rfl (hb hby d8_11) rfl (tlt (by decide : (1 : Int32) < (4 : Int32))).2.1 k)))))) ?_
  show G T3 (mkF m 14 #[rv a1, iv 1, iv 4, rv b1, iv 1] [])
  refine gb (fun _ k => XS.aloadN X3.here hx rfl (hb hby d8_14) rfl rfl (XS.iload X3.here hx rfl (hb hby d8_15) rfl (XS.aloadN X3.here hx rfl (hb hby d8_17) rfl rfl (XS.iloadN X3.here hx rfl (hb hby d8_18) rfl k)))) ?_
  show G T3 (mkF m 19 #[rv a1, iv 1, iv 4, rv b1, iv 1] [.int 1, .ref a1, .int 1, .ref b1])
  have V'4 := V_a1
  obtain ⟨cl4, Ar4, qk4, sz4, nn4, hs4, ft4⟩ := V'4
  have hin4 : ¬ ((1 : Int32) < 0 ∨ cl4.slots.size ≤ ((1 : Int32)).toNatClampNeg) := inb_of sz4 ⟨by decide, by decide⟩
  have hat4 : cl4.slots[((1 : Int32)).toNatClampNeg]? = some (.int c1) := hs4.at hin4 rfl
  refine gb (X3.caload hx (j := (1 : Int32)) (v := (.int c1)) (by rw [e3]; exact Ar4.1) (State.isArrayOf_alike hZ.alike Ar4.2.1) Ar4.2.2 hin4 hat4 (g := (mkF m 19 #[rv a1, iv 1, iv 4, rv b1, iv 1] [.int 1, .ref a1, .int 1, .ref b1])) rfl rfl (hb hby d8_19)) ?_
  show G T3 (mkF m 20 #[rv a1, iv 1, iv 4, rv b1, iv 1] [.int c1, .int 1, .ref b1])
  obtain ⟨_, _, ⟨T5, Lz5, kz5, nz5⟩, -, X5, ⟨Lc5, hQ5, lq5, yq5, zq5⟩, st5⟩ := Jvm.LawKit.callS X3 hx (y := (⟨"java/lang/StringUTF16", "putChar", "([BII)V"⟩ : MethodName)) hown (mvT hZ (ow hw 46 rfl)) (mvT hZ (ow hw 47 rfl)) (mvT hZ (ow hw 18 rfl)) (mvT hZ (ow hw 48 rfl)) (by decide) (backOf (W := 0) (rmPU1 l Z a0 hw [] b1 kb1 c0 c1 h3 n0 O S_ad S_hi S_lo V_b1 g_b1) hZ (ow hw 48 rfl) (ow hw 18 rfl) (by decide) (by decide)) (g := (mkF m 20 #[rv a1, iv 1, iv 4, rv b1, iv 1] [.int c1, .int 1, .ref b1])) rfl (by rw [hml]; rfl) (argsL := [(.ref b1), (.int (1 : Int32)), (.int c1)]) (rest := []) (lenOf pd_6 rfl) rfl (by show 2 * 0 + _ ≤ _; exact Nat.le_of_eq rfl) (hb hby d8_20) (fun _ _ => ⟨rfl, e3, (by decide : 1 + 0 ≤ _), (by decide : 8 + 0 ≤ _)⟩)
  dsimp only [Pt.U, Pt.locs, Pt.cells, Pt.slots] at X5 lq5 yq5 zq5 st5 hQ5
  subst lq5 yq5 zq5
  obtain ⟨h5, e5⟩ : ∃ z, z = T5.heap := ⟨_, rfl⟩
  rw [← e5] at hQ5
  replace e5 := e5.symm
  obtain ⟨rfl, Nq5, Kq5, hR5⟩ := hQ5
  have N := Fr.app N Nq5
  have V_a1 := V_a1.keep Kq5 (ninS ne_a1_b1 nin0)
  have V_b1 := hR5
  have O := O.keep Kq5 (allS g_b1 all0)
  have K := K.trans Kq5 (allS (Or.inr sz_b1) all0)
  refine gb st5 ?_
  show G T5 (mkF m 23 #[rv a1, iv 1, iv 4, rv b1, iv 1] [])
  refine gb (fun _ k => XS.iinc X5.here hx rfl (hb hby d8_23) rfl (l' := #[rv a1, iv 2, iv 4, rv b1, iv 1]) rfl (XS.iinc X5.here hx rfl (hb hby d8_26) rfl (l' := #[rv a1, iv 2, iv 4, rv b1, iv 2]) rfl (XS.goto X5.here hx rfl (pc0 := 29) (pc' := 8) rfl (hb hby d8_29) (by decide) (by decide) (XS.iload X5.here hx rfl (hb hby d8_8) rfl (XS.iloadN X5.here hx rfl (hb hby d8_10) rfl (XS.icmpNo X5.here hx rfl (hb hby d8_11) rfl (tlt (by decide : (2 : Int32) < (4 : Int32))).2.1 k)))))) ?_
  show G T5 (mkF m 14 #[rv a1, iv 2, iv 4, rv b1, iv 2] [])
  refine gb (fun _ k => XS.aloadN X5.here hx rfl (hb hby d8_14) rfl rfl (XS.iload X5.here hx rfl (hb hby d8_15) rfl (XS.aloadN X5.here hx rfl (hb hby d8_17) rfl rfl (XS.iloadN X5.here hx rfl (hb hby d8_18) rfl k)))) ?_
  show G T5 (mkF m 19 #[rv a1, iv 2, iv 4, rv b1, iv 2] [.int 2, .ref a1, .int 2, .ref b1])
  have V'6 := V_a1
  obtain ⟨cl6, Ar6, qk6, sz6, nn6, hs6, ft6⟩ := V'6
  have hin6 : ¬ ((2 : Int32) < 0 ∨ cl6.slots.size ≤ ((2 : Int32)).toNatClampNeg) := inb_of sz6 ⟨by decide, by decide⟩
  have hat6 : cl6.slots[((2 : Int32)).toNatClampNeg]? = some (.int c2) := hs6.at hin6 rfl
  refine gb (X5.caload hx (j := (2 : Int32)) (v := (.int c2)) (by rw [e5]; exact Ar6.1) (State.isArrayOf_alike hZ.alike Ar6.2.1) Ar6.2.2 hin6 hat6 (g := (mkF m 19 #[rv a1, iv 2, iv 4, rv b1, iv 2] [.int 2, .ref a1, .int 2, .ref b1])) rfl rfl (hb hby d8_19)) ?_
  show G T5 (mkF m 20 #[rv a1, iv 2, iv 4, rv b1, iv 2] [.int c2, .int 2, .ref b1])
  obtain ⟨_, _, ⟨T7, Lz7, kz7, nz7⟩, -, X7, ⟨Lc7, hQ7, lq7, yq7, zq7⟩, st7⟩ := Jvm.LawKit.callS X5 hx (y := (⟨"java/lang/StringUTF16", "putChar", "([BII)V"⟩ : MethodName)) hown (mvT hZ (ow hw 46 rfl)) (mvT hZ (ow hw 47 rfl)) (mvT hZ (ow hw 18 rfl)) (mvT hZ (ow hw 48 rfl)) (by decide) (backOf (W := 0) (rmPU2 l Z a0 hw [] b1 kb1 c0 c1 c2 h5 n0 O S_ad S_hi S_lo V_b1 g_b1) hZ (ow hw 48 rfl) (ow hw 18 rfl) (by decide) (by decide)) (g := (mkF m 20 #[rv a1, iv 2, iv 4, rv b1, iv 2] [.int c2, .int 2, .ref b1])) rfl (by rw [hml]; rfl) (argsL := [(.ref b1), (.int (2 : Int32)), (.int c2)]) (rest := []) (lenOf pd_6 rfl) rfl (by show 2 * 0 + _ ≤ _; exact Nat.le_of_eq rfl) (hb hby d8_20) (fun _ _ => ⟨rfl, e5, (by decide : 1 + 0 ≤ _), (by decide : 8 + 0 ≤ _)⟩)
  dsimp only [Pt.U, Pt.locs, Pt.cells, Pt.slots] at X7 lq7 yq7 zq7 st7 hQ7
  subst lq7 yq7 zq7
  obtain ⟨h7, e7⟩ : ∃ z, z = T7.heap := ⟨_, rfl⟩
  rw [← e7] at hQ7
  replace e7 := e7.symm
  obtain ⟨rfl, Nq7, Kq7, hR7⟩ := hQ7
  have N := Fr.app N Nq7
  have V_a1 := V_a1.keep Kq7 (ninS ne_a1_b1 nin0)
  have V_b1 := hR7
  have O := O.keep Kq7 (allS g_b1 all0)
  have K := K.trans Kq7 (allS (Or.inr sz_b1) all0)
  refine gb st7 ?_
  show G T7 (mkF m 23 #[rv a1, iv 2, iv 4, rv b1, iv 2] [])
  refine gb (fun _ k => XS.iinc X7.here hx rfl (hb hby d8_23) rfl (l' := #[rv a1, iv 3, iv 4, rv b1, iv 2]) rfl (XS.iinc X7.here hx rfl (hb hby d8_26) rfl (l' := #[rv a1, iv 3, iv 4, rv b1, iv 3]) rfl (XS.goto X7.here hx rfl (pc0 := 29) (pc' := 8) rfl (hb hby d8_29) (by decide) (by decide) (XS.iload X7.here hx rfl (hb hby d8_8) rfl (XS.iloadN X7.here hx rfl (hb hby d8_10) rfl (XS.icmpNo X7.here hx rfl (hb hby d8_11) rfl (tlt (by decide : (3 : Int32) < (4 : Int32))).2.1 k)))))) ?_
  show G T7 (mkF m 14 #[rv a1, iv 3, iv 4, rv b1, iv 3] [])
  refine gb (fun _ k => XS.aloadN X7.here hx rfl (hb hby d8_14) rfl rfl (XS.iload X7.here hx rfl (hb hby d8_15) rfl (XS.aloadN X7.here hx rfl (hb hby d8_17) rfl rfl (XS.iloadN X7.here hx rfl (hb hby d8_18) rfl k)))) ?_
  show G T7 (mkF m 19 #[rv a1, iv 3, iv 4, rv b1, iv 3] [.int 3, .ref a1, .int 3, .ref b1])
  have V'8 := V_a1
  obtain ⟨cl8, Ar8, qk8, sz8, nn8, hs8, ft8⟩ := V'8
  have hin8 : ¬ ((3 : Int32) < 0 ∨ cl8.slots.size ≤ ((3 : Int32)).toNatClampNeg) := inb_of sz8 ⟨by decide, by decide⟩
  have hat8 : cl8.slots[((3 : Int32)).toNatClampNeg]? = some (.int c3) := hs8.at hin8 rfl
  refine gb (X7.caload hx (j := (3 : Int32)) (v := (.int c3)) (by rw [e7]; exact Ar8.1) (State.isArrayOf_alike hZ.alike Ar8.2.1) Ar8.2.2 hin8 hat8 (g := (mkF m 19 #[rv a1, iv 3, iv 4, rv b1, iv 3] [.int 3, .ref a1, .int 3, .ref b1])) rfl rfl (hb hby d8_19)) ?_
  show G T7 (mkF m 20 #[rv a1, iv 3, iv 4, rv b1, iv 3] [.int c3, .int 3, .ref b1])
  obtain ⟨_, _, ⟨T9, Lz9, kz9, nz9⟩, -, X9, ⟨Lc9, hQ9, lq9, yq9, zq9⟩, st9⟩ := Jvm.LawKit.callS X7 hx (y := (⟨"java/lang/StringUTF16", "putChar", "([BII)V"⟩ : MethodName)) hown (mvT hZ (ow hw 46 rfl)) (mvT hZ (ow hw 47 rfl)) (mvT hZ (ow hw 18 rfl)) (mvT hZ (ow hw 48 rfl)) (by decide) (backOf (W := 0) (rmPU3 l Z a0 hw [] b1 kb1 c0 c1 c2 c3 h7 n0 O S_ad S_hi S_lo V_b1 g_b1) hZ (ow hw 48 rfl) (ow hw 18 rfl) (by decide) (by decide)) (g := (mkF m 20 #[rv a1, iv 3, iv 4, rv b1, iv 3] [.int c3, .int 3, .ref b1])) rfl (by rw [hml]; rfl) (argsL := [(.ref b1), (.int (3 : Int32)), (.int c3)]) (rest := []) (lenOf pd_6 rfl) rfl (by show 2 * 0 + _ ≤ _; exact Nat.le_of_eq rfl) (hb hby d8_20) (fun _ _ => ⟨rfl, e7, (by decide : 1 + 0 ≤ _), (by decide : 8 + 0 ≤ _)⟩)
  dsimp only [Pt.U, Pt.locs, Pt.cells, Pt.slots] at X9 lq9 yq9 zq9 st9 hQ9
  subst lq9 yq9 zq9
  obtain ⟨h9, e9⟩ : ∃ z, z = T9.heap := ⟨_, rfl⟩
  rw [← e9] at hQ9
  replace e9 := e9.symm
  obtain ⟨rfl, Nq9, Kq9, hR9⟩ := hQ9
  have N := Fr.app N Nq9
  have V_a1 := V_a1.keep Kq9 (ninS ne_a1_b1 nin0)
  have V_b1 := hR9
  have O := O.keep Kq9 (allS g_b1 all0)
  have K := K.trans Kq9 (allS (Or.inr sz_b1) all0)
  refine gb st9 ?_
  show G T9 (mkF m 23 #[rv a1, iv 3, iv 4, rv b1, iv 3] [])
  refine gb (fun _ k => XS.iinc X9.here hx rfl (hb hby d8_23) rfl (l' := #[rv a1, iv 4, iv 4, rv b1, iv 3]) rfl (XS.iinc X9.here hx rfl (hb hby d8_26) rfl (l' := #[rv a1, iv 4, iv 4, rv b1, iv 4]) rfl (XS.goto X9.here hx rfl (pc0 := 29) (pc' := 8) rfl (hb hby d8_29) (by decide) (by decide) (XS.iload X9.here hx rfl (hb hby d8_8) rfl (XS.iloadN X9.here hx rfl (hb hby d8_10) rfl (XS.icmpYes X9.here hx rfl (pc0 := 11) (pc' := 32) rfl (hb hby d8_11) rfl (flt (by decide : ¬ ((4 : Int32) < (4 : Int32)))).2.1 (by decide) (by decide) k)))))) ?_
  show G T9 (mkF m 32 #[rv a1, iv 4, iv 4, rv b1, iv 4] [])
  refine gb (fun _ k => XS.aloadN X9.here hx rfl (hb hby d8_32) rfl rfl k) ?_
  show G T9 (mkF m 33 #[rv a1, iv 4, iv 4, rv b1, iv 4] [.ref b1])
  exact go X9 (v := (some (.ref b1))) (fun h => by rw [Bd.returns] at h; cases h) (fun fs hr => retOut X9 hx Bd.returns rfl (Or.inr (Or.inr (Or.inr (Or.inr ⟨rfl, rfl, rfl⟩)))) (hb hby d8_33) hr) (by rw [e9]; exact ⟨_, _, rfl, N, K, g_b1, sz_b1, V_b1⟩) (by decide) (by decide)
def Q_rmG0 (Z : State) (a1 : Addr) (k1 : ClassId) (c0 c1 c2 c3 : Int32) (h0 : Heap) (n0 : Nat) : Option Value → Heap → List Loc → Prop := fun v h L => v = some (.int c0) ∧ L = [] ∧ h = h0
set_option maxRecDepth 65536 in
set_option maxHeartbeats 40000000 in
theorem rmG0 (l : Launch) (Z : State) (a0 : Array Value) (hw : ∀ d ∈ tables_1, d.before a0 Z = true) (ws : List Jvm.Cond) (a1 : Addr) (k1 : ClassId) (c0 c1 c2 c3 : Int32) (h0 : Heap) (n0 : Nat) (O : Old Z n0 h0) (S_ad : Sta Z Z.heap "java/lang/StringUTF16" "$assertionsDisabled" "Z" (.int (1 : Int32))) (S_hi : Sta Z Z.heap "java/lang/StringUTF16" "HI_BYTE_SHIFT" "I" (.int (0 : Int32))) (S_lo : Sta Z Z.heap "java/lang/StringUTF16" "LO_BYTE_SHIFT" "I" (.int (8 : Int32))) (V_a1 : Arv Z h0 a1 k1 .byte (8 : Int32) [(.int (nar .byte ((c0 >>> ((0 : Int32) &&& 31)).toInt8.toInt32))), (.int (nar .byte ((c0 >>> ((8 : Int32) &&& 31)).toInt8.toInt32))), (.int (nar .byte ((c1 >>> ((0 : Int32) &&& 31)).toInt8.toInt32))), (.int (nar .byte ((c1 >>> ((8 : Int32) &&& 31)).toInt8.toInt32))), (.int (nar .byte ((c2 >>> ((0 : Int32) &&& 31)).toInt8.toInt32))), (.int (nar .byte ((c2 >>> ((8 : Int32) &&& 31)).toInt8.toInt32))), (.int (nar .byte ((c3 >>> ((0 : Int32) &&& 31)).toInt8.toInt32))), (.int (nar .byte ((c3 >>> ((8 : Int32) &&& 31)).toInt8.toInt32)))] (.int (0 : Int32))) (hg0 : ¬ c0 < (0 : Int32)) (hh0 : ¬ (65535 : Int32) < c0) (hg1 : ¬ c1 < (0 : Int32)) (hh1 : ¬ (65535 : Int32) < c1) (hg2 : ¬ c2 < (0 : Int32)) (hh2 : ¬ (65535 : Int32) < c2) (hg3 : ¬ c3 < (0 : Int32)) (hh3 : ¬ (65535 : Int32) < c3) :
    MetFree l (⟨"java/lang/StringUTF16", "getChar", "([BI)C"⟩ : MethodName) (head1 (Jvm.Cond.code (⟨"java/lang/StringUTF16", "getChar", "([BI)C"⟩ : MethodName) jdk_52_method_5_code 2 (some .char) :: ws) ({ frames := 0, cells := 0, slots := 0, locals := 0 } : Room)) (fun a U => a = #[(.ref a1), (.int (0 : Int32))] ∧ Z.Warmed39 U.vm ∧ U.heap = h0) (fun _ _ _ _ _ => True) (fun _ U o U' => ∃ v L, o = .returned v ∧ (Q_rmG0 Z a1 k1 c0 c1 c2 c3 h0 n0) v U'.heap L ∧ FrameEnd U o U' L ({ frames := 0, cells := 0, slots := 0, locals := 0 } : Room).cells ({ frames := 0, cells := 0, slots := 0, locals := 0 } : Room).slots) := by
  refine MetFree.of_bodySF (plainFor_of_name pn_0) hisR ?_
  intro p e s m args below meth c s₁ Bd hml0 hP hK
  obtain ⟨rfl, hZ, hh⟩ := hP
  have hx := Bd.exec
  have hby := Bd.bytes
  have hml : c.maxLocals = 2 := hml0
  have hown : s.vm.findClass "java/lang/StringUTF16" = some m.cls := findClass_of_methodNamed Bd.named
  have hnm := (name_of_methodNamed Bd.named Bd.method).1
  have hlk := BodyLoose.notSynchronized Bd
  have X0 : Stand p l e ({ frames := 0, cells := 0, slots := 0, locals := 0 } : Room) s m #[(.ref a1), (.int (0 : Int32))] below meth c s₁ [] 0 0 := Stand.of_body Bd
  have e0 : s₁.heap = h0 := by rw [← hh, Bd.state]; rfl
  have N := Fr.nil n0
  obtain ⟨G, hG⟩ : ∃ G : State → JFrame → Prop, G = OwnG p e below s ({ frames := 0, cells := 0, slots := 0, locals := 0 } : Room).cells ({ frames := 0, cells := 0, slots := 0, locals := 0 } : Room).slots (Q_rmG0 Z a1 k1 c0 c1 c2 c3 h0 n0) := ⟨_, rfl⟩
  have gb : ∀ {T T' : State} {g g' : JFrame}, (∀ t, Steps p.tables e below (T'.setTop g') t → Steps p.tables e below (T.setTop g) t) → G T' g' → G T g := by subst hG; exact fun k h => own_by k h
  have go : ∀ {T : State} {locs : List Loc} {cells slots : Nat} {g : JFrame} {v : Option Value}, Stand p l e ({ frames := 0, cells := 0, slots := 0, locals := 0 } : Room) s m #[(.ref a1), (.int (0 : Int32))] below meth c T locs cells slots → (meth.sig.returnType = none → v = none) → (∀ fs, (∀ (f : JFrame) (acts : List Action), f.method = m → f.locked = none → f.entered = [] → (doReturn e (T.setTop f) acts v).1 = T.setFrames fs) → Steps p.tables e below (T.setTop g) (T.setFrames fs)) → (Q_rmG0 Z a1 k1 c0 c1 c2 c3 h0 n0) v T.heap locs → cells ≤ ({ frames := 0, cells := 0, slots := 0, locals := 0 } : Room).cells → slots ≤ ({ frames := 0, cells := 0, slots := 0, locals := 0 } : Room).slots → G T g := by subst hG; exact fun X h1 h2 h3 h4 h5 => own_out X hlk h1 h2 h3 h4 h5
  show OwnG p e below s ({ frames := 0, cells := 0, slots := 0, locals := 0 } : Room).cells ({ frames := 0, cells := 0, slots := 0, locals := 0 } : Room).slots (Q_rmG0 Z a1 k1 c0 c1 c2 c3 h0 n0) s₁ (entryFrame m #[(.ref a1), (.int (0 : Int32))] 2)
  rw [← hG, ef_rmG0 m a1 (0 : Int32)]
  clear hG
  show G s₁ (mkF m 0 #[.val (.ref a1), .val (.int (0 : Int32))] [])
  obtain ⟨T1, X1, e1, st1⟩ := getS2 X0 hx hZ hown (host := "") (Or.inl (ow hw 49 rfl)) Via.refl e0 (S_ad.ext O.2) (g := (mkF m 0 #[rv a1, iv 0] [])) rfl (hb hby d12_0)
  refine gb st1 ?_
  show G T1 (mkF m 3 #[rv a1, iv 0] [.int 1])
  refine gb (fun _ k => XS.ifYes X1.here hx rfl (pc0 := 3) (pc' := 28) rfl (hb hby d12_3) rfl ((if0 _ _).trans (feq (by decide : ¬ ((1 : Int32) = (0 : Int32)))).2) (by decide) (by decide) (XS.iloadN X1.here hx rfl (hb hby d12_28) rfl (XS.iconst X1.here hx rfl (hb hby d12_29) (XS.ishl X1.here hx rfl (hb hby d12_30) rfl (XS.istoreN X1.here hx rfl (hb hby d12_31) rfl (l' := #[rv a1, iv 0]) rfl (XS.aloadN X1.here hx rfl (hb hby d12_32) rfl rfl k)))))) ?_
  show G T1 (mkF m 33 #[rv a1, iv 0] [.ref a1])
  refine gb (fun _ k => XS.iloadN X1.here hx rfl (hb hby d12_33) rfl (XS.iinc X1.here hx rfl (hb hby d12_34) rfl (l' := #[rv a1, iv 1]) rfl k)) ?_
  show G T1 (mkF m 37 #[rv a1, iv 1] [.int 0, .ref a1])
  have V'2 := V_a1
  obtain ⟨cl2, Ar2, qk2, sz2, nn2, hs2, ft2⟩ := V'2
  have hin2 : ¬ ((0 : Int32) < 0 ∨ cl2.slots.size ≤ ((0 : Int32)).toNatClampNeg) := inb_of sz2 ⟨by decide, by decide⟩
  have hat2 : cl2.slots[((0 : Int32)).toNatClampNeg]? = some (.int (nar .byte ((c0 >>> ((0 : Int32) &&& 31)).toInt8.toInt32))) := hs2.at hin2 rfl
  refine gb (X1.baloadBytes hx (j := (0 : Int32)) (v := (.int (nar .byte ((c0 >>> ((0 : Int32) &&& 31)).toInt8.toInt32)))) (by rw [e1]; exact Ar2.1) (State.isArrayOf_alike hZ.alike Ar2.2.1) Ar2.2.2 hin2 hat2 (g := (mkF m 37 #[rv a1, iv 1] [.int 0, .ref a1])) rfl rfl (hb hby d12_37)) ?_
  show G T1 (mkF m 38 #[rv a1, iv 1] [.int (nar .byte ((c0 >>> ((0 : Int32) &&& 31)).toInt8.toInt32))])
  refine gb (fun _ k => XS.sipush X1.here hx rfl (hb hby d12_38) (XS.iand X1.here hx rfl (hb hby d12_41) rfl k)) ?_
  show G T1 (mkF m 42 #[rv a1, iv 1] [.int ((nar .byte ((c0 >>> ((0 : Int32) &&& 31)).toInt8.toInt32)) &&& (255 : Int32))])
  obtain ⟨T3, X3, e3, st3⟩ := getS2 X1 hx hZ hown (host := "") (Or.inl (ow hw 50 rfl)) Via.refl e1 (S_hi.ext O.2) (g := (mkF m 42 #[rv a1, iv 1] [.int ((nar .byte ((c0 >>> ((0 : Int32) &&& 31)).toInt8.toInt32)) &&& (255 : Int32))])) rfl (hb hby d12_42)
  refine gb st3 ?_
  show G T3 (mkF m 45 #[rv a1, iv 1] [.int 0, .int ((nar .byte ((c0 >>> ((0 : Int32) &&& 31)).toInt8.toInt32)) &&& (255 : Int32))])
  refine gb (fun _ k => XS.ishl X3.here hx rfl (hb hby d12_45) rfl (XS.aloadN X3.here hx rfl (hb hby d12_46) rfl rfl (XS.iloadN X3.here hx rfl (hb hby d12_47) rfl k))) ?_
  show G T3 (mkF m 48 #[rv a1, iv 1] [.int 1, .ref a1, .int (((nar .byte ((c0 >>> ((0 : Int32) &&& 31)).toInt8.toInt32)) &&& (255 : Int32)) <<< ((0 : Int32) &&& 31))])
  have V'4 := V_a1
  obtain ⟨cl4, Ar4, qk4, sz4, nn4, hs4, ft4⟩ := V'4
  have hin4 : ¬ ((1 : Int32) < 0 ∨ cl4.slots.size ≤ ((1 : Int32)).toNatClampNeg) := inb_of sz4 ⟨by decide, by decide⟩
  have hat4 : cl4.slots[((1 : Int32)).toNatClampNeg]? = some (.int (nar .byte ((c0 >>> ((8 : Int32) &&& 31)).toInt8.toInt32))) := hs4.at hin4 rfl
  refine gb (X3.baloadBytes hx (j := (1 : Int32)) (v := (.int (nar .byte ((c0 >>> ((8 : Int32) &&& 31)).toInt8.toInt32)))) (by rw [e3]; exact Ar4.1) (State.isArrayOf_alike hZ.alike Ar4.2.1) Ar4.2.2 hin4 hat4 (g := (mkF m 48 #[rv a1, iv 1] [.int 1, .ref a1, .int (((nar .byte ((c0 >>> ((0 : Int32) &&& 31)).toInt8.toInt32)) &&& (255 : Int32)) <<< ((0 : Int32) &&& 31))])) rfl rfl (hb hby d12_48)) ?_
  show G T3 (mkF m 49 #[rv a1, iv 1] [.int (nar .byte ((c0 >>> ((8 : Int32) &&& 31)).toInt8.toInt32)), .int (((nar .byte ((c0 >>> ((0 : Int32) &&& 31)).toInt8.toInt32)) &&& (255 : Int32)) <<< ((0 : Int32) &&& 31))])
  refine gb (fun _ k => XS.sipush X3.here hx rfl (hb hby d12_49) (XS.iand X3.here hx rfl (hb hby d12_52) rfl k)) ?_
  show G T3 (mkF m 53 #[rv a1, iv 1] [.int ((nar .byte ((c0 >>> ((8 : Int32) &&& 31)).toInt8.toInt32)) &&& (255 : Int32)), .int (((nar .byte ((c0 >>> ((0 : Int32) &&& 31)).toInt8.toInt32)) &&& (255 : Int32)) <<< ((0 : Int32) &&& 31))])
  obtain ⟨T5, X5, e5, st5⟩ := getS2 X3 hx hZ hown (host := "") (Or.inl (ow hw 51 rfl)) Via.refl e3 (S_lo.ext O.2) (g := (mkF m 53 #[rv a1, iv 1] [.int ((nar .byte ((c0 >>> ((8 : Int32) &&& 31)).toInt8.toInt32)) &&& (255 : Int32)), .int (((nar .byte ((c0 >>> ((0 : Int32) &&& 31)).toInt8.toInt32)) &&& (255 : Int32)) <<< ((0 : Int32) &&& 31))])) rfl (hb hby d12_53)
  refine gb st5 ?_
  show G T5 (mkF m 56 #[rv a1, iv 1] [.int 8, .int ((nar .byte ((c0 >>> ((8 : Int32) &&& 31)).toInt8.toInt32)) &&& (255 : Int32)), .int (((nar .byte ((c0 >>> ((0 : Int32) &&& 31)).toInt8.toInt32)) &&& (255 : Int32)) <<< ((0 : Int32) &&& 31))])
  refine gb (fun _ k => XS.ishl X5.here hx rfl (hb hby d12_56) rfl (XS.ior X5.here hx rfl (hb hby d12_57) rfl (XS.i2c X5.here hx rfl (hb hby d12_58) rfl k))) ?_
  show G T5 (mkF m 59 #[rv a1, iv 1] [.int (((((nar .byte ((c0 >>> ((0 : Int32) &&& 31)).toInt8.toInt32)) &&& (255 : Int32)) <<< ((0 : Int32) &&& 31)) ||| (((nar .byte ((c0 >>> ((8 : Int32) &&& 31)).toInt8.toInt32)) &&& (255 : Int32)) <<< ((8 : Int32) &&& 31))).toUInt32.toUInt16.toUInt32.toInt32)])
  rw [own_gc hg0 hh0]
  show G T5 (mkF m 59 #[rv a1, iv 1] [.int c0])
  exact go X5 (v := (some (.int c0))) (fun h => by rw [Bd.returns] at h; cases h) (fun fs hr => retOut X5 hx Bd.returns (show narrow .char (.int c0) = .int c0 from congrArg Value.int (own_nc16 hg0 hh0)) (Or.inl ⟨rfl, by simp, _, rfl⟩) (hb hby d12_59) hr) (⟨rfl, rfl, e5⟩) (by decide) (by decide)
def Q_rmG1 (Z : State) (a1 : Addr) (k1 : ClassId) (c0 c1 c2 c3 : Int32) (h0 : Heap) (n0 : Nat) : Option Value → Heap → List Loc → Prop := fun v h L => v = some (.int c1) ∧ L = [] ∧ h = h0
set_option maxRecDepth 65536 in
set_option maxHeartbeats 40000000 in
theorem rmG1 (l : Launch) (Z : State) (a0 : Array Value) (hw : ∀ d ∈ tables_1, d.before a0 Z = true) (ws : List Jvm.Cond) (a1 : Addr) (k1 : ClassId) (c0 c1 c2 c3 : Int32) (h0 : Heap) (n0 : Nat) (O : Old Z n0 h0) (S_ad : Sta Z Z.heap "java/lang/StringUTF16" "$assertionsDisabled" "Z" (.int (1 : Int32))) (S_hi : Sta Z Z.heap "java/lang/StringUTF16" "HI_BYTE_SHIFT" "I" (.int (0 : Int32))) (S_lo : Sta Z Z.heap "java/lang/StringUTF16" "LO_BYTE_SHIFT" "I" (.int (8 : Int32))) (V_a1 : Arv Z h0 a1 k1 .byte (8 : Int32) [(.int (nar .byte ((c0 >>> ((0 : Int32) &&& 31)).toInt8.toInt32))), (.int (nar .byte ((c0 >>> ((8 : Int32) &&& 31)).toInt8.toInt32))), (.int (nar .byte ((c1 >>> ((0 : Int32) &&& 31)).toInt8.toInt32))), (.int (nar .byte ((c1 >>> ((8 : Int32) &&& 31)).toInt8.toInt32))), (.int (nar .byte ((c2 >>> ((0 : Int32) &&& 31)).toInt8.toInt32))), (.int (nar .byte ((c2 >>> ((8 : Int32) &&& 31)).toInt8.toInt32))), (.int (nar .byte ((c3 >>> ((0 : Int32) &&& 31)).toInt8.toInt32))), (.int (nar .byte ((c3 >>> ((8 : Int32) &&& 31)).toInt8.toInt32)))] (.int (0 : Int32))) (hg0 : ¬ c0 < (0 : Int32)) (hh0 : ¬ (65535 : Int32) < c0) (hg1 : ¬ c1 < (0 : Int32)) (hh1 : ¬ (65535 : Int32) < c1) (hg2 : ¬ c2 < (0 : Int32)) (hh2 : ¬ (65535 : Int32) < c2) (hg3 : ¬ c3 < (0 : Int32)) (hh3 : ¬ (65535 : Int32) < c3) :
    MetFree l (⟨"java/lang/StringUTF16", "getChar", "([BI)C"⟩ : MethodName) (head1 (Jvm.Cond.code (⟨"java/lang/StringUTF16", "getChar", "([BI)C"⟩ : MethodName) jdk_52_method_5_code 2 (some .char) :: ws) ({ frames := 0, cells := 0, slots := 0, locals := 0 } : Room)) (fun a U => a = #[(.ref a1), (.int (1 : Int32))] ∧ Z.Warmed39 U.vm ∧ U.heap = h0) (fun _ _ _ _ _ => True) (fun _ U o U' => ∃ v L, o = .returned v ∧ (Q_rmG1 Z a1 k1 c0 c1 c2 c3 h0 n0) v U'.heap L ∧ FrameEnd U o U' L ({ frames := 0, cells := 0, slots := 0, locals := 0 } : Room).cells ({ frames := 0, cells := 0, slots := 0, locals := 0 } : Room).slots) := by
  refine MetFree.of_bodySF (plainFor_of_name pn_0) hisR ?_
  intro p e s m args below meth c s₁ Bd hml0 hP hK
  obtain ⟨rfl, hZ, hh⟩ := hP
  have hx := Bd.exec
  have hby := Bd.bytes
  have hml : c.maxLocals = 2 := hml0
  have hown : s.vm.findClass "java/lang/StringUTF16" = some m.cls := findClass_of_methodNamed Bd.named
  have hnm := (name_of_methodNamed Bd.named Bd.method).1
  have hlk := BodyLoose.notSynchronized Bd
  have X0 : Stand p l e ({ frames := 0, cells := 0, slots := 0, locals := 0 } : Room) s m #[(.ref a1), (.int (1 : Int32))] below meth c s₁ [] 0 0 := Stand.of_body Bd
  have e0 : s₁.heap = h0 := by rw [← hh, Bd.state]; rfl
  have N := Fr.nil n0
  obtain ⟨G, hG⟩ : ∃ G : State → JFrame → Prop, G = OwnG p e below s ({ frames := 0, cells := 0, slots := 0, locals := 0 } : Room).cells ({ frames := 0, cells := 0, slots := 0, locals := 0 } : Room).slots (Q_rmG1 Z a1 k1 c0 c1 c2 c3 h0 n0) := ⟨_, rfl⟩
  have gb : ∀ {T T' : State} {g g' : JFrame}, (∀ t, Steps p.tables e below (T'.setTop g') t → Steps p.tables e below (T.setTop g) t) → G T' g' → G T g := by subst hG; exact fun k h => own_by k h
  have go : ∀ {T : State} {locs : List Loc} {cells slots : Nat} {g : JFrame} {v : Option Value}, Stand p l e ({ frames := 0, cells := 0, slots := 0, locals := 0 } : Room) s m #[(.ref a1), (.int (1 : Int32))] below meth c T locs cells slots → (meth.sig.returnType = none → v = none) → (∀ fs, (∀ (f : JFrame) (acts : List Action), f.method = m → f.locked = none → f.entered = [] → (doReturn e (T.setTop f) acts v).1 = T.setFrames fs) → Steps p.tables e below (T.setTop g) (T.setFrames fs)) → (Q_rmG1 Z a1 k1 c0 c1 c2 c3 h0 n0) v T.heap locs → cells ≤ ({ frames := 0, cells := 0, slots := 0, locals := 0 } : Room).cells → slots ≤ ({ frames := 0, cells := 0, slots := 0, locals := 0 } : Room).slots → G T g := by subst hG; exact fun X h1 h2 h3 h4 h5 => own_out X hlk h1 h2 h3 h4 h5
  show OwnG p e below s ({ frames := 0, cells := 0, slots := 0, locals := 0 } : Room).cells ({ frames := 0, cells := 0, slots := 0, locals := 0 } : Room).slots (Q_rmG1 Z a1 k1 c0 c1 c2 c3 h0 n0) s₁ (entryFrame m #[(.ref a1), (.int (1 : Int32))] 2)
  rw [← hG, ef_rmG1 m a1 (1 : Int32)]
  clear hG
  show G s₁ (mkF m 0 #[.val (.ref a1), .val (.int (1 : Int32))] [])
  obtain ⟨T1, X1, e1, st1⟩ := getS2 X0 hx hZ hown (host := "") (Or.inl (ow hw 49 rfl)) Via.refl e0 (S_ad.ext O.2) (g := (mkF m 0 #[rv a1, iv 1] [])) rfl (hb hby d12_0)
  refine gb st1 ?_
  show G T1 (mkF m 3 #[rv a1, iv 1] [.int 1])
  refine gb (fun _ k => XS.ifYes X1.here hx rfl (pc0 := 3) (pc' := 28) rfl (hb hby d12_3) rfl ((if0 _ _).trans (feq (by decide : ¬ ((1 : Int32) = (0 : Int32)))).2) (by decide) (by decide) (XS.iloadN X1.here hx rfl (hb hby d12_28) rfl (XS.iconst X1.here hx rfl (hb hby d12_29) (XS.ishl X1.here hx rfl (hb hby d12_30) rfl (XS.istoreN X1.here hx rfl (hb hby d12_31) rfl (l' := #[rv a1, iv 2]) rfl (XS.aloadN X1.here hx rfl (hb hby d12_32) rfl rfl k)))))) ?_
  show G T1 (mkF m 33 #[rv a1, iv 2] [.ref a1])
  refine gb (fun _ k => XS.iloadN X1.here hx rfl (hb hby d12_33) rfl (XS.iinc X1.here hx rfl (hb hby d12_34) rfl (l' := #[rv a1, iv 3]) rfl k)) ?_
  show G T1 (mkF m 37 #[rv a1, iv 3] [.int 2, .ref a1])
  have V'2 := V_a1
  obtain ⟨cl2, Ar2, qk2, sz2, nn2, hs2, ft2⟩ := V'2
  have hin2 : ¬ ((2 : Int32) < 0 ∨ cl2.slots.size ≤ ((2 : Int32)).toNatClampNeg) := inb_of sz2 ⟨by decide, by decide⟩
  have hat2 : cl2.slots[((2 : Int32)).toNatClampNeg]? = some (.int (nar .byte ((c1 >>> ((0 : Int32) &&& 31)).toInt8.toInt32))) := hs2.at hin2 rfl
  refine gb (X1.baloadBytes hx (j := (2 : Int32)) (v := (.int (nar .byte ((c1 >>> ((0 : Int32) &&& 31)).toInt8.toInt32)))) (by rw [e1]; exact Ar2.1) (State.isArrayOf_alike hZ.alike Ar2.2.1) Ar2.2.2 hin2 hat2 (g := (mkF m 37 #[rv a1, iv 3] [.int 2, .ref a1])) rfl rfl (hb hby d12_37)) ?_
  show G T1 (mkF m 38 #[rv a1, iv 3] [.int (nar .byte ((c1 >>> ((0 : Int32) &&& 31)).toInt8.toInt32))])
  refine gb (fun _ k => XS.sipush X1.here hx rfl (hb hby d12_38) (XS.iand X1.here hx rfl (hb hby d12_41) rfl k)) ?_
  show G T1 (mkF m 42 #[rv a1, iv 3] [.int ((nar .byte ((c1 >>> ((0 : Int32) &&& 31)).toInt8.toInt32)) &&& (255 : Int32))])
  obtain ⟨T3, X3, e3, st3⟩ := getS2 X1 hx hZ hown (host := "") (Or.inl (ow hw 50 rfl)) Via.refl e1 (S_hi.ext O.2) (g := (mkF m 42 #[rv a1, iv 3] [.int ((nar .byte ((c1 >>> ((0 : Int32) &&& 31)).toInt8.toInt32)) &&& (255 : Int32))])) rfl (hb hby d12_42)
  refine gb st3 ?_
  show G T3 (mkF m 45 #[rv a1, iv 3] [.int 0, .int ((nar .byte ((c1 >>> ((0 : Int32) &&& 31)).toInt8.toInt32)) &&& (255 : Int32))])
  refine gb (fun _ k => XS.ishl X3.here hx rfl (hb hby d12_45) rfl (XS.aloadN X3.here hx rfl (hb hby d12_46) rfl rfl (XS.iloadN X3.here hx rfl (hb hby d12_47) rfl k))) ?_
  show G T3 (mkF m 48 #[rv a1, iv 3] [.int 3, .ref a1, .int (((nar .byte ((c1 >>> ((0 : Int32) &&& 31)).toInt8.toInt32)) &&& (255 : Int32)) <<< ((0 : Int32) &&& 31))])
  have V'4 := V_a1
  obtain ⟨cl4, Ar4, qk4, sz4, nn4, hs4, ft4⟩ := V'4
  have hin4 : ¬ ((3 : Int32) < 0 ∨ cl4.slots.size ≤ ((3 : Int32)).toNatClampNeg) := inb_of sz4 ⟨by decide, by decide⟩
  have hat4 : cl4.slots[((3 : Int32)).toNatClampNeg]? = some (.int (nar .byte ((c1 >>> ((8 : Int32) &&& 31)).toInt8.toInt32))) := hs4.at hin4 rfl
  refine gb (X3.baloadBytes hx (j := (3 : Int32)) (v := (.int (nar .byte ((c1 >>> ((8 : Int32) &&& 31)).toInt8.toInt32)))) (by rw [e3]; exact Ar4.1) (State.isArrayOf_alike hZ.alike Ar4.2.1) Ar4.2.2 hin4 hat4 (g := (mkF m 48 #[rv a1, iv 3] [.int 3, .ref a1, .int (((nar .byte ((c1 >>> ((0 : Int32) &&& 31)).toInt8.toInt32)) &&& (255 : Int32)) <<< ((0 : Int32) &&& 31))])) rfl rfl (hb hby d12_48)) ?_
  show G T3 (mkF m 49 #[rv a1, iv 3] [.int (nar .byte ((c1 >>> ((8 : Int32) &&& 31)).toInt8.toInt32)), .int (((nar .byte ((c1 >>> ((0 : Int32) &&& 31)).toInt8.toInt32)) &&& (255 : Int32)) <<< ((0 : Int32) &&& 31))])
  refine gb (fun _ k => XS.sipush X3.here hx rfl (hb hby d12_49) (XS.iand X3.here hx rfl (hb hby d12_52) rfl k)) ?_
  show G T3 (mkF m 53 #[rv a1, iv 3] [.int ((nar .byte ((c1 >>> ((8 : Int32) &&& 31)).toInt8.toInt32)) &&& (255 : Int32)), .int (((nar .byte ((c1 >>> ((0 : Int32) &&& 31)).toInt8.toInt32)) &&& (255 : Int32)) <<< ((0 : Int32) &&& 31))])
  obtain ⟨T5, X5, e5, st5⟩ := getS2 X3 hx hZ hown (host := "") (Or.inl (ow hw 51 rfl)) Via.refl e3 (S_lo.ext O.2) (g := (mkF m 53 #[rv a1, iv 3] [.int ((nar .byte ((c1 >>> ((8 : Int32) &&& 31)).toInt8.toInt32)) &&& (255 : Int32)), .int (((nar .byte ((c1 >>> ((0 : Int32) &&& 31)).toInt8.toInt32)) &&& (255 : Int32)) <<< ((0 : Int32) &&& 31))])) rfl (hb hby d12_53)
  refine gb st5 ?_
  show G T5 (mkF m 56 #[rv a1, iv 3] [.int 8, .int ((nar .byte ((c1 >>> ((8 : Int32) &&& 31)).toInt8.toInt32)) &&& (255 : Int32)), .int (((nar .byte ((c1 >>> ((0 : Int32) &&& 31)).toInt8.toInt32)) &&& (255 : Int32)) <<< ((0 : Int32) &&& 31))])
  refine gb (fun _ k => XS.ishl X5.here hx rfl (hb hby d12_56) rfl (XS.ior X5.here hx rfl (hb hby d12_57) rfl (XS.i2c X5.here hx rfl (hb hby d12_58) rfl k))) ?_
  show G T5 (mkF m 59 #[rv a1, iv 3] [.int (((((nar .byte ((c1 >>> ((0 : Int32) &&& 31)).toInt8.toInt32)) &&& (255 : Int32)) <<< ((0 : Int32) &&& 31)) ||| (((nar .byte ((c1 >>> ((8 : Int32) &&& 31)).toInt8.toInt32)) &&& (255 : Int32)) <<< ((8 : Int32) &&& 31))).toUInt32.toUInt16.toUInt32.toInt32)])
  rw [own_gc hg1 hh1]
  show G T5 (mkF m 59 #[rv a1, iv 3] [.int c1])
  exact go X5 (v := (some (.int c1))) (fun h => by rw [Bd.returns] at h; cases h) (fun fs hr => retOut X5 hx Bd.returns (show narrow .char (.int c1) = .int c1 from congrArg Value.int (own_nc16 hg1 hh1)) (Or.inl ⟨rfl, by simp, _, rfl⟩) (hb hby d12_59) hr) (⟨rfl, rfl, e5⟩) (by decide) (by decide)
def Q_rmG2 (Z : State) (a1 : Addr) (k1 : ClassId) (c0 c1 c2 c3 : Int32) (h0 : Heap) (n0 : Nat) : Option Value → Heap → List Loc → Prop := fun v h L => v = some (.int c2) ∧ L = [] ∧ h = h0
set_option maxRecDepth 65536 in
set_option maxHeartbeats 40000000 in
theorem rmG2 (l : Launch) (Z : State) (a0 : Array Value) (hw : ∀ d ∈ tables_1, d.before a0 Z = true) (ws : List Jvm.Cond) (a1 : Addr) (k1 : ClassId) (c0 c1 c2 c3 : Int32) (h0 : Heap) (n0 : Nat) (O : Old Z n0 h0) (S_ad : Sta Z Z.heap "java/lang/StringUTF16" "$assertionsDisabled" "Z" (.int (1 : Int32))) (S_hi : Sta Z Z.heap "java/lang/StringUTF16" "HI_BYTE_SHIFT" "I" (.int (0 : Int32))) (S_lo : Sta Z Z.heap "java/lang/StringUTF16" "LO_BYTE_SHIFT" "I" (.int (8 : Int32))) (V_a1 : Arv Z h0 a1 k1 .byte (8 : Int32) [(.int (nar .byte ((c0 >>> ((0 : Int32) &&& 31)).toInt8.toInt32))), (.int (nar .byte ((c0 >>> ((8 : Int32) &&& 31)).toInt8.toInt32))), (.int (nar .byte ((c1 >>> ((0 : Int32) &&& 31)).toInt8.toInt32))), (.int (nar .byte ((c1 >>> ((8 : Int32) &&& 31)).toInt8.toInt32))), (.int (nar .byte ((c2 >>> ((0 : Int32) &&& 31)).toInt8.toInt32))), (.int (nar .byte ((c2 >>> ((8 : Int32) &&& 31)).toInt8.toInt32))), (.int (nar .byte ((c3 >>> ((0 : Int32) &&& 31)).toInt8.toInt32))), (.int (nar .byte ((c3 >>> ((8 : Int32) &&& 31)).toInt8.toInt32)))] (.int (0 : Int32))) (hg0 : ¬ c0 < (0 : Int32)) (hh0 : ¬ (65535 : Int32) < c0) (hg1 : ¬ c1 < (0 : Int32)) (hh1 : ¬ (65535 : Int32) < c1) (hg2 : ¬ c2 < (0 : Int32)) (hh2 : ¬ (65535 : Int32) < c2) (hg3 : ¬ c3 < (0 : Int32)) (hh3 : ¬ (65535 : Int32) < c3) :
    MetFree l (⟨"java/lang/StringUTF16", "getChar", "([BI)C"⟩ : MethodName) (head1 (Jvm.Cond.code (⟨"java/lang/StringUTF16", "getChar", "([BI)C"⟩ : MethodName) jdk_52_method_5_code 2 (some .char) :: ws) ({ frames := 0, cells := 0, slots := 0, locals := 0 } : Room)) (fun a U => a = #[(.ref a1), (.int (2 : Int32))] ∧ Z.Warmed39 U.vm ∧ U.heap = h0) (fun _ _ _ _ _ => True) (fun _ U o U' => ∃ v L, o = .returned v ∧ (Q_rmG2 Z a1 k1 c0 c1 c2 c3 h0 n0) v U'.heap L ∧ FrameEnd U o U' L ({ frames := 0, cells := 0, slots := 0, locals := 0 } : Room).cells ({ frames := 0, cells := 0, slots := 0, locals := 0 } : Room).slots) := by
  refine MetFree.of_bodySF (plainFor_of_name pn_0) hisR ?_
  intro p e s m args below meth c s₁ Bd hml0 hP hK
  obtain ⟨rfl, hZ, hh⟩ := hP
  have hx := Bd.exec
  have hby := Bd.bytes
  have hml : c.maxLocals = 2 := hml0
  have hown : s.vm.findClass "java/lang/StringUTF16" = some m.cls := findClass_of_methodNamed Bd.named
  have hnm := (name_of_methodNamed Bd.named Bd.method).1
  have hlk := BodyLoose.notSynchronized Bd
  have X0 : Stand p l e ({ frames := 0, cells := 0, slots := 0, locals := 0 } : Room) s m #[(.ref a1), (.int (2 : Int32))] below meth c s₁ [] 0 0 := Stand.of_body Bd
  have e0 : s₁.heap = h0 := by rw [← hh, Bd.state]; rfl
  have N := Fr.nil n0
  obtain ⟨G, hG⟩ : ∃ G : State → JFrame → Prop, G = OwnG p e below s ({ frames := 0, cells := 0, slots := 0, locals := 0 } : Room).cells ({ frames := 0, cells := 0, slots := 0, locals := 0 } : Room).slots (Q_rmG2 Z a1 k1 c0 c1 c2 c3 h0 n0) := ⟨_, rfl⟩
  have gb : ∀ {T T' : State} {g g' : JFrame}, (∀ t, Steps p.tables e below (T'.setTop g') t → Steps p.tables e below (T.setTop g) t) → G T' g' → G T g := by subst hG; exact fun k h => own_by k h
  have go : ∀ {T : State} {locs : List Loc} {cells slots : Nat} {g : JFrame} {v : Option Value}, Stand p l e ({ frames := 0, cells := 0, slots := 0, locals := 0 } : Room) s m #[(.ref a1), (.int (2 : Int32))] below meth c T locs cells slots → (meth.sig.returnType = none → v = none) → (∀ fs, (∀ (f : JFrame) (acts : List Action), f.method = m → f.locked = none → f.entered = [] → (doReturn e (T.setTop f) acts v).1 = T.setFrames fs) → Steps p.tables e below (T.setTop g) (T.setFrames fs)) → (Q_rmG2 Z a1 k1 c0 c1 c2 c3 h0 n0) v T.heap locs → cells ≤ ({ frames := 0, cells := 0, slots := 0, locals := 0 } : Room).cells → slots ≤ ({ frames := 0, cells := 0, slots := 0, locals := 0 } : Room).slots → G T g := by subst hG; exact fun X h1 h2 h3 h4 h5 => own_out X hlk h1 h2 h3 h4 h5
  show OwnG p e below s ({ frames := 0, cells := 0, slots := 0, locals := 0 } : Room).cells ({ frames := 0, cells := 0, slots := 0, locals := 0 } : Room).slots (Q_rmG2 Z a1 k1 c0 c1 c2 c3 h0 n0) s₁ (entryFrame m #[(.ref a1), (.int (2 : Int32))] 2)
  rw [← hG, ef_rmG2 m a1 (2 : Int32)]
  clear hG
  show G s₁ (mkF m 0 #[.val (.ref a1), .val (.int (2 : Int32))] [])
  obtain ⟨T1, X1, e1, st1⟩ := getS2 X0 hx hZ hown (host := "") (Or.inl (ow hw 49 rfl)) Via.refl e0 (S_ad.ext O.2) (g := (mkF m 0 #[rv a1, iv 2] [])) rfl (hb hby d12_0)
  refine gb st1 ?_
  show G T1 (mkF m 3 #[rv a1, iv 2] [.int 1])
  refine gb (fun _ k => XS.ifYes X1.here hx rfl (pc0 := 3) (pc' := 28) rfl (hb hby d12_3) rfl ((if0 _ _).trans (feq (by decide : ¬ ((1 : Int32) = (0 : Int32)))).2) (by decide) (by decide) (XS.iloadN X1.here hx rfl (hb hby d12_28) rfl (XS.iconst X1.here hx rfl (hb hby d12_29) (XS.ishl X1.here hx rfl (hb hby d12_30) rfl (XS.istoreN X1.here hx rfl (hb hby d12_31) rfl (l' := #[rv a1, iv 4]) rfl (XS.aloadN X1.here hx rfl (hb hby d12_32) rfl rfl k)))))) ?_
  show G T1 (mkF m 33 #[rv a1, iv 4] [.ref a1])
  refine gb (fun _ k => XS.iloadN X1.here hx rfl (hb hby d12_33) rfl (XS.iinc X1.here hx rfl (hb hby d12_34) rfl (l' := #[rv a1, iv 5]) rfl k)) ?_
  show G T1 (mkF m 37 #[rv a1, iv 5] [.int 4, .ref a1])
  have V'2 := V_a1
  obtain ⟨cl2, Ar2, qk2, sz2, nn2, hs2, ft2⟩ := V'2
  have hin2 : ¬ ((4 : Int32) < 0 ∨ cl2.slots.size ≤ ((4 : Int32)).toNatClampNeg) := inb_of sz2 ⟨by decide, by decide⟩
  have hat2 : cl2.slots[((4 : Int32)).toNatClampNeg]? = some (.int (nar .byte ((c2 >>> ((0 : Int32) &&& 31)).toInt8.toInt32))) := hs2.at hin2 rfl
  refine gb (X1.baloadBytes hx (j := (4 : Int32)) (v := (.int (nar .byte ((c2 >>> ((0 : Int32) &&& 31)).toInt8.toInt32)))) (by rw [e1]; exact Ar2.1) (State.isArrayOf_alike hZ.alike Ar2.2.1) Ar2.2.2 hin2 hat2 (g := (mkF m 37 #[rv a1, iv 5] [.int 4, .ref a1])) rfl rfl (hb hby d12_37)) ?_
  show G T1 (mkF m 38 #[rv a1, iv 5] [.int (nar .byte ((c2 >>> ((0 : Int32) &&& 31)).toInt8.toInt32))])
  refine gb (fun _ k => XS.sipush X1.here hx rfl (hb hby d12_38) (XS.iand X1.here hx rfl (hb hby d12_41) rfl k)) ?_
  show G T1 (mkF m 42 #[rv a1, iv 5] [.int ((nar .byte ((c2 >>> ((0 : Int32) &&& 31)).toInt8.toInt32)) &&& (255 : Int32))])
  obtain ⟨T3, X3, e3, st3⟩ := getS2 X1 hx hZ hown (host := "") (Or.inl (ow hw 50 rfl)) Via.refl e1 (S_hi.ext O.2) (g := (mkF m 42 #[rv a1, iv 5] [.int ((nar .byte ((c2 >>> ((0 : Int32) &&& 31)).toInt8.toInt32)) &&& (255 : Int32))])) rfl (hb hby d12_42)
  refine gb st3 ?_
  show G T3 (mkF m 45 #[rv a1, iv 5] [.int 0, .int ((nar .byte ((c2 >>> ((0 : Int32) &&& 31)).toInt8.toInt32)) &&& (255 : Int32))])
  refine gb (fun _ k => XS.ishl X3.here hx rfl (hb hby d12_45) rfl (XS.aloadN X3.here hx rfl (hb hby d12_46) rfl rfl (XS.iloadN X3.here hx rfl (hb hby d12_47) rfl k))) ?_
  show G T3 (mkF m 48 #[rv a1, iv 5] [.int 5, .ref a1, .int (((nar .byte ((c2 >>> ((0 : Int32) &&& 31)).toInt8.toInt32)) &&& (255 : Int32)) <<< ((0 : Int32) &&& 31))])
  have V'4 := V_a1
  obtain ⟨cl4, Ar4, qk4, sz4, nn4, hs4, ft4⟩ := V'4
  have hin4 : ¬ ((5 : Int32) < 0 ∨ cl4.slots.size ≤ ((5 : Int32)).toNatClampNeg) := inb_of sz4 ⟨by decide, by decide⟩
  have hat4 : cl4.slots[((5 : Int32)).toNatClampNeg]? = some (.int (nar .byte ((c2 >>> ((8 : Int32) &&& 31)).toInt8.toInt32))) := hs4.at hin4 rfl
  refine gb (X3.baloadBytes hx (j := (5 : Int32)) (v := (.int (nar .byte ((c2 >>> ((8 : Int32) &&& 31)).toInt8.toInt32)))) (by rw [e3]; exact Ar4.1) (State.isArrayOf_alike hZ.alike Ar4.2.1) Ar4.2.2 hin4 hat4 (g := (mkF m 48 #[rv a1, iv 5] [.int 5, .ref a1, .int (((nar .byte ((c2 >>> ((0 : Int32) &&& 31)).toInt8.toInt32)) &&& (255 : Int32)) <<< ((0 : Int32) &&& 31))])) rfl rfl (hb hby d12_48)) ?_
  show G T3 (mkF m 49 #[rv a1, iv 5] [.int (nar .byte ((c2 >>> ((8 : Int32) &&& 31)).toInt8.toInt32)), .int (((nar .byte ((c2 >>> ((0 : Int32) &&& 31)).toInt8.toInt32)) &&& (255 : Int32)) <<< ((0 : Int32) &&& 31))])
  refine gb (fun _ k => XS.sipush X3.here hx rfl (hb hby d12_49) (XS.iand X3.here hx rfl (hb hby d12_52) rfl k)) ?_
  show G T3 (mkF m 53 #[rv a1, iv 5] [.int ((nar .byte ((c2 >>> ((8 : Int32) &&& 31)).toInt8.toInt32)) &&& (255 : Int32)), .int (((nar .byte ((c2 >>> ((0 : Int32) &&& 31)).toInt8.toInt32)) &&& (255 : Int32)) <<< ((0 : Int32) &&& 31))])
  obtain ⟨T5, X5, e5, st5⟩ := getS2 X3 hx hZ hown (host := "") (Or.inl (ow hw 51 rfl)) Via.refl e3 (S_lo.ext O.2) (g := (mkF m 53 #[rv a1, iv 5] [.int ((nar .byte ((c2 >>> ((8 : Int32) &&& 31)).toInt8.toInt32)) &&& (255 : Int32)), .int (((nar .byte ((c2 >>> ((0 : Int32) &&& 31)).toInt8.toInt32)) &&& (255 : Int32)) <<< ((0 : Int32) &&& 31))])) rfl (hb hby d12_53)
  refine gb st5 ?_
  show G T5 (mkF m 56 #[rv a1, iv 5] [.int 8, .int ((nar .byte ((c2 >>> ((8 : Int32) &&& 31)).toInt8.toInt32)) &&& (255 : Int32)), .int (((nar .byte ((c2 >>> ((0 : Int32) &&& 31)).toInt8.toInt32)) &&& (255 : Int32)) <<< ((0 : Int32) &&& 31))])
  refine gb (fun _ k => XS.ishl X5.here hx rfl (hb hby d12_56) rfl (XS.ior X5.here hx rfl (hb hby d12_57) rfl (XS.i2c X5.here hx rfl (hb hby d12_58) rfl k))) ?_
  show G T5 (mkF m 59 #[rv a1, iv 5] [.int (((((nar .byte ((c2 >>> ((0 : Int32) &&& 31)).toInt8.toInt32)) &&& (255 : Int32)) <<< ((0 : Int32) &&& 31)) ||| (((nar .byte ((c2 >>> ((8 : Int32) &&& 31)).toInt8.toInt32)) &&& (255 : Int32)) <<< ((8 : Int32) &&& 31))).toUInt32.toUInt16.toUInt32.toInt32)])
  rw [own_gc hg2 hh2]
  show G T5 (mkF m 59 #[rv a1, iv 5] [.int c2])
  exact go X5 (v := (some (.int c2))) (fun h => by rw [Bd.returns] at h; cases h) (fun fs hr => retOut X5 hx Bd.returns (show narrow .char (.int c2) = .int c2 from congrArg Value.int (own_nc16 hg2 hh2)) (Or.inl ⟨rfl, by simp, _, rfl⟩) (hb hby d12_59) hr) (⟨rfl, rfl, e5⟩) (by decide) (by decide)
def Q_rmG3 (Z : State) (a1 : Addr) (k1 : ClassId) (c0 c1 c2 c3 : Int32) (h0 : Heap) (n0 : Nat) : Option Value → Heap → List Loc → Prop := fun v h L => v = some (.int c3) ∧ L = [] ∧ h = h0
set_option maxRecDepth 65536 in
set_option maxHeartbeats 40000000 in
theorem rmG3 (l : Launch) (Z : State) (a0 : Array Value) (hw : ∀ d ∈ tables_1, d.before a0 Z = true) (ws : List Jvm.Cond) (a1 : Addr) (k1 : ClassId) (c0 c1 c2 c3 : Int32) (h0 : Heap) (n0 : Nat) (O : Old Z n0 h0) (S_ad : Sta Z Z.heap "java/lang/StringUTF16" "$assertionsDisabled" "Z" (.int (1 : Int32))) (S_hi : Sta Z Z.heap "java/lang/StringUTF16" "HI_BYTE_SHIFT" "I" (.int (0 : Int32))) (S_lo : Sta Z Z.heap "java/lang/StringUTF16" "LO_BYTE_SHIFT" "I" (.int (8 : Int32))) (V_a1 : Arv Z h0 a1 k1 .byte (8 : Int32) [(.int (nar .byte ((c0 >>> ((0 : Int32) &&& 31)).toInt8.toInt32))), (.int (nar .byte ((c0 >>> ((8 : Int32) &&& 31)).toInt8.toInt32))), (.int (nar .byte ((c1 >>> ((0 : Int32) &&& 31)).toInt8.toInt32))), (.int (nar .byte ((c1 >>> ((8 : Int32) &&& 31)).toInt8.toInt32))), (.int (nar .byte ((c2 >>> ((0 : Int32) &&& 31)).toInt8.toInt32))), (.int (nar .byte ((c2 >>> ((8 : Int32) &&& 31)).toInt8.toInt32))), (.int (nar .byte ((c3 >>> ((0 : Int32) &&& 31)).toInt8.toInt32))), (.int (nar .byte ((c3 >>> ((8 : Int32) &&& 31)).toInt8.toInt32)))] (.int (0 : Int32))) (hg0 : ¬ c0 < (0 : Int32)) (hh0 : ¬ (65535 : Int32) < c0) (hg1 : ¬ c1 < (0 : Int32)) (hh1 : ¬ (65535 : Int32) < c1) (hg2 : ¬ c2 < (0 : Int32)) (hh2 : ¬ (65535 : Int32) < c2) (hg3 : ¬ c3 < (0 : Int32)) (hh3 : ¬ (65535 : Int32) < c3) :
    MetFree l (⟨"java/lang/StringUTF16", "getChar", "([BI)C"⟩ : MethodName) (head1 (Jvm.Cond.code (⟨"java/lang/StringUTF16", "getChar", "([BI)C"⟩ : MethodName) jdk_52_method_5_code 2 (some .char) :: ws) ({ frames := 0, cells := 0, slots := 0, locals := 0 } : Room)) (fun a U => a = #[(.ref a1), (.int (3 : Int32))] ∧ Z.Warmed39 U.vm ∧ U.heap = h0) (fun _ _ _ _ _ => True) (fun _ U o U' => ∃ v L, o = .returned v ∧ (Q_rmG3 Z a1 k1 c0 c1 c2 c3 h0 n0) v U'.heap L ∧ FrameEnd U o U' L ({ frames := 0, cells := 0, slots := 0, locals := 0 } : Room).cells ({ frames := 0, cells := 0, slots := 0, locals := 0 } : Room).slots) := by
  refine MetFree.of_bodySF (plainFor_of_name pn_0) hisR ?_
  intro p e s m args below meth c s₁ Bd hml0 hP hK
  obtain ⟨rfl, hZ, hh⟩ := hP
  have hx := Bd.exec
  have hby := Bd.bytes
  have hml : c.maxLocals = 2 := hml0
  have hown : s.vm.findClass "java/lang/StringUTF16" = some m.cls := findClass_of_methodNamed Bd.named
  have hnm := (name_of_methodNamed Bd.named Bd.method).1
  have hlk := BodyLoose.notSynchronized Bd
  have X0 : Stand p l e ({ frames := 0, cells := 0, slots := 0, locals := 0 } : Room) s m #[(.ref a1), (.int (3 : Int32))] below meth c s₁ [] 0 0 := Stand.of_body Bd
  have e0 : s₁.heap = h0 := by rw [← hh, Bd.state]; rfl
  have N := Fr.nil n0
  obtain ⟨G, hG⟩ : ∃ G : State → JFrame → Prop, G = OwnG p e below s ({ frames := 0, cells := 0, slots := 0, locals := 0 } : Room).cells ({ frames := 0, cells := 0, slots := 0, locals := 0 } : Room).slots (Q_rmG3 Z a1 k1 c0 c1 c2 c3 h0 n0) := ⟨_, rfl⟩
  have gb : ∀ {T T' : State} {g g' : JFrame}, (∀ t, Steps p.tables e below (T'.setTop g') t → Steps p.tables e below (T.setTop g) t) → G T' g' → G T g := by subst hG; exact fun k h => own_by k h
  have go : ∀ {T : State} {locs : List Loc} {cells slots : Nat} {g : JFrame} {v : Option Value}, Stand p l e ({ frames := 0, cells := 0, slots := 0, locals := 0 } : Room) s m #[(.ref a1), (.int (3 : Int32))] below meth c T locs cells slots → (meth.sig.returnType = none → v = none) → (∀ fs, (∀ (f : JFrame) (acts : List Action), f.method = m → f.locked = none → f.entered = [] → (doReturn e (T.setTop f) acts v).1 = T.setFrames fs) → Steps p.tables e below (T.setTop g) (T.setFrames fs)) → (Q_rmG3 Z a1 k1 c0 c1 c2 c3 h0 n0) v T.heap locs → cells ≤ ({ frames := 0, cells := 0, slots := 0, locals := 0 } : Room).cells → slots ≤ ({ frames := 0, cells := 0, slots := 0, locals := 0 } : Room).slots → G T g := by subst hG; exact fun X h1 h2 h3 h4 h5 => own_out X hlk h1 h2 h3 h4 h5
  show OwnG p e below s ({ frames := 0, cells := 0, slots := 0, locals := 0 } : Room).cells ({ frames := 0, cells := 0, slots := 0, locals := 0 } : Room).slots (Q_rmG3 Z a1 k1 c0 c1 c2 c3 h0 n0) s₁ (entryFrame m #[(.ref a1), (.int (3 : Int32))] 2)
  rw [← hG, ef_rmG3 m a1 (3 : Int32)]
  clear hG
  show G s₁ (mkF m 0 #[.val (.ref a1), .val (.int (3 : Int32))] [])
  obtain ⟨T1, X1, e1, st1⟩ := getS2 X0 hx hZ hown (host := "") (Or.inl (ow hw 49 rfl)) Via.refl e0 (S_ad.ext O.2) (g := (mkF m 0 #[rv a1, iv 3] [])) rfl (hb hby d12_0)
  refine gb st1 ?_
  show G T1 (mkF m 3 #[rv a1, iv 3] [.int 1])
  refine gb (fun _ k => XS.ifYes X1.here hx rfl (pc0 := 3) (pc' := 28) rfl (hb hby d12_3) rfl ((if0 _ _).trans (feq (by decide : ¬ ((1 : Int32) = (0 : Int32)))).2) (by decide) (by decide) (XS.iloadN X1.here hx rfl (hb hby d12_28) rfl (XS.iconst X1.here hx rfl (hb hby d12_29) (XS.ishl X1.here hx rfl (hb hby d12_30) rfl (XS.istoreN X1.here hx rfl (hb hby d12_31) rfl (l' := #[rv a1, iv 6]) rfl (XS.aloadN X1.here hx rfl (hb hby d12_32) rfl rfl k)))))) ?_
  show G T1 (mkF m 33 #[rv a1, iv 6] [.ref a1])
  refine gb (fun _ k => XS.iloadN X1.here hx rfl (hb hby d12_33) rfl (XS.iinc X1.here hx rfl (hb hby d12_34) rfl (l' := #[rv a1, iv 7]) rfl k)) ?_
  show G T1 (mkF m 37 #[rv a1, iv 7] [.int 6, .ref a1])
  have V'2 := V_a1
  obtain ⟨cl2, Ar2, qk2, sz2, nn2, hs2, ft2⟩ := V'2
  have hin2 : ¬ ((6 : Int32) < 0 ∨ cl2.slots.size ≤ ((6 : Int32)).toNatClampNeg) := inb_of sz2 ⟨by decide, by decide⟩
  have hat2 : cl2.slots[((6 : Int32)).toNatClampNeg]? = some (.int (nar .byte ((c3 >>> ((0 : Int32) &&& 31)).toInt8.toInt32))) := hs2.at hin2 rfl
  refine gb (X1.baloadBytes hx (j := (6 : Int32)) (v := (.int (nar .byte ((c3 >>> ((0 : Int32) &&& 31)).toInt8.toInt32)))) (by rw [e1]; exact Ar2.1) (State.isArrayOf_alike hZ.alike Ar2.2.1) Ar2.2.2 hin2 hat2 (g := (mkF m 37 #[rv a1, iv 7] [.int 6, .ref a1])) rfl rfl (hb hby d12_37)) ?_
  show G T1 (mkF m 38 #[rv a1, iv 7] [.int (nar .byte ((c3 >>> ((0 : Int32) &&& 31)).toInt8.toInt32))])
  refine gb (fun _ k => XS.sipush X1.here hx rfl (hb hby d12_38) (XS.iand X1.here hx rfl (hb hby d12_41) rfl k)) ?_
  show G T1 (mkF m 42 #[rv a1, iv 7] [.int ((nar .byte ((c3 >>> ((0 : Int32) &&& 31)).toInt8.toInt32)) &&& (255 : Int32))])
  obtain ⟨T3, X3, e3, st3⟩ := getS2 X1 hx hZ hown (host := "") (Or.inl (ow hw 50 rfl)) Via.refl e1 (S_hi.ext O.2) (g := (mkF m 42 #[rv a1, iv 7] [.int ((nar .byte ((c3 >>> ((0 : Int32) &&& 31)).toInt8.toInt32)) &&& (255 : Int32))])) rfl (hb hby d12_42)
  refine gb st3 ?_
  show G T3 (mkF m 45 #[rv a1, iv 7] [.int 0, .int ((nar .byte ((c3 >>> ((0 : Int32) &&& 31)).toInt8.toInt32)) &&& (255 : Int32))])
  refine gb (fun _ k => XS.ishl X3.here hx rfl (hb hby d12_45) rfl (XS.aloadN X3.here hx rfl (hb hby d12_46) rfl rfl (XS.iloadN X3.here hx rfl (hb hby d12_47) rfl k))) ?_
  show G T3 (mkF m 48 #[rv a1, iv 7] [.int 7, .ref a1, .int (((nar .byte ((c3 >>> ((0 : Int32) &&& 31)).toInt8.toInt32)) &&& (255 : Int32)) <<< ((0 : Int32) &&& 31))])
  have V'4 := V_a1
  obtain ⟨cl4, Ar4, qk4, sz4, nn4, hs4, ft4⟩ := V'4
  have hin4 : ¬ ((7 : Int32) < 0 ∨ cl4.slots.size ≤ ((7 : Int32)).toNatClampNeg) := inb_of sz4 ⟨by decide, by decide⟩
  have hat4 : cl4.slots[((7 : Int32)).toNatClampNeg]? = some (.int (nar .byte ((c3 >>> ((8 : Int32) &&& 31)).toInt8.toInt32))) := hs4.at hin4 rfl
  refine gb (X3.baloadBytes hx (j := (7 : Int32)) (v := (.int (nar .byte ((c3 >>> ((8 : Int32) &&& 31)).toInt8.toInt32)))) (by rw [e3]; exact Ar4.1) (State.isArrayOf_alike hZ.alike Ar4.2.1) Ar4.2.2 hin4 hat4 (g := (mkF m 48 #[rv a1, iv 7] [.int 7, .ref a1, .int (((nar .byte ((c3 >>> ((0 : Int32) &&& 31)).toInt8.toInt32)) &&& (255 : Int32)) <<< ((0 : Int32) &&& 31))])) rfl rfl (hb hby d12_48)) ?_
  show G T3 (mkF m 49 #[rv a1, iv 7] [.int (nar .byte ((c3 >>> ((8 : Int32) &&& 31)).toInt8.toInt32)), .int (((nar .byte ((c3 >>> ((0 : Int32) &&& 31)).toInt8.toInt32)) &&& (255 : Int32)) <<< ((0 : Int32) &&& 31))])
  refine gb (fun _ k => XS.sipush X3.here hx rfl (hb hby d12_49) (XS.iand X3.here hx rfl (hb hby d12_52) rfl k)) ?_
  show G T3 (mkF m 53 #[rv a1, iv 7] [.int ((nar .byte ((c3 >>> ((8 : Int32) &&& 31)).toInt8.toInt32)) &&& (255 : Int32)), .int (((nar .byte ((c3 >>> ((0 : Int32) &&& 31)).toInt8.toInt32)) &&& (255 : Int32)) <<< ((0 : Int32) &&& 31))])
  obtain ⟨T5, X5, e5, st5⟩ := getS2 X3 hx hZ hown (host := "") (Or.inl (ow hw 51 rfl)) Via.refl e3 (S_lo.ext O.2) (g := (mkF m 53 #[rv a1, iv 7] [.int ((nar .byte ((c3 >>> ((8 : Int32) &&& 31)).toInt8.toInt32)) &&& (255 : Int32)), .int (((nar .byte ((c3 >>> ((0 : Int32) &&& 31)).toInt8.toInt32)) &&& (255 : Int32)) <<< ((0 : Int32) &&& 31))])) rfl (hb hby d12_53)
  refine gb st5 ?_
  show G T5 (mkF m 56 #[rv a1, iv 7] [.int 8, .int ((nar .byte ((c3 >>> ((8 : Int32) &&& 31)).toInt8.toInt32)) &&& (255 : Int32)), .int (((nar .byte ((c3 >>> ((0 : Int32) &&& 31)).toInt8.toInt32)) &&& (255 : Int32)) <<< ((0 : Int32) &&& 31))])
  refine gb (fun _ k => XS.ishl X5.here hx rfl (hb hby d12_56) rfl (XS.ior X5.here hx rfl (hb hby d12_57) rfl (XS.i2c X5.here hx rfl (hb hby d12_58) rfl k))) ?_
  show G T5 (mkF m 59 #[rv a1, iv 7] [.int (((((nar .byte ((c3 >>> ((0 : Int32) &&& 31)).toInt8.toInt32)) &&& (255 : Int32)) <<< ((0 : Int32) &&& 31)) ||| (((nar .byte ((c3 >>> ((8 : Int32) &&& 31)).toInt8.toInt32)) &&& (255 : Int32)) <<< ((8 : Int32) &&& 31))).toUInt32.toUInt16.toUInt32.toInt32)])
  rw [own_gc hg3 hh3]
  show G T5 (mkF m 59 #[rv a1, iv 7] [.int c3])
  exact go X5 (v := (some (.int c3))) (fun h => by rw [Bd.returns] at h; cases h) (fun fs hr => retOut X5 hx Bd.returns (show narrow .char (.int c3) = .int c3 from congrArg Value.int (own_nc16 hg3 hh3)) (Or.inl ⟨rfl, by simp, _, rfl⟩) (hb hby d12_59) hr) (⟨rfl, rfl, e5⟩) (by decide) (by decide)
def Q_rmG (c0 c1 c2 c3 : Int32) (i : Nat) (h0 : Heap) : Option Value → Heap → List Loc → Prop := fun v h L => v = some (.int (own_an c0 c1 c2 c3 i)) ∧ L = [] ∧ h = h0
theorem rmG (l : Launch) (Z : State) (a0 : Array Value) (hw : ∀ d ∈ tables_1, d.before a0 Z = true) (ws : List Jvm.Cond) (i : Nat) (hi : i < 4) (a1 : Addr) (k1 : ClassId) (c0 c1 c2 c3 : Int32) (h0 : Heap) (n0 : Nat) (O : Old Z n0 h0) (S_ad : Sta Z Z.heap "java/lang/StringUTF16" "$assertionsDisabled" "Z" (.int (1 : Int32))) (S_hi : Sta Z Z.heap "java/lang/StringUTF16" "HI_BYTE_SHIFT" "I" (.int (0 : Int32))) (S_lo : Sta Z Z.heap "java/lang/StringUTF16" "LO_BYTE_SHIFT" "I" (.int (8 : Int32))) (V_a1 : Arv Z h0 a1 k1 .byte (8 : Int32) [(.int (nar .byte ((c0 >>> ((0 : Int32) &&& 31)).toInt8.toInt32))), (.int (nar .byte ((c0 >>> ((8 : Int32) &&& 31)).toInt8.toInt32))), (.int (nar .byte ((c1 >>> ((0 : Int32) &&& 31)).toInt8.toInt32))), (.int (nar .byte ((c1 >>> ((8 : Int32) &&& 31)).toInt8.toInt32))), (.int (nar .byte ((c2 >>> ((0 : Int32) &&& 31)).toInt8.toInt32))), (.int (nar .byte ((c2 >>> ((8 : Int32) &&& 31)).toInt8.toInt32))), (.int (nar .byte ((c3 >>> ((0 : Int32) &&& 31)).toInt8.toInt32))), (.int (nar .byte ((c3 >>> ((8 : Int32) &&& 31)).toInt8.toInt32)))] (.int (0 : Int32))) (hg0 : ¬ c0 < (0 : Int32)) (hh0 : ¬ (65535 : Int32) < c0) (hg1 : ¬ c1 < (0 : Int32)) (hh1 : ¬ (65535 : Int32) < c1) (hg2 : ¬ c2 < (0 : Int32)) (hh2 : ¬ (65535 : Int32) < c2) (hg3 : ¬ c3 < (0 : Int32)) (hh3 : ¬ (65535 : Int32) < c3) :
    MetFree l (⟨"java/lang/StringUTF16", "getChar", "([BI)C"⟩ : MethodName) (head1 (Jvm.Cond.code (⟨"java/lang/StringUTF16", "getChar", "([BI)C"⟩ : MethodName) jdk_52_method_5_code 2 (some .char) :: ws) ({ frames := 0, cells := 0, slots := 0, locals := 0 } : Room)) (fun a U => a = #[.ref a1, .int (Int32.ofNat i)] ∧ Z.Warmed39 U.vm ∧ U.heap = h0) (fun _ _ _ _ _ => True) (fun _ U o U' => ∃ v L, o = .returned v ∧ (Q_rmG c0 c1 c2 c3 i h0) v U'.heap L ∧ FrameEnd U o U' L ({ frames := 0, cells := 0, slots := 0, locals := 0 } : Room).cells ({ frames := 0, cells := 0, slots := 0, locals := 0 } : Room).slots) := by
  rcases (by omega : i = 0 ∨ i = 1 ∨ i = 2 ∨ i = 3) with rfl | rfl | rfl | rfl
  · exact rmG0 l Z a0 hw ws a1 k1 c0 c1 c2 c3 h0 n0 O S_ad S_hi S_lo V_a1 hg0 hh0 hg1 hh1 hg2 hh2 hg3 hh3
  · exact rmG1 l Z a0 hw ws a1 k1 c0 c1 c2 c3 h0 n0 O S_ad S_hi S_lo V_a1 hg0 hh0 hg1 hh1 hg2 hh2 hg3 hh3
  · exact rmG2 l Z a0 hw ws a1 k1 c0 c1 c2 c3 h0 n0 O S_ad S_hi S_lo V_a1 hg0 hh0 hg1 hh1 hg2 hh2 hg3 hh3
  · exact rmG3 l Z a0 hw ws a1 k1 c0 c1 c2 c3 h0 n0 O S_ad S_hi S_lo V_a1 hg0 hh0 hg1 hh1 hg2 hh2 hg3 hh3
def Q_rmC2U (Z : State) (a1 a2 : Addr) (k1 k2 : ClassId) (c0 c1 c2 c3 : Int32) (h0 : Heap) (n0 : Nat) : Option Value → Heap → List Loc → Prop := fun v h L => v = some (.int (own_k c0 c1 c2 c3)) ∧ Fr n0 L ∧ Keep h0 h [a2]
set_option maxRecDepth 65536 in
set_option maxHeartbeats 40000000 in
theorem rmC2U (l : Launch) (Z : State) (a0 : Array Value) (hw : ∀ d ∈ tables_1, d.before a0 Z = true) (ws : List Jvm.Cond) (a1 a2 : Addr) (k1 k2 : ClassId) (c0 c1 c2 c3 : Int32) (h0 : Heap) (n0 : Nat) (O : Old Z n0 h0) (V_a1 : Arv Z h0 a1 k1 .char (4 : Int32) [(.int c0), (.int c1), (.int c2), (.int c3)] (.int (0 : Int32))) (V_a2 : Arv Z h0 a2 k2 .byte (4 : Int32) [(.int (0 : Int32)), (.int (0 : Int32)), (.int (0 : Int32)), (.int (0 : Int32))] (.int (0 : Int32))) (g_a2 : n0 ≤ a2) (ne_a1_a2 : a1 ≠ a2) :
    MetFree l (⟨"java/lang/StringUTF16", "compress", "([CI[BII)I"⟩ : MethodName) (head1 (Jvm.Cond.code (⟨"java/lang/StringUTF16", "compress", "([CI[BII)I"⟩ : MethodName) jdk_52_method_21_code 7 (some .int) :: ws) ({ frames := 0, cells := 0, slots := 0, locals := 0 } : Room)) (fun a U => a = #[(.ref a1), (.int (0 : Int32)), (.ref a2), (.int (0 : Int32)), (.int (4 : Int32))] ∧ Z.Warmed39 U.vm ∧ U.heap = h0) (fun _ _ _ _ _ => True) (fun _ U o U' => ∃ v L, o = .returned v ∧ (Q_rmC2U Z a1 a2 k1 k2 c0 c1 c2 c3 h0 n0) v U'.heap L ∧ FrameEnd U o U' L ({ frames := 0, cells := 0, slots := 0, locals := 0 } : Room).cells ({ frames := 0, cells := 0, slots := 0, locals := 0 } : Room).slots) := by
  refine MetFree.of_bodySF (plainFor_of_name pn_0) hisR ?_
  intro p e s m args below meth c s₁ Bd hml0 hP hK
  obtain ⟨rfl, hZ, hh⟩ := hP
  have hx := Bd.exec
  have hby := Bd.bytes
  have hml : c.maxLocals = 7 := hml0
  have hown : s.vm.findClass "java/lang/StringUTF16" = some m.cls := findClass_of_methodNamed Bd.named
  have hnm := (name_of_methodNamed Bd.named Bd.method).1
  have hlk := BodyLoose.notSynchronized Bd
  have X0 : Stand p l e ({ frames := 0, cells := 0, slots := 0, locals := 0 } : Room) s m #[(.ref a1), (.int (0 : Int32)), (.ref a2), (.int (0 : Int32)), (.int (4 : Int32))] below meth c s₁ [] 0 0 := Stand.of_body Bd
  have e0 : s₁.heap = h0 := by rw [← hh, Bd.state]; rfl
  have N := Fr.nil n0
  have K := Keep.refl h0 [a2]
  obtain ⟨G, hG⟩ : ∃ G : State → JFrame → Prop, G = OwnG p e below s ({ frames := 0, cells := 0, slots := 0, locals := 0 } : Room).cells ({ frames := 0, cells := 0, slots := 0, locals := 0 } : Room).slots (Q_rmC2U Z a1 a2 k1 k2 c0 c1 c2 c3 h0 n0) := ⟨_, rfl⟩
  have gb : ∀ {T T' : State} {g g' : JFrame}, (∀ t, Steps p.tables e below (T'.setTop g') t → Steps p.tables e below (T.setTop g) t) → G T' g' → G T g := by subst hG; exact fun k h => own_by k h
  have go : ∀ {T : State} {locs : List Loc} {cells slots : Nat} {g : JFrame} {v : Option Value}, Stand p l e ({ frames := 0, cells := 0, slots := 0, locals := 0 } : Room) s m #[(.ref a1), (.int (0 : Int32)), (.ref a2), (.int (0 : Int32)), (.int (4 : Int32))] below meth c T locs cells slots → (meth.sig.returnType = none → v = none) → (∀ fs, (∀ (f : JFrame) (acts : List Action), f.method = m → f.locked = none → f.entered = [] → (doReturn e (T.setTop f) acts v).1 = T.setFrames fs) → Steps p.tables e below (T.setTop g) (T.setFrames fs)) → (Q_rmC2U Z a1 a2 k1 k2 c0 c1 c2 c3 h0 n0) v T.heap locs → cells ≤ ({ frames := 0, cells := 0, slots := 0, locals := 0 } : Room).cells → slots ≤ ({ frames := 0, cells := 0, slots := 0, locals := 0 } : Room).slots → G T g := by subst hG; exact fun X h1 h2 h3 h4 h5 => own_out X hlk h1 h2 h3 h4 h5
  show OwnG p e below s ({ frames := 0, cells := 0, slots := 0, locals := 0 } : Room).cells ({ frames := 0, cells := 0, slots := 0, locals := 0 } : Room).slots (Q_rmC2U Z a1 a2 k1 k2 c0 c1 c2 c3 h0 n0) s₁ (entryFrame m #[(.ref a1), (.int (0 : Int32)), (.ref a2), (.int (0 : Int32)), (.int (4 : Int32))] 7)
  rw [← hG, ef_rmC2U m a1 (0 : Int32) a2 (0 : Int32) (4 : Int32)]
  clear hG
  show G s₁ (mkF m 0 #[.val (.ref a1), .val (.int (0 : Int32)), .val (.ref a2), .val (.int (0 : Int32)), .val (.int (4 : Int32)), .unset, .unset] [])
  refine gb (fun _ k => XS.iconst X0.here hx rfl (hb hby d5_0) (XS.istore X0.here hx rfl (hb hby d5_1) rfl (l' := #[rv a1, iv 0, rv a2, iv 0, iv 4, iv 0, .unset]) rfl (XS.iload X0.here hx rfl (hb hby d5_3) rfl (XS.iload X0.here hx rfl (hb hby d5_5) rfl (XS.icmpNo X0.here hx rfl (hb hby d5_7) rfl (tlt (by decide : (0 : Int32) < (4 : Int32))).2.1 (XS.aloadN X0.here hx rfl (hb hby d5_10) rfl rfl k)))))) ?_
  show G s₁ (mkF m 11 #[rv a1, iv 0, rv a2, iv 0, iv 4, iv 0, .unset] [.ref a1])
  refine gb (fun _ k => XS.iloadN X0.here hx rfl (hb hby d5_11) rfl k) ?_
  show G s₁ (mkF m 12 #[rv a1, iv 0, rv a2, iv 0, iv 4, iv 0, .unset] [.int 0, .ref a1])
  have V'1 := V_a1
  obtain ⟨cl1, Ar1, qk1, sz1, nn1, hs1, ft1⟩ := V'1
  have hin1 : ¬ ((0 : Int32) < 0 ∨ cl1.slots.size ≤ ((0 : Int32)).toNatClampNeg) := inb_of sz1 ⟨by decide, by decide⟩
  have hat1 : cl1.slots[((0 : Int32)).toNatClampNeg]? = some (.int c0) := hs1.at hin1 rfl
  refine gb (X0.caload hx (j := (0 : Int32)) (v := (.int c0)) (by rw [e0]; exact Ar1.1) (State.isArrayOf_alike hZ.alike Ar1.2.1) Ar1.2.2 hin1 hat1 (g := (mkF m 12 #[rv a1, iv 0, rv a2, iv 0, iv 4, iv 0, .unset] [.int 0, .ref a1])) rfl rfl (hb hby d5_12)) ?_
  show G s₁ (mkF m 13 #[rv a1, iv 0, rv a2, iv 0, iv 4, iv 0, .unset] [.int c0])
  refine gb (fun _ k => XS.istore X0.here hx rfl (hb hby d5_13) rfl (l' := #[rv a1, iv 0, rv a2, iv 0, iv 4, iv 0, iv c0]) rfl (XS.iload X0.here hx rfl (hb hby d5_15) rfl (XS.sipush X0.here hx rfl (hb hby d5_17) k))) ?_
  show G s₁ (mkF m 20 #[rv a1, iv 0, rv a2, iv 0, iv 4, iv 0, iv c0] [.int 255, .int c0])
  by_cases hc20 : (255 : Int32) < c0
  · skip
    refine gb (fun _ k => XS.icmpNo X0.here hx rfl (hb hby d5_20) rfl (tlt hc20).2.2.2 (XS.iload X0.here hx rfl (hb hby d5_23) rfl k)) ?_
    show G s₁ (mkF m 25 #[rv a1, iv 0, rv a2, iv 0, iv 4, iv 0, iv c0] [.int 0])
    exact go X0 (v := (some (.int (0 : Int32)))) (fun h => by rw [Bd.returns] at h; cases h) (fun fs hr => retOut X0 hx Bd.returns rfl (Or.inl ⟨rfl, by simp, _, rfl⟩) (hb hby d5_25) hr) (by rw [e0]; exact ⟨by unfold own_k; rw [if_pos hc20], N, K⟩) (by decide) (by decide)
  · skip
    refine gb (fun _ k => XS.icmpYes X0.here hx rfl (pc0 := 20) (pc' := 26) rfl (hb hby d5_20) rfl (flt hc20).2.2.2 (by decide) (by decide) (XS.aloadN X0.here hx rfl (hb hby d5_26) rfl rfl (XS.iloadN X0.here hx rfl (hb hby d5_27) rfl (XS.iload X0.here hx rfl (hb hby d5_28) rfl (XS.i2b X0.here hx rfl (hb hby d5_30) rfl k))))) ?_
    show G s₁ (mkF m 31 #[rv a1, iv 0, rv a2, iv 0, iv 4, iv 0, iv c0] [.int (c0.toInt8.toInt32), .int 0, .ref a2])
    have V'2 := V_a2
    obtain ⟨cl2, Ar2, qk2, sz2, nn2, hs2, ft2⟩ := V'2
    have hin2 : ¬ ((0 : Int32) < 0 ∨ cl2.slots.size ≤ ((0 : Int32)).toNatClampNeg) := inb_of sz2 ⟨by decide, by decide⟩
    obtain ⟨T3, h3, X3, e3, W3, st3⟩ := stB X0 hx hZ e0 Ar2 (j := (0 : Int32)) hin2 (g := (mkF m 31 #[rv a1, iv 0, rv a2, iv 0, iv 4, iv 0, iv c0] [.int (c0.toInt8.toInt32), .int 0, .ref a2])) rfl rfl (hb hby d5_31)
    have V_a2 : Arv Z h3 a2 k2 .byte (4 : Int32) [(.int (nar .byte (c0.toInt8.toInt32))), (.int (0 : Int32)), (.int (0 : Int32)), (.int (0 : Int32))] (.int (0 : Int32)) := Arv.set Ar2 qk2 sz2 nn2 hs2 ft2 (fits_nar_byte _) W3 0 rfl (Nat.le_of_ble_eq_true rfl)
    have V_a1 := V_a1.other W3 ne_a1_a2
    have O := O.wr W3 g_a2
    have K := K.wr W3 (Or.inl (List.mem_of_getElem? (i := 0) rfl))
    have N := Fr.snoc X3 N g_a2
    refine gb st3 ?_
    show G T3 (mkF m 32 #[rv a1, iv 0, rv a2, iv 0, iv 4, iv 0, iv c0] [])
    refine gb (fun _ k => XS.iinc X3.here hx rfl (hb hby d5_32) rfl (l' := #[rv a1, iv 1, rv a2, iv 0, iv 4, iv 0, iv c0]) rfl (XS.iinc X3.here hx rfl (hb hby d5_35) rfl (l' := #[rv a1, iv 1, rv a2, iv 1, iv 4, iv 0, iv c0]) rfl (XS.iinc X3.here hx rfl (hb hby d5_38) rfl (l' := #[rv a1, iv 1, rv a2, iv 1, iv 4, iv 1, iv c0]) rfl (XS.goto X3.here hx rfl (pc0 := 41) (pc' := 3) rfl (hb hby d5_41) (by decide) (by decide) (XS.iload X3.here hx rfl (hb hby d5_3) rfl (XS.iload X3.here hx rfl (hb hby d5_5) rfl k)))))) ?_
    show G T3 (mkF m 7 #[rv a1, iv 1, rv a2, iv 1, iv 4, iv 1, iv c0] [.int 4, .int 1])
    refine gb (fun _ k => XS.icmpNo X3.here hx rfl (hb hby d5_7) rfl (tlt (by decide : (1 : Int32) < (4 : Int32))).2.1 (XS.aloadN X3.here hx rfl (hb hby d5_10) rfl rfl (XS.iloadN X3.here hx rfl (hb hby d5_11) rfl k))) ?_
    show G T3 (mkF m 12 #[rv a1, iv 1, rv a2, iv 1, iv 4, iv 1, iv c0] [.int 1, .ref a1])
    have V'4 := V_a1
    obtain ⟨cl4, Ar4, qk4, sz4, nn4, hs4, ft4⟩ := V'4
    have hin4 : ¬ ((1 : Int32) < 0 ∨ cl4.slots.size ≤ ((1 : Int32)).toNatClampNeg) := inb_of sz4 ⟨by decide, by decide⟩
    have hat4 : cl4.slots[((1 : Int32)).toNatClampNeg]? = some (.int c1) := hs4.at hin4 rfl
    refine gb (X3.caload hx (j := (1 : Int32)) (v := (.int c1)) (by rw [e3]; exact Ar4.1) (State.isArrayOf_alike hZ.alike Ar4.2.1) Ar4.2.2 hin4 hat4 (g := (mkF m 12 #[rv a1, iv 1, rv a2, iv 1, iv 4, iv 1, iv c0] [.int 1, .ref a1])) rfl rfl (hb hby d5_12)) ?_
    show G T3 (mkF m 13 #[rv a1, iv 1, rv a2, iv 1, iv 4, iv 1, iv c0] [.int c1])
    refine gb (fun _ k => XS.istore X3.here hx rfl (hb hby d5_13) rfl (l' := #[rv a1, iv 1, rv a2, iv 1, iv 4, iv 1, iv c1]) rfl (XS.iload X3.here hx rfl (hb hby d5_15) rfl (XS.sipush X3.here hx rfl (hb hby d5_17) k))) ?_
    show G T3 (mkF m 20 #[rv a1, iv 1, rv a2, iv 1, iv 4, iv 1, iv c1] [.int 255, .int c1])
    by_cases hc20_2 : (255 : Int32) < c1
    · skip
      refine gb (fun _ k => XS.icmpNo X3.here hx rfl (hb hby d5_20) rfl (tlt hc20_2).2.2.2 (XS.iload X3.here hx rfl (hb hby d5_23) rfl k)) ?_
      show G T3 (mkF m 25 #[rv a1, iv 1, rv a2, iv 1, iv 4, iv 1, iv c1] [.int 1])
      exact go X3 (v := (some (.int (1 : Int32)))) (fun h => by rw [Bd.returns] at h; cases h) (fun fs hr => retOut X3 hx Bd.returns rfl (Or.inl ⟨rfl, by simp, _, rfl⟩) (hb hby d5_25) hr) (by rw [e3]; exact ⟨by unfold own_k; rw [if_neg hc20, if_pos hc20_2], N, K⟩) (by decide) (by decide)
    · skip
      refine gb (fun _ k => XS.icmpYes X3.here hx rfl (pc0 := 20) (pc' := 26) rfl (hb hby d5_20) rfl (flt hc20_2).2.2.2 (by decide) (by decide) (XS.aloadN X3.here hx rfl (hb hby d5_26) rfl rfl (XS.iloadN X3.here hx rfl (hb hby d5_27) rfl (XS.iload X3.here hx rfl (hb hby d5_28) rfl (XS.i2b X3.here hx rfl (hb hby d5_30) rfl k))))) ?_
      show G T3 (mkF m 31 #[rv a1, iv 1, rv a2, iv 1, iv 4, iv 1, iv c1] [.int (c1.toInt8.toInt32), .int 1, .ref a2])
      have V'5 := V_a2
      obtain ⟨cl5, Ar5, qk5, sz5, nn5, hs5, ft5⟩ := V'5
      have hin5 : ¬ ((1 : Int32) < 0 ∨ cl5.slots.size ≤ ((1 : Int32)).toNatClampNeg) := inb_of sz5 ⟨by decide, by decide⟩
      obtain ⟨T6, h6, X6, e6, W6, st6⟩ := stB X3 hx hZ e3 Ar5 (j := (1 : Int32)) hin5 (g := (mkF m 31 #[rv a1, iv 1, rv a2, iv 1, iv 4, iv 1, iv c1] [.int (c1.toInt8.toInt32), .int 1, .ref a2])) rfl rfl (hb hby d5_31)
      have V_a2 : Arv Z h6 a2 k2 .byte (4 : Int32) [(.int (nar .byte (c0.toInt8.toInt32))), (.int (nar .byte (c1.toInt8.toInt32))), (.int (0 : Int32)), (.int (0 : Int32))] (.int (0 : Int32)) := Arv.set Ar5 qk5 sz5 nn5 hs5 ft5 (fits_nar_byte _) W6 1 rfl (Nat.le_of_ble_eq_true rfl)
      have V_a1 := V_a1.other W6 ne_a1_a2
      have O := O.wr W6 g_a2
      have K := K.wr W6 (Or.inl (List.mem_of_getElem? (i := 0) rfl))
      have N := Fr.snoc X6 N g_a2
      refine gb st6 ?_
      show G T6 (mkF m 32 #[rv a1, iv 1, rv a2, iv 1, iv 4, iv 1, iv c1] [])
      refine gb (fun _ k => XS.iinc X6.here hx rfl (hb hby d5_32) rfl (l' := #[rv a1, iv 2, rv a2, iv 1, iv 4, iv 1, iv c1]) rfl (XS.iinc X6.here hx rfl (hb hby d5_35) rfl (l' := #[rv a1, iv 2, rv a2, iv 2, iv 4, iv 1, iv c1]) rfl (XS.iinc X6.here hx rfl (hb hby d5_38) rfl (l' := #[rv a1, iv 2, rv a2, iv 2, iv 4, iv 2, iv c1]) rfl (XS.goto X6.here hx rfl (pc0 := 41) (pc' := 3) rfl (hb hby d5_41) (by decide) (by decide) (XS.iload X6.here hx rfl (hb hby d5_3) rfl (XS.iload X6.here hx rfl (hb hby d5_5) rfl k)))))) ?_
      show G T6 (mkF m 7 #[rv a1, iv 2, rv a2, iv 2, iv 4, iv 2, iv c1] [.int 4, .int 2])
      refine gb (fun _ k => XS.icmpNo X6.here hx rfl (hb hby d5_7) rfl (tlt (by decide : (2 : Int32) < (4 : Int32))).2.1 (XS.aloadN X6.here hx rfl (hb hby d5_10) rfl rfl (XS.iloadN X6.here hx rfl (hb hby d5_11) rfl k))) ?_
      show G T6 (mkF m 12 #[rv a1, iv 2, rv a2, iv 2, iv 4, iv 2, iv c1] [.int 2, .ref a1])
      have V'7 := V_a1
      obtain ⟨cl7, Ar7, qk7, sz7, nn7, hs7, ft7⟩ := V'7
      have hin7 : ¬ ((2 : Int32) < 0 ∨ cl7.slots.size ≤ ((2 : Int32)).toNatClampNeg) := inb_of sz7 ⟨by decide, by decide⟩
      have hat7 : cl7.slots[((2 : Int32)).toNatClampNeg]? = some (.int c2) := hs7.at hin7 rfl
      refine gb (X6.caload hx (j := (2 : Int32)) (v := (.int c2)) (by rw [e6]; exact Ar7.1) (State.isArrayOf_alike hZ.alike Ar7.2.1) Ar7.2.2 hin7 hat7 (g := (mkF m 12 #[rv a1, iv 2, rv a2, iv 2, iv 4, iv 2, iv c1] [.int 2, .ref a1])) rfl rfl (hb hby d5_12)) ?_
      show G T6 (mkF m 13 #[rv a1, iv 2, rv a2, iv 2, iv 4, iv 2, iv c1] [.int c2])
      refine gb (fun _ k => XS.istore X6.here hx rfl (hb hby d5_13) rfl (l' := #[rv a1, iv 2, rv a2, iv 2, iv 4, iv 2, iv c2]) rfl (XS.iload X6.here hx rfl (hb hby d5_15) rfl (XS.sipush X6.here hx rfl (hb hby d5_17) k))) ?_
      show G T6 (mkF m 20 #[rv a1, iv 2, rv a2, iv 2, iv 4, iv 2, iv c2] [.int 255, .int c2])
      by_cases hc20_3 : (255 : Int32) < c2
      · skip
        refine gb (fun _ k => XS.icmpNo X6.here hx rfl (hb hby d5_20) rfl (tlt hc20_3).2.2.2 (XS.iload X6.here hx rfl (hb hby d5_23) rfl k)) ?_
        show G T6 (mkF m 25 #[rv a1, iv 2, rv a2, iv 2, iv 4, iv 2, iv c2] [.int 2])
        exact go X6 (v := (some (.int (2 : Int32)))) (fun h => by rw [Bd.returns] at h; cases h) (fun fs hr => retOut X6 hx Bd.returns rfl (Or.inl ⟨rfl, by simp, _, rfl⟩) (hb hby d5_25) hr) (by rw [e6]; exact ⟨by unfold own_k; rw [if_neg hc20, if_neg hc20_2, if_pos hc20_3], N, K⟩) (by decide) (by decide)
      · skip
        refine gb (fun _ k => XS.icmpYes X6.here hx rfl (pc0 := 20) (pc' := 26) rfl (hb hby d5_20) rfl (flt hc20_3).2.2.2 (by decide) (by decide) (XS.aloadN X6.here hx rfl (hb hby d5_26) rfl rfl (XS.iloadN X6.here hx rfl (hb hby d5_27) rfl (XS.iload X6.here hx rfl (hb hby d5_28) rfl (XS.i2b X6.here hx rfl (hb hby d5_30) rfl k))))) ?_
        show G T6 (mkF m 31 #[rv a1, iv 2, rv a2, iv 2, iv 4, iv 2, iv c2] [.int (c2.toInt8.toInt32), .int 2, .ref a2])
        have V'8 := V_a2
        obtain ⟨cl8, Ar8, qk8, sz8, nn8, hs8, ft8⟩ := V'8
        have hin8 : ¬ ((2 : Int32) < 0 ∨ cl8.slots.size ≤ ((2 : Int32)).toNatClampNeg) := inb_of sz8 ⟨by decide, by decide⟩
        obtain ⟨T9, h9, X9, e9, W9, st9⟩ := stB X6 hx hZ e6 Ar8 (j := (2 : Int32)) hin8 (g := (mkF m 31 #[rv a1, iv 2, rv a2, iv 2, iv 4, iv 2, iv c2] [.int (c2.toInt8.toInt32), .int 2, .ref a2])) rfl rfl (hb hby d5_31)
        have V_a2 : Arv Z h9 a2 k2 .byte (4 : Int32) [(.int (nar .byte (c0.toInt8.toInt32))), (.int (nar .byte (c1.toInt8.toInt32))), (.int (nar .byte (c2.toInt8.toInt32))), (.int (0 : Int32))] (.int (0 : Int32)) := Arv.set Ar8 qk8 sz8 nn8 hs8 ft8 (fits_nar_byte _) W9 2 rfl (Nat.le_of_ble_eq_true rfl)
        have V_a1 := V_a1.other W9 ne_a1_a2
        have O := O.wr W9 g_a2
        have K := K.wr W9 (Or.inl (List.mem_of_getElem? (i := 0) rfl))
        have N := Fr.snoc X9 N g_a2
        refine gb st9 ?_
        show G T9 (mkF m 32 #[rv a1, iv 2, rv a2, iv 2, iv 4, iv 2, iv c2] [])
        refine gb (fun _ k => XS.iinc X9.here hx rfl (hb hby d5_32) rfl (l' := #[rv a1, iv 3, rv a2, iv 2, iv 4, iv 2, iv c2]) rfl (XS.iinc X9.here hx rfl (hb hby d5_35) rfl (l' := #[rv a1, iv 3, rv a2, iv 3, iv 4, iv 2, iv c2]) rfl (XS.iinc X9.here hx rfl (hb hby d5_38) rfl (l' := #[rv a1, iv 3, rv a2, iv 3, iv 4, iv 3, iv c2]) rfl (XS.goto X9.here hx rfl (pc0 := 41) (pc' := 3) rfl (hb hby d5_41) (by decide) (by decide) (XS.iload X9.here hx rfl (hb hby d5_3) rfl (XS.iload X9.here hx rfl (hb hby d5_5) rfl k)))))) ?_
        show G T9 (mkF m 7 #[rv a1, iv 3, rv a2, iv 3, iv 4, iv 3, iv c2] [.int 4, .int 3])
        refine gb (fun _ k => XS.icmpNo X9.here hx rfl (hb hby d5_7) rfl (tlt (by decide : (3 : Int32) < (4 : Int32))).2.1 (XS.aloadN X9.here hx rfl (hb hby d5_10) rfl rfl (XS.iloadN X9.here hx rfl (hb hby d5_11) rfl k))) ?_
        show G T9 (mkF m 12 #[rv a1, iv 3, rv a2, iv 3, iv 4, iv 3, iv c2] [.int 3, .ref a1])
        have V'10 := V_a1
        obtain ⟨cl10, Ar10, qk10, sz10, nn10, hs10, ft10⟩ := V'10
        have hin10 : ¬ ((3 : Int32) < 0 ∨ cl10.slots.size ≤ ((3 : Int32)).toNatClampNeg) := inb_of sz10 ⟨by decide, by decide⟩
        have hat10 : cl10.slots[((3 : Int32)).toNatClampNeg]? = some (.int c3) := hs10.at hin10 rfl
        refine gb (X9.caload hx (j := (3 : Int32)) (v := (.int c3)) (by rw [e9]; exact Ar10.1) (State.isArrayOf_alike hZ.alike Ar10.2.1) Ar10.2.2 hin10 hat10 (g := (mkF m 12 #[rv a1, iv 3, rv a2, iv 3, iv 4, iv 3, iv c2] [.int 3, .ref a1])) rfl rfl (hb hby d5_12)) ?_
        show G T9 (mkF m 13 #[rv a1, iv 3, rv a2, iv 3, iv 4, iv 3, iv c2] [.int c3])
        refine gb (fun _ k => XS.istore X9.here hx rfl (hb hby d5_13) rfl (l' := #[rv a1, iv 3, rv a2, iv 3, iv 4, iv 3, iv c3]) rfl (XS.iload X9.here hx rfl (hb hby d5_15) rfl (XS.sipush X9.here hx rfl (hb hby d5_17) k))) ?_
        show G T9 (mkF m 20 #[rv a1, iv 3, rv a2, iv 3, iv 4, iv 3, iv c3] [.int 255, .int c3])
        by_cases hc20_4 : (255 : Int32) < c3
        · skip
          refine gb (fun _ k => XS.icmpNo X9.here hx rfl (hb hby d5_20) rfl (tlt hc20_4).2.2.2 (XS.iload X9.here hx rfl (hb hby d5_23) rfl k)) ?_
          show G T9 (mkF m 25 #[rv a1, iv 3, rv a2, iv 3, iv 4, iv 3, iv c3] [.int 3])
          exact go X9 (v := (some (.int (3 : Int32)))) (fun h => by rw [Bd.returns] at h; cases h) (fun fs hr => retOut X9 hx Bd.returns rfl (Or.inl ⟨rfl, by simp, _, rfl⟩) (hb hby d5_25) hr) (by rw [e9]; exact ⟨by unfold own_k; rw [if_neg hc20, if_neg hc20_2, if_neg hc20_3, if_pos hc20_4], N, K⟩) (by decide) (by decide)
        · skip
          refine gb (fun _ k => XS.icmpYes X9.here hx rfl (pc0 := 20) (pc' := 26) rfl (hb hby d5_20) rfl (flt hc20_4).2.2.2 (by decide) (by decide) (XS.aloadN X9.here hx rfl (hb hby d5_26) rfl rfl (XS.iloadN X9.here hx rfl (hb hby d5_27) rfl (XS.iload X9.here hx rfl (hb hby d5_28) rfl (XS.i2b X9.here hx rfl (hb hby d5_30) rfl k))))) ?_
          show G T9 (mkF m 31 #[rv a1, iv 3, rv a2, iv 3, iv 4, iv 3, iv c3] [.int (c3.toInt8.toInt32), .int 3, .ref a2])
          have V'11 := V_a2
          obtain ⟨cl11, Ar11, qk11, sz11, nn11, hs11, ft11⟩ := V'11
          have hin11 : ¬ ((3 : Int32) < 0 ∨ cl11.slots.size ≤ ((3 : Int32)).toNatClampNeg) := inb_of sz11 ⟨by decide, by decide⟩
          obtain ⟨T12, h12, X12, e12, W12, st12⟩ := stB X9 hx hZ e9 Ar11 (j := (3 : Int32)) hin11 (g := (mkF m 31 #[rv a1, iv 3, rv a2, iv 3, iv 4, iv 3, iv c3] [.int (c3.toInt8.toInt32), .int 3, .ref a2])) rfl rfl (hb hby d5_31)
          have V_a2 : Arv Z h12 a2 k2 .byte (4 : Int32) [(.int (nar .byte (c0.toInt8.toInt32))), (.int (nar .byte (c1.toInt8.toInt32))), (.int (nar .byte (c2.toInt8.toInt32))), (.int (nar .byte (c3.toInt8.toInt32)))] (.int (0 : Int32)) := Arv.set Ar11 qk11 sz11 nn11 hs11 ft11 (fits_nar_byte _) W12 3 rfl (Nat.le_of_ble_eq_true rfl)
          have V_a1 := V_a1.other W12 ne_a1_a2
          have O := O.wr W12 g_a2
          have K := K.wr W12 (Or.inl (List.mem_of_getElem? (i := 0) rfl))
          have N := Fr.snoc X12 N g_a2
          refine gb st12 ?_
          show G T12 (mkF m 32 #[rv a1, iv 3, rv a2, iv 3, iv 4, iv 3, iv c3] [])
          refine gb (fun _ k => XS.iinc X12.here hx rfl (hb hby d5_32) rfl (l' := #[rv a1, iv 4, rv a2, iv 3, iv 4, iv 3, iv c3]) rfl (XS.iinc X12.here hx rfl (hb hby d5_35) rfl (l' := #[rv a1, iv 4, rv a2, iv 4, iv 4, iv 3, iv c3]) rfl (XS.iinc X12.here hx rfl (hb hby d5_38) rfl (l' := #[rv a1, iv 4, rv a2, iv 4, iv 4, iv 4, iv c3]) rfl (XS.goto X12.here hx rfl (pc0 := 41) (pc' := 3) rfl (hb hby d5_41) (by decide) (by decide) (XS.iload X12.here hx rfl (hb hby d5_3) rfl (XS.iload X12.here hx rfl (hb hby d5_5) rfl k)))))) ?_
          show G T12 (mkF m 7 #[rv a1, iv 4, rv a2, iv 4, iv 4, iv 4, iv c3] [.int 4, .int 4])
          refine gb (fun _ k => XS.icmpYes X12.here hx rfl (pc0 := 7) (pc' := 44) rfl (hb hby d5_7) rfl (flt (by decide : ¬ ((4 : Int32) < (4 : Int32)))).2.1 (by decide) (by decide) (XS.iload X12.here hx rfl (hb hby d5_44) rfl k)) ?_
          show G T12 (mkF m 46 #[rv a1, iv 4, rv a2, iv 4, iv 4, iv 4, iv c3] [.int 4])
          exact go X12 (v := (some (.int (4 : Int32)))) (fun h => by rw [Bd.returns] at h; cases h) (fun fs hr => retOut X12 hx Bd.returns rfl (Or.inl ⟨rfl, by simp, _, rfl⟩) (hb hby d5_46) hr) (by rw [e12]; exact ⟨by unfold own_k; rw [if_neg hc20, if_neg hc20_2, if_neg hc20_3, if_neg hc20_4], N, K⟩) (by decide) (by decide)
def Q_rmC1U (Z : State) (a1 : Addr) (k1 : ClassId) (c0 c1 c2 c3 : Int32) (h0 : Heap) (n0 : Nat) : Option Value → Heap → List Loc → Prop := fun v h L => ∃ (b : Addr) (kb : ClassId), v = some (.ref b) ∧ Fr n0 L ∧ Keep h0 h [] ∧ n0 ≤ b ∧ h0.size ≤ b ∧ Arv Z h b kb .byte (8 : Int32) [(.int (nar .byte ((c0 >>> ((0 : Int32) &&& 31)).toInt8.toInt32))), (.int (nar .byte ((c0 >>> ((8 : Int32) &&& 31)).toInt8.toInt32))), (.int (nar .byte ((c1 >>> ((0 : Int32) &&& 31)).toInt8.toInt32))), (.int (nar .byte ((c1 >>> ((8 : Int32) &&& 31)).toInt8.toInt32))), (.int (nar .byte ((c2 >>> ((0 : Int32) &&& 31)).toInt8.toInt32))), (.int (nar .byte ((c2 >>> ((8 : Int32) &&& 31)).toInt8.toInt32))), (.int (nar .byte ((c3 >>> ((0 : Int32) &&& 31)).toInt8.toInt32))), (.int (nar .byte ((c3 >>> ((8 : Int32) &&& 31)).toInt8.toInt32)))] (.int (0 : Int32))
set_option maxRecDepth 65536 in
set_option maxHeartbeats 40000000 in
theorem rmC1U (l : Launch) (Z : State) (a0 : Array Value) (hw : ∀ d ∈ tables_1, d.before a0 Z = true) (ws : List Jvm.Cond) (a1 : Addr) (k1 : ClassId) (c0 c1 c2 c3 : Int32) (h0 : Heap) (n0 : Nat) (O : Old Z n0 h0) (S_ad : Sta Z Z.heap "java/lang/StringUTF16" "$assertionsDisabled" "Z" (.int (1 : Int32))) (S_hi : Sta Z Z.heap "java/lang/StringUTF16" "HI_BYTE_SHIFT" "I" (.int (0 : Int32))) (S_lo : Sta Z Z.heap "java/lang/StringUTF16" "LO_BYTE_SHIFT" "I" (.int (8 : Int32))) (V_a1 : Arv Z h0 a1 k1 .char (4 : Int32) [(.int c0), (.int c1), (.int c2), (.int c3)] (.int (0 : Int32))) (hU : ¬ own_k c0 c1 c2 c3 = 4) (hg0 : ¬ c0 < (0 : Int32)) (hh0 : ¬ (65535 : Int32) < c0) (hg1 : ¬ c1 < (0 : Int32)) (hh1 : ¬ (65535 : Int32) < c1) (hg2 : ¬ c2 < (0 : Int32)) (hh2 : ¬ (65535 : Int32) < c2) (hg3 : ¬ c3 < (0 : Int32)) (hh3 : ¬ (65535 : Int32) < c3) :
    MetFree l (⟨"java/lang/StringUTF16", "compress", "([CII)[B"⟩ : MethodName) (head1 (Jvm.Cond.code (⟨"java/lang/StringUTF16", "compress", "([CII)[B"⟩ : MethodName) jdk_52_method_16_code 6 (some (.array .byte)) :: ws) ({ frames := 3, cells := 2, slots := 12, locals := 40 } : Room)) (fun a U => a = #[(.ref a1), (.int (0 : Int32)), (.int (4 : Int32))] ∧ Z.Warmed39 U.vm ∧ U.heap = h0) (fun _ _ _ _ _ => True) (fun _ U o U' => ∃ v L, o = .returned v ∧ (Q_rmC1U Z a1 k1 c0 c1 c2 c3 h0 n0) v U'.heap L ∧ FrameEnd U o U' L ({ frames := 3, cells := 2, slots := 12, locals := 40 } : Room).cells ({ frames := 3, cells := 2, slots := 12, locals := 40 } : Room).slots) := by
  refine MetFree.of_bodySF (plainFor_of_name pn_0) hisR ?_
  intro p e s m args below meth c s₁ Bd hml0 hP hK
  obtain ⟨rfl, hZ, hh⟩ := hP
  have hx := Bd.exec
  have hby := Bd.bytes
  have hml : c.maxLocals = 6 := hml0
  have hown : s.vm.findClass "java/lang/StringUTF16" = some m.cls := findClass_of_methodNamed Bd.named
  have hnm := (name_of_methodNamed Bd.named Bd.method).1
  have hlk := BodyLoose.notSynchronized Bd
  have X0 : Stand p l e ({ frames := 3, cells := 2, slots := 12, locals := 40 } : Room) s m #[(.ref a1), (.int (0 : Int32)), (.int (4 : Int32))] below meth c s₁ [] 0 0 := Stand.of_body Bd
  have e0 : s₁.heap = h0 := by rw [← hh, Bd.state]; rfl
  have N := Fr.nil n0
  have K := Keep.refl h0 []
  obtain ⟨G, hG⟩ : ∃ G : State → JFrame → Prop, G = OwnG p e below s ({ frames := 3, cells := 2, slots := 12, locals := 40 } : Room).cells ({ frames := 3, cells := 2, slots := 12, locals := 40 } : Room).slots (Q_rmC1U Z a1 k1 c0 c1 c2 c3 h0 n0) := ⟨_, rfl⟩
  have gb : ∀ {T T' : State} {g g' : JFrame}, (∀ t, Steps p.tables e below (T'.setTop g') t → Steps p.tables e below (T.setTop g) t) → G T' g' → G T g := by subst hG; exact fun k h => own_by k h
  have go : ∀ {T : State} {locs : List Loc} {cells slots : Nat} {g : JFrame} {v : Option Value}, Stand p l e ({ frames := 3, cells := 2, slots := 12, locals := 40 } : Room) s m #[(.ref a1), (.int (0 : Int32)), (.int (4 : Int32))] below meth c T locs cells slots → (meth.sig.returnType = none → v = none) → (∀ fs, (∀ (f : JFrame) (acts : List Action), f.method = m → f.locked = none → f.entered = [] → (doReturn e (T.setTop f) acts v).1 = T.setFrames fs) → Steps p.tables e below (T.setTop g) (T.setFrames fs)) → (Q_rmC1U Z a1 k1 c0 c1 c2 c3 h0 n0) v T.heap locs → cells ≤ ({ frames := 3, cells := 2, slots := 12, locals := 40 } : Room).cells → slots ≤ ({ frames := 3, cells := 2, slots := 12, locals := 40 } : Room).slots → G T g := by subst hG; exact fun X h1 h2 h3 h4 h5 => own_out X hlk h1 h2 h3 h4 h5
  show OwnG p e below s ({ frames := 3, cells := 2, slots := 12, locals := 40 } : Room).cells ({ frames := 3, cells := 2, slots := 12, locals := 40 } : Room).slots (Q_rmC1U Z a1 k1 c0 c1 c2 c3 h0 n0) s₁ (entryFrame m #[(.ref a1), (.int (0 : Int32)), (.int (4 : Int32))] 6)
  rw [← hG, ef_rmC1U m a1 (0 : Int32) (4 : Int32)]
  clear hG
  show G s₁ (mkF m 0 #[.val (.ref a1), .val (.int (0 : Int32)), .val (.int (4 : Int32)), .unset, .unset, .unset] [])
  refine gb (fun _ k => XS.iloadN X0.here hx rfl (hb hby d4_0) rfl k) ?_
  show G s₁ (mkF m 1 #[rv a1, iv 0, iv 4, .unset, .unset, .unset] [.int 4])
  obtain ⟨T1, h1, kA1, X1, e1, E1, A1, st1⟩ := newP X0 hx hZ (ow hw 20 rfl) e0 (g := (mkF m 1 #[rv a1, iv 0, iv 4, .unset, .unset, .unset] [.int 4])) rfl (hb hby d4_1) rfl (by decide) (cap := 4) (by decide) (by decide) (by decide) (by decide)
  obtain ⟨b1, g1⟩ : ∃ z, z = h0.size := ⟨_, rfl⟩
  rw [← g1] at A1 st1
  have g_b1 : n0 ≤ b1 := Nat.le_trans (by have := O.2.1; rw [O.1] at this; exact this) (Nat.le_of_eq g1.symm)
  have sz_b1 : h0.size ≤ b1 := Nat.le_trans K.1 (Nat.le_of_eq g1.symm)
  have ne_a1_b1 : a1 ≠ b1 := Nat.ne_of_lt (Nat.lt_of_lt_of_le V_a1.lt (Nat.le_of_eq g1.symm))
  have V_a1 := V_a1.ext E1
  have O := O.ext E1
  have K := K.ext E1
  have V_b1 : Arv Z h1 b1 kA1 .byte (4 : Int32) [(.int (0 : Int32)), (.int (0 : Int32)), (.int (0 : Int32)), (.int (0 : Int32))] (.int (0 : Int32)) := (Arv.new A1 (by decide)).pad (pad_rep [] (.int (0 : Int32)) 4)
  refine gb st1 ?_
  show G T1 (mkF m 3 #[rv a1, iv 0, iv 4, .unset, .unset, .unset] [.ref b1])
  refine gb (fun _ k => XS.astoreN X1.here hx rfl (hb hby d4_3) rfl rfl (l' := #[rv a1, iv 0, iv 4, rv b1, .unset, .unset]) rfl (XS.aloadN X1.here hx rfl (hb hby d4_4) rfl rfl (XS.iloadN X1.here hx rfl (hb hby d4_5) rfl (XS.aloadN X1.here hx rfl (hb hby d4_6) rfl rfl (XS.iconst X1.here hx rfl (hb hby d4_7) (XS.iloadN X1.here hx rfl (hb hby d4_8) rfl k)))))) ?_
  show G T1 (mkF m 9 #[rv a1, iv 0, iv 4, rv b1, .unset, .unset] [.int 4, .int 0, .ref b1, .int 0, .ref a1])
  obtain ⟨_, _, ⟨T2, Lz2, kz2, nz2⟩, -, X2, ⟨Lc2, hQ2, lq2, yq2, zq2⟩, st2⟩ := Jvm.LawKit.callS X1 hx (y := (⟨"java/lang/StringUTF16", "compress", "([CI[BII)I"⟩ : MethodName)) hown (mvT hZ (ow hw 21 rfl)) (mvT hZ (ow hw 22 rfl)) (mvT hZ (ow hw 18 rfl)) (mvT hZ (ow hw 23 rfl)) (by decide) (backOf (W := 0) (rmC2U l Z a0 hw [] a1 b1 k1 kA1 c0 c1 c2 c3 h1 n0 O V_a1 V_b1 g_b1 ne_a1_b1) hZ (ow hw 23 rfl) (ow hw 18 rfl) (by decide) (by decide)) (g := (mkF m 9 #[rv a1, iv 0, iv 4, rv b1, .unset, .unset] [.int 4, .int 0, .ref b1, .int 0, .ref a1])) rfl (by rw [hml]; rfl) (argsL := [(.ref a1), (.int (0 : Int32)), (.ref b1), (.int (0 : Int32)), (.int (4 : Int32))]) (rest := []) (lenOf pd_0 rfl) rfl (by show 2 * 0 + _ ≤ _; exact Nat.le_of_eq rfl) (hb hby d4_9) (fun _ _ => ⟨rfl, e1, (by decide : 1 + 0 ≤ _), (by decide : 4 + 0 ≤ _)⟩)
  dsimp only [Pt.U, Pt.locs, Pt.cells, Pt.slots] at X2 lq2 yq2 zq2 st2 hQ2
  subst lq2 yq2 zq2
  obtain ⟨h2, e2⟩ : ∃ z, z = T2.heap := ⟨_, rfl⟩
  rw [← e2] at hQ2
  replace e2 := e2.symm
  obtain ⟨rfl, Nq2, Kq2⟩ := hQ2
  have N := Fr.app N Nq2
  have V_a1 := V_a1.keep Kq2 (ninS ne_a1_b1 nin0)
  have O := O.keep Kq2 (allS g_b1 all0)
  have K := K.trans Kq2 (allS (Or.inr sz_b1) all0)
  refine gb st2 ?_
  show G T2 (mkF m 12 #[rv a1, iv 0, iv 4, rv b1, .unset, .unset] [.int (own_k c0 c1 c2 c3)])
  refine gb (fun _ k => XS.istore X2.here hx rfl (hb hby d4_12) rfl (l' := #[rv a1, iv 0, iv 4, rv b1, iv (own_k c0 c1 c2 c3), .unset]) rfl (XS.iload X2.here hx rfl (hb hby d4_14) rfl (XS.iloadN X2.here hx rfl (hb hby d4_16) rfl (XS.icmpNo X2.here hx rfl (hb hby d4_17) rfl (feq hU).1 (XS.aloadN X2.here hx rfl (hb hby d4_20) rfl rfl (XS.iloadN X2.here hx rfl (hb hby d4_21) rfl k)))))) ?_
  show G T2 (mkF m 22 #[rv a1, iv 0, iv 4, rv b1, iv (own_k c0 c1 c2 c3), .unset] [.int 0, .ref a1])
  refine gb (fun _ k => XS.iloadN X2.here hx rfl (hb hby d4_22) rfl k) ?_
  show G T2 (mkF m 23 #[rv a1, iv 0, iv 4, rv b1, iv (own_k c0 c1 c2 c3), .unset] [.int 4, .int 0, .ref a1])
  have lt_a1 := V_a1.lt
  have szK := K.1
  obtain ⟨_, _, ⟨T3, Lz3, kz3, nz3⟩, -, X3, ⟨Lc3, hQ3, lq3, yq3, zq3⟩, st3⟩ := Jvm.LawKit.callS X2 hx (y := (⟨"java/lang/StringUTF16", "toBytes", "([CII)[B"⟩ : MethodName)) hown (mvT hZ (ow hw 36 rfl)) (mvT hZ (ow hw 37 rfl)) (mvT hZ (ow hw 18 rfl)) (mvT hZ (ow hw 38 rfl)) (by decide) (backOf (W := 0) (rmTB l Z a0 hw [] a1 k1 c0 c1 c2 c3 h2 n0 O S_ad S_hi S_lo V_a1) hZ (ow hw 38 rfl) (ow hw 18 rfl) (by decide) (by decide)) (g := (mkF m 23 #[rv a1, iv 0, iv 4, rv b1, iv (own_k c0 c1 c2 c3), .unset] [.int 4, .int 0, .ref a1])) rfl (by rw [hml]; rfl) (argsL := [(.ref a1), (.int (0 : Int32)), (.int (4 : Int32))]) (rest := []) (lenOf pd_1 rfl) rfl (by show 2 * 0 + _ ≤ _; exact Nat.le_of_eq rfl) (hb hby d4_23) (fun _ _ => ⟨rfl, e2, (by decide : 1 + 1 ≤ _), (by decide : 4 + 8 ≤ _)⟩)
  dsimp only [Pt.U, Pt.locs, Pt.cells, Pt.slots] at X3 lq3 yq3 zq3 st3 hQ3
  subst lq3 yq3 zq3
  obtain ⟨h3, e3⟩ : ∃ z, z = T3.heap := ⟨_, rfl⟩
  rw [← e3] at hQ3
  replace e3 := e3.symm
  obtain ⟨b3, kb3, rfl, Nq3, Kq3, hR3⟩ := hQ3
  have N := Fr.app N Nq3
  have V_a1 := V_a1.keep Kq3 nin0
  obtain ⟨g_b3, sz_b3, V_b3⟩ := hR3
  have O := O.keep Kq3 all0
  have K := K.trans Kq3 all0
  have ne_a1_b3 : a1 ≠ b3 := Nat.ne_of_lt (Nat.lt_of_lt_of_le lt_a1 sz_b3)
  have sz_b3 := Nat.le_trans szK sz_b3
  refine gb st3 ?_
  show G T3 (mkF m 26 #[rv a1, iv 0, iv 4, rv b1, iv (own_k c0 c1 c2 c3), .unset] [.ref b3])
  refine gb (fun _ k => XS.astore X3.here hx rfl (hb hby d4_26) rfl rfl (l' := #[rv a1, iv 0, iv 4, rv b1, iv (own_k c0 c1 c2 c3), rv b3]) rfl k) ?_
  show G T3 (mkF m 28 #[rv a1, iv 0, iv 4, rv b1, iv (own_k c0 c1 c2 c3), rv b3] [])
  obtain ⟨i, hi, hik, hic⟩ := own_kU hU
  rw [hik]
  show G T3 (mkF m 28 #[rv a1, iv 0, iv 4, rv b1, iv (Int32.ofNat i), rv b3] [])
  refine gb (fun _ k => XS.aload X3.here hx rfl (hb hby d4_28) rfl rfl (XS.iload X3.here hx rfl (hb hby d4_30) rfl k)) ?_
  show G T3 (mkF m 32 #[rv a1, iv 0, iv 4, rv b1, iv (Int32.ofNat i), rv b3] [.int (Int32.ofNat i), .ref b3])
  obtain ⟨_, _, ⟨T4, Lz4, kz4, nz4⟩, -, X4, ⟨Lc4, hQ4, lq4, yq4, zq4⟩, st4⟩ := Jvm.LawKit.callS X3 hx (y := (⟨"java/lang/StringUTF16", "getChar", "([BI)C"⟩ : MethodName)) hown (mvT hZ (ow hw 52 rfl)) (mvT hZ (ow hw 53 rfl)) (mvT hZ (ow hw 18 rfl)) (mvT hZ (ow hw 54 rfl)) (by decide) (backOf (W := 0) (rmG l Z a0 hw [] i hi b3 kb3 c0 c1 c2 c3 h3 n0 O S_ad S_hi S_lo V_b3 hg0 hh0 hg1 hh1 hg2 hh2 hg3 hh3) hZ (ow hw 54 rfl) (ow hw 18 rfl) (by decide) (by decide)) (g := (mkF m 32 #[rv a1, iv 0, iv 4, rv b1, iv (Int32.ofNat i), rv b3] [.int (Int32.ofNat i), .ref b3])) rfl (by rw [hml]; rfl) (argsL := [(.ref b3), (.int (Int32.ofNat i))]) (rest := []) (lenOf pd_7 rfl) rfl (by show 2 * 0 + _ ≤ _; exact Nat.le_of_eq rfl) (hb hby d4_32) (fun _ _ => ⟨rfl, e3, (by decide : 2 + 0 ≤ _), (by decide : 12 + 0 ≤ _)⟩)
  dsimp only [Pt.U, Pt.locs, Pt.cells, Pt.slots] at X4 lq4 yq4 zq4 st4 hQ4
  subst lq4 yq4 zq4
  obtain ⟨rfl, rfl, e4⟩ := hQ4
  try rw [List.append_nil] at X4
  refine gb st4 ?_
  show G T4 (mkF m 35 #[rv a1, iv 0, iv 4, rv b1, iv (Int32.ofNat i), rv b3] [.int (own_an c0 c1 c2 c3 i)])
  refine gb (fun _ k => XS.sipush X4.here hx rfl (hb hby d4_35) (XS.icmpYes X4.here hx rfl (pc0 := 38) (pc' := 54) rfl (hb hby d4_38) rfl (tlt hic).2.2.1 (by decide) (by decide) (XS.aload X4.here hx rfl (hb hby d4_54) rfl rfl k))) ?_
  show G T4 (mkF m 56 #[rv a1, iv 0, iv 4, rv b1, iv (Int32.ofNat i), rv b3] [.ref b3])
  exact go X4 (v := (some (.ref b3))) (fun h => by rw [Bd.returns] at h; cases h) (fun fs hr => retOut X4 hx Bd.returns rfl (Or.inr (Or.inr (Or.inr (Or.inr ⟨rfl, rfl, rfl⟩)))) (hb hby d4_56) hr) (by rw [e4]; exact ⟨_, _, rfl, N, K, g_b3, sz_b3, V_b3⟩) (by decide) (by decide)
def Q_rmCoU (Z : State) (a1 : Addr) (k1 : ClassId) (vs1 : List Value) (h0 : Heap) (n0 : Nat) : Option Value → Heap → List Loc → Prop := fun v h L => v = some (.int (1 : Int32)) ∧ L = [] ∧ h = h0
set_option maxRecDepth 65536 in
set_option maxHeartbeats 40000000 in
theorem rmCoU (l : Launch) (Z : State) (a0 : Array Value) (hw : ∀ d ∈ tables_1, d.before a0 Z = true) (ws : List Jvm.Cond) (a1 : Addr) (k1 : ClassId) (vs1 : List Value) (h0 : Heap) (n0 : Nat) (O : Old Z n0 h0) (V_a1 : Arv Z h0 a1 k1 .byte (8 : Int32) vs1 (.int (0 : Int32))) :
    MetFree l (⟨"java/lang/StringUTF16", "coderFromArrayLen", "([BI)B"⟩ : MethodName) (head1 (Jvm.Cond.code (⟨"java/lang/StringUTF16", "coderFromArrayLen", "([BI)B"⟩ : MethodName) jdk_52_method_15_code 2 (some .byte) :: ws) ({ frames := 0, cells := 0, slots := 0, locals := 0 } : Room)) (fun a U => a = #[(.ref a1), (.int (4 : Int32))] ∧ Z.Warmed39 U.vm ∧ U.heap = h0) (fun _ _ _ _ _ => True) (fun _ U o U' => ∃ v L, o = .returned v ∧ (Q_rmCoU Z a1 k1 vs1 h0 n0) v U'.heap L ∧ FrameEnd U o U' L ({ frames := 0, cells := 0, slots := 0, locals := 0 } : Room).cells ({ frames := 0, cells := 0, slots := 0, locals := 0 } : Room).slots) := by
  refine MetFree.of_bodySF (plainFor_of_name pn_0) hisR ?_
  intro p e s m args below meth c s₁ Bd hml0 hP hK
  obtain ⟨rfl, hZ, hh⟩ := hP
  have hx := Bd.exec
  have hby := Bd.bytes
  have hml : c.maxLocals = 2 := hml0
  have hown : s.vm.findClass "java/lang/StringUTF16" = some m.cls := findClass_of_methodNamed Bd.named
  have hnm := (name_of_methodNamed Bd.named Bd.method).1
  have hlk := BodyLoose.notSynchronized Bd
  have X0 : Stand p l e ({ frames := 0, cells := 0, slots := 0, locals := 0 } : Room) s m #[(.ref a1), (.int (4 : Int32))] below meth c s₁ [] 0 0 := Stand.of_body Bd
  have e0 : s₁.heap = h0 := by rw [← hh, Bd.state]; rfl
  have N := Fr.nil n0
  obtain ⟨G, hG⟩ : ∃ G : State → JFrame → Prop, G = OwnG p e below s ({ frames := 0, cells := 0, slots := 0, locals := 0 } : Room).cells ({ frames := 0, cells := 0, slots := 0, locals := 0 } : Room).slots (Q_rmCoU Z a1 k1 vs1 h0 n0) := ⟨_, rfl⟩
  have gb : ∀ {T T' : State} {g g' : JFrame}, (∀ t, Steps p.tables e below (T'.setTop g') t → Steps p.tables e below (T.setTop g) t) → G T' g' → G T g := by subst hG; exact fun k h => own_by k h
  have go : ∀ {T : State} {locs : List Loc} {cells slots : Nat} {g : JFrame} {v : Option Value}, Stand p l e ({ frames := 0, cells := 0, slots := 0, locals := 0 } : Room) s m #[(.ref a1), (.int (4 : Int32))] below meth c T locs cells slots → (meth.sig.returnType = none → v = none) → (∀ fs, (∀ (f : JFrame) (acts : List Action), f.method = m → f.locked = none → f.entered = [] → (doReturn e (T.setTop f) acts v).1 = T.setFrames fs) → Steps p.tables e below (T.setTop g) (T.setFrames fs)) → (Q_rmCoU Z a1 k1 vs1 h0 n0) v T.heap locs → cells ≤ ({ frames := 0, cells := 0, slots := 0, locals := 0 } : Room).cells → slots ≤ ({ frames := 0, cells := 0, slots := 0, locals := 0 } : Room).slots → G T g := by subst hG; exact fun X h1 h2 h3 h4 h5 => own_out X hlk h1 h2 h3 h4 h5
  show OwnG p e below s ({ frames := 0, cells := 0, slots := 0, locals := 0 } : Room).cells ({ frames := 0, cells := 0, slots := 0, locals := 0 } : Room).slots (Q_rmCoU Z a1 k1 vs1 h0 n0) s₁ (entryFrame m #[(.ref a1), (.int (4 : Int32))] 2)
  rw [← hG, ef_rmCoU m a1 (4 : Int32)]
  clear hG
  show G s₁ (mkF m 0 #[.val (.ref a1), .val (.int (4 : Int32))] [])
  refine gb (fun _ k => XS.iloadN X0.here hx rfl (hb hby d6_0) rfl (XS.aloadN X0.here hx rfl (hb hby d6_1) rfl rfl k)) ?_
  show G s₁ (mkF m 2 #[rv a1, iv 4] [.ref a1, .int 4])
  have V'1 := V_a1
  obtain ⟨cl1, Ar1, qk1, sz1, nn1, hs1, ft1⟩ := V'1
  refine gb (X0.arraylength hx (by rw [e0]; exact Ar1.1) (State.isArrayOf_alike hZ.alike Ar1.2.1) (g := (mkF m 2 #[rv a1, iv 4] [.ref a1, .int 4])) rfl rfl (hb hby d6_2)) ?_
  rw [len_of sz1 nn1]
  show G s₁ (mkF m 3 #[rv a1, iv 4] [.int 8, .int 4])
  refine gb (fun _ k => XS.isub X0.here hx rfl (hb hby d6_3) rfl (XS.bipush X0.here hx rfl (hb hby d6_4) (XS.iushr X0.here hx rfl (hb hby d6_6) rfl (XS.i2b X0.here hx rfl (hb hby d6_7) rfl k)))) ?_
  show G s₁ (mkF m 8 #[rv a1, iv 4] [.int 1])
  exact go X0 (v := (some (.int (1 : Int32)))) (fun h => by rw [Bd.returns] at h; cases h) (fun fs hr => retOut X0 hx Bd.returns rfl (Or.inl ⟨rfl, by simp, _, rfl⟩) (hb hby d6_8) hr) (⟨rfl, rfl, e0⟩) (by decide) (by decide)
def Q_rmS4U (Z : State) (a1 a2 : Addr) (k2 : ClassId) (c0 c1 c2 c3 : Int32) (h0 : Heap) (n0 : Nat) (zc : Int32) : Option Value → Heap → List Loc → Prop := fun v h L => ∃ (b : Addr) (kb : ClassId), v = none ∧ Fr n0 L ∧ Keep h0 h [a1] ∧ Exa Z h a1 "java/lang/String" ∧ Fld Z h a1 "java/lang/String" "coder" "B" (.int (1 : Int32)) ∧ Fld Z h a1 "java/lang/String" "value" "[B" (.ref b) ∧ n0 ≤ b ∧ h0.size ≤ b ∧ Arv Z h b kb .byte (8 : Int32) [(.int (nar .byte ((c0 >>> ((0 : Int32) &&& 31)).toInt8.toInt32))), (.int (nar .byte ((c0 >>> ((8 : Int32) &&& 31)).toInt8.toInt32))), (.int (nar .byte ((c1 >>> ((0 : Int32) &&& 31)).toInt8.toInt32))), (.int (nar .byte ((c1 >>> ((8 : Int32) &&& 31)).toInt8.toInt32))), (.int (nar .byte ((c2 >>> ((0 : Int32) &&& 31)).toInt8.toInt32))), (.int (nar .byte ((c2 >>> ((8 : Int32) &&& 31)).toInt8.toInt32))), (.int (nar .byte ((c3 >>> ((0 : Int32) &&& 31)).toInt8.toInt32))), (.int (nar .byte ((c3 >>> ((8 : Int32) &&& 31)).toInt8.toInt32)))] (.int (0 : Int32))
set_option maxRecDepth 65536 in
set_option maxHeartbeats 40000000 in
theorem rmS4U (l : Launch) (Z : State) (a0 : Array Value) (hw : ∀ d ∈ tables_1, d.before a0 Z = true) (ws : List Jvm.Cond) (a1 a2 : Addr) (k2 : ClassId) (c0 c1 c2 c3 : Int32) (h0 : Heap) (n0 : Nat) (O : Old Z n0 h0) (S_ad : Sta Z Z.heap "java/lang/StringUTF16" "$assertionsDisabled" "Z" (.int (1 : Int32))) (S_hi : Sta Z Z.heap "java/lang/StringUTF16" "HI_BYTE_SHIFT" "I" (.int (0 : Int32))) (S_lo : Sta Z Z.heap "java/lang/StringUTF16" "LO_BYTE_SHIFT" "I" (.int (8 : Int32))) (E_a1 : Exa Z h0 a1 "java/lang/String") (F_coder_a1 : Fld Z h0 a1 "java/lang/String" "coder" "B" (.int (0 : Int32))) (F_value_a1 : Fld Z h0 a1 "java/lang/String" "value" "[B" .null) (g_a1 : n0 ≤ a1) (V_a2 : Arv Z h0 a2 k2 .char (4 : Int32) [(.int c0), (.int c1), (.int c2), (.int c3)] (.int (0 : Int32))) (ne_a2_a1 : a2 ≠ a1) (hU : ¬ own_k c0 c1 c2 c3 = 4) (hg0 : ¬ c0 < (0 : Int32)) (hh0 : ¬ (65535 : Int32) < c0) (hg1 : ¬ c1 < (0 : Int32)) (hh1 : ¬ (65535 : Int32) < c1) (hg2 : ¬ c2 < (0 : Int32)) (hh2 : ¬ (65535 : Int32) < c2) (hg3 : ¬ c3 < (0 : Int32)) (hh3 : ¬ (65535 : Int32) < c3) (zc : Int32) (S_cs : Sta Z Z.heap "java/lang/String" "COMPACT_STRINGS" "Z" (.int zc)) (hzc : ¬ zc = (0 : Int32)) :
    MetFree l (⟨"java/lang/String", "<init>", "([CIILjava/lang/Void;)V"⟩ : MethodName) (head1 (Jvm.Cond.code (⟨"java/lang/String", "<init>", "([CIILjava/lang/Void;)V"⟩ : MethodName) jdk_42_method_149_code 6 none :: ws) ({ frames := 4, cells := 2, slots := 12, locals := 57 } : Room)) (fun a U => a = #[(.ref a1), (.ref a2), (.int (0 : Int32)), (.int (4 : Int32)), .null] ∧ Z.Warmed39 U.vm ∧ U.heap = h0) (fun _ _ _ _ _ => True) (fun _ U o U' => ∃ v L, o = .returned v ∧ (Q_rmS4U Z a1 a2 k2 c0 c1 c2 c3 h0 n0 zc) v U'.heap L ∧ FrameEnd U o U' L ({ frames := 4, cells := 2, slots := 12, locals := 57 } : Room).cells ({ frames := 4, cells := 2, slots := 12, locals := 57 } : Room).slots) := by
  refine MetFree.of_bodySF (plainFor_of_name pn_1) hisR ?_
  intro p e s m args below meth c s₁ Bd hml0 hP hK
  obtain ⟨rfl, hZ, hh⟩ := hP
  have hx := Bd.exec
  have hby := Bd.bytes
  have hml : c.maxLocals = 6 := hml0
  have hown : s.vm.findClass "java/lang/String" = some m.cls := findClass_of_methodNamed Bd.named
  have hnm := (name_of_methodNamed Bd.named Bd.method).1
  have hlk := BodyLoose.notSynchronized Bd
  have X0 : Stand p l e ({ frames := 4, cells := 2, slots := 12, locals := 57 } : Room) s m #[(.ref a1), (.ref a2), (.int (0 : Int32)), (.int (4 : Int32)), .null] below meth c s₁ [] 0 0 := Stand.of_body Bd
  have e0 : s₁.heap = h0 := by rw [← hh, Bd.state]; rfl
  have N := Fr.nil n0
  have K := Keep.refl h0 [a1]
  obtain ⟨G, hG⟩ : ∃ G : State → JFrame → Prop, G = OwnG p e below s ({ frames := 4, cells := 2, slots := 12, locals := 57 } : Room).cells ({ frames := 4, cells := 2, slots := 12, locals := 57 } : Room).slots (Q_rmS4U Z a1 a2 k2 c0 c1 c2 c3 h0 n0 zc) := ⟨_, rfl⟩
  have gb : ∀ {T T' : State} {g g' : JFrame}, (∀ t, Steps p.tables e below (T'.setTop g') t → Steps p.tables e below (T.setTop g) t) → G T' g' → G T g := by subst hG; exact fun k h => own_by k h
  have go : ∀ {T : State} {locs : List Loc} {cells slots : Nat} {g : JFrame} {v : Option Value}, Stand p l e ({ frames := 4, cells := 2, slots := 12, locals := 57 } : Room) s m #[(.ref a1), (.ref a2), (.int (0 : Int32)), (.int (4 : Int32)), .null] below meth c T locs cells slots → (meth.sig.returnType = none → v = none) → (∀ fs, (∀ (f : JFrame) (acts : List Action), f.method = m → f.locked = none → f.entered = [] → (doReturn e (T.setTop f) acts v).1 = T.setFrames fs) → Steps p.tables e below (T.setTop g) (T.setFrames fs)) → (Q_rmS4U Z a1 a2 k2 c0 c1 c2 c3 h0 n0 zc) v T.heap locs → cells ≤ ({ frames := 4, cells := 2, slots := 12, locals := 57 } : Room).cells → slots ≤ ({ frames := 4, cells := 2, slots := 12, locals := 57 } : Room).slots → G T g := by subst hG; exact fun X h1 h2 h3 h4 h5 => own_out X hlk h1 h2 h3 h4 h5
  show OwnG p e below s ({ frames := 4, cells := 2, slots := 12, locals := 57 } : Room).cells ({ frames := 4, cells := 2, slots := 12, locals := 57 } : Room).slots (Q_rmS4U Z a1 a2 k2 c0 c1 c2 c3 h0 n0 zc) s₁ (entryFrame m #[(.ref a1), (.ref a2), (.int (0 : Int32)), (.int (4 : Int32)), .null] 6)
  rw [← hG, ef_rmS4U m a1 a2 (0 : Int32) (4 : Int32)]
  clear hG
  show G s₁ (mkF m 0 #[.val (.ref a1), .val (.ref a2), .val (.int (0 : Int32)), .val (.int (4 : Int32)), .val .null, .unset] [])
  refine gb (fun _ k => XS.aloadN X0.here hx rfl (hb hby d2_0) rfl rfl k) ?_
  show G s₁ (mkF m 1 #[rv a1, rv a2, iv 0, iv 4, .val .null, .unset] [.ref a1])
  obtain ⟨T1, X1, e1, st1⟩ := initO X0 hx hZ hown (ow hw 12 rfl) (ow hw 13 rfl) (ow hw 14 rfl) e0 (g := (mkF m 1 #[rv a1, rv a2, iv 0, iv 4, .val .null, .unset] [.ref a1])) rfl (by rw [hml]; rfl) rfl (hb hby d2_1) (by decide) (W := 0) (by show 2 * 0 + _ ≤ _; exact Nat.le_of_eq rfl) (by decide)
  refine gb st1 ?_
  show G T1 (mkF m 4 #[rv a1, rv a2, iv 0, iv 4, .val .null, .unset] [])
  refine gb (fun _ k => XS.iloadN X1.here hx rfl (hb hby d2_4) rfl (XS.ifYes X1.here hx rfl (pc0 := 5) (pc' := 27) rfl (hb hby d2_5) rfl ((if0 _ _).trans (feq (by decide : ¬ ((4 : Int32) = (0 : Int32)))).2) (by decide) (by decide) k)) ?_
  show G T1 (mkF m 27 #[rv a1, rv a2, iv 0, iv 4, .val .null, .unset] [])
  obtain ⟨T2, X2, e2, st2⟩ := getS2 X1 hx hZ hown (host := "") (Or.inl (ow hw 15 rfl)) Via.refl e1 (S_cs.ext O.2) (g := (mkF m 27 #[rv a1, rv a2, iv 0, iv 4, .val .null, .unset] [])) rfl (hb hby d2_27)
  refine gb st2 ?_
  show G T2 (mkF m 30 #[rv a1, rv a2, iv 0, iv 4, .val .null, .unset] [.int zc])
  refine gb (fun _ k => XS.ifNo X2.here hx rfl (hb hby d2_30) rfl ((if0 _ _).trans (feq hzc).1) (XS.aloadN X2.here hx rfl (hb hby d2_33) rfl rfl (XS.iloadN X2.here hx rfl (hb hby d2_34) rfl (XS.iloadN X2.here hx rfl (hb hby d2_35) rfl k)))) ?_
  show G T2 (mkF m 36 #[rv a1, rv a2, iv 0, iv 4, .val .null, .unset] [.int 4, .int 0, .ref a2])
  have lt_a1 := E_a1.lt
  have lt_a2 := V_a2.lt
  have szK := K.1
  obtain ⟨_, _, ⟨T3, Lz3, kz3, nz3⟩, -, X3, ⟨Lc3, hQ3, lq3, yq3, zq3⟩, st3⟩ := Jvm.LawKit.callS X2 hx (y := (⟨"java/lang/StringUTF16", "compress", "([CII)[B"⟩ : MethodName)) hown (mvT hZ (ow hw 16 rfl)) (mvT hZ (ow hw 17 rfl)) (mvT hZ (ow hw 18 rfl)) (mvT hZ (ow hw 19 rfl)) (by decide) (backOf (W := 0) (rmC1U l Z a0 hw [] a2 k2 c0 c1 c2 c3 h0 n0 O S_ad S_hi S_lo V_a2 hU hg0 hh0 hg1 hh1 hg2 hh2 hg3 hh3) hZ (ow hw 19 rfl) (ow hw 18 rfl) (by decide) (by decide)) (g := (mkF m 36 #[rv a1, rv a2, iv 0, iv 4, .val .null, .unset] [.int 4, .int 0, .ref a2])) rfl (by rw [hml]; rfl) (argsL := [(.ref a2), (.int (0 : Int32)), (.int (4 : Int32))]) (rest := []) (lenOf pd_1 rfl) rfl (by show 2 * 0 + _ ≤ _; exact Nat.le_of_eq rfl) (hb hby d2_36) (fun _ _ => ⟨rfl, e2, (by decide : 0 + 2 ≤ _), (by decide : 0 + 12 ≤ _)⟩)
  dsimp only [Pt.U, Pt.locs, Pt.cells, Pt.slots] at X3 lq3 yq3 zq3 st3 hQ3
  subst lq3 yq3 zq3
  obtain ⟨h3, e3⟩ : ∃ z, z = T3.heap := ⟨_, rfl⟩
  rw [← e3] at hQ3
  replace e3 := e3.symm
  obtain ⟨b3, kb3, rfl, Nq3, Kq3, hR3⟩ := hQ3
  have N := Fr.app N Nq3
  have E_a1 := E_a1.keep Kq3
  have F_coder_a1 := F_coder_a1.keep Kq3 nin0
  have F_value_a1 := F_value_a1.keep Kq3 nin0
  have V_a2 := V_a2.keep Kq3 nin0
  obtain ⟨g_b3, sz_b3, V_b3⟩ := hR3
  have O := O.keep Kq3 all0
  have K := K.trans Kq3 all0
  have ne_a1_b3 : a1 ≠ b3 := Nat.ne_of_lt (Nat.lt_of_lt_of_le lt_a1 sz_b3)
  have ne_a2_b3 : a2 ≠ b3 := Nat.ne_of_lt (Nat.lt_of_lt_of_le lt_a2 sz_b3)
  have sz_b3 := Nat.le_trans szK sz_b3
  refine gb st3 ?_
  show G T3 (mkF m 39 #[rv a1, rv a2, iv 0, iv 4, .val .null, .unset] [.ref b3])
  refine gb (fun _ k => XS.astore X3.here hx rfl (hb hby d2_39) rfl rfl (l' := #[rv a1, rv a2, iv 0, iv 4, .val .null, rv b3]) rfl (XS.aloadN X3.here hx rfl (hb hby d2_41) rfl rfl (XS.aload X3.here hx rfl (hb hby d2_42) rfl rfl (XS.iloadN X3.here hx rfl (hb hby d2_44) rfl k)))) ?_
  show G T3 (mkF m 45 #[rv a1, rv a2, iv 0, iv 4, .val .null, rv b3] [.int 4, .ref b3, .ref a1])
  obtain ⟨_, _, ⟨T4, Lz4, kz4, nz4⟩, -, X4, ⟨Lc4, hQ4, lq4, yq4, zq4⟩, st4⟩ := Jvm.LawKit.callS X3 hx (y := (⟨"java/lang/StringUTF16", "coderFromArrayLen", "([BI)B"⟩ : MethodName)) hown (mvT hZ (ow hw 24 rfl)) (mvT hZ (ow hw 25 rfl)) (mvT hZ (ow hw 18 rfl)) (mvT hZ (ow hw 26 rfl)) (by decide) (backOf (W := 1) (rmCoU l Z a0 hw [] b3 kb3 _ h3 n0 O V_b3) hZ (ow hw 26 rfl) (ow hw 18 rfl) (by decide) (by decide)) (g := (mkF m 45 #[rv a1, rv a2, iv 0, iv 4, .val .null, rv b3] [.int 4, .ref b3, .ref a1])) rfl (by rw [hml]; rfl) (argsL := [(.ref b3), (.int (4 : Int32))]) (rest := [(.ref a1)]) (lenOf pd_2 rfl) rfl (by show 2 * 0 + _ ≤ _; exact Nat.le_of_eq rfl) (hb hby d2_45) (fun _ _ => ⟨rfl, e3, (by decide : 2 + 0 ≤ _), (by decide : 12 + 0 ≤ _)⟩)
  dsimp only [Pt.U, Pt.locs, Pt.cells, Pt.slots] at X4 lq4 yq4 zq4 st4 hQ4
  subst lq4 yq4 zq4
  obtain ⟨rfl, rfl, e4⟩ := hQ4
  try rw [List.append_nil] at X4
  refine gb st4 ?_
  show G T4 (mkF m 48 #[rv a1, rv a2, iv 0, iv 4, .val .null, rv b3] [.int 1, .ref a1])
  obtain ⟨T5, h5, X5, e5, W5, st5⟩ := putFN X4 hx hZ hown (ow hw 27 rfl) Via.refl e4 F_coder_a1 E_a1 (Or.inr ⟨(ow hw 28 rfl), rfl, hnm⟩) (ow hw 3 rfl) (ty := .byte) (v' := (.int (1 : Int32))) (by decide) rfl (by decide) (g := (mkF m 48 #[rv a1, rv a2, iv 0, iv 4, .val .null, rv b3] [.int 1, .ref a1])) rfl rfl (hb hby d2_48)
  refine gb st5 ?_
  have F_coder_a1 := F_coder_a1.same W5
  have E_a1 := E_a1.wr W5
  have F_value_a1 := F_value_a1.other W5 (Or.inr (slot_ne (Or.inr (ow hw 30 rfl)) (Or.inr (ow hw 28 rfl)) (by decide) (t := (.array .byte)) (t' := .byte) (by decide) (by decide)))
  have V_a2 := V_a2.other W5 ne_a2_a1
  have V_b3 := V_b3.other W5 (Ne.symm ne_a1_b3)
  have O := O.wr W5 g_a1
  have K := K.wr W5 (Or.inl (List.mem_of_getElem? (i := 0) rfl))
  have N := Fr.snoc X5 N g_a1
  show G T5 (mkF m 51 #[rv a1, rv a2, iv 0, iv 4, .val .null, rv b3] [])
  refine gb (fun _ k => XS.aloadN X5.here hx rfl (hb hby d2_51) rfl rfl (XS.aload X5.here hx rfl (hb hby d2_52) rfl rfl k)) ?_
  show G T5 (mkF m 54 #[rv a1, rv a2, iv 0, iv 4, .val .null, rv b3] [.ref b3, .ref a1])
  obtain ⟨T6, h6, X6, e6, W6, st6⟩ := putF X5 hx hZ hown (host := "") (Or.inl (ow hw 29 rfl)) Via.refl e5 F_value_a1 E_a1 (Or.inr ⟨(ow hw 30 rfl), rfl, hnm⟩) (ow hw 3 rfl) (ty := (.array .byte)) (by decide) rfl rfl (g := (mkF m 54 #[rv a1, rv a2, iv 0, iv 4, .val .null, rv b3] [.ref b3, .ref a1])) rfl rfl (hb hby d2_54)
  refine gb st6 ?_
  have F_value_a1 := F_value_a1.same W6
  have E_a1 := E_a1.wr W6
  have V_a2 := V_a2.other W6 ne_a2_a1
  have V_b3 := V_b3.other W6 (Ne.symm ne_a1_b3)
  have F_coder_a1 := F_coder_a1.other W6 (Or.inr (slot_ne (Or.inr (ow hw 28 rfl)) (Or.inr (ow hw 30 rfl)) (by decide) (t := .byte) (t' := (.array .byte)) (by decide) (by decide)))
  have O := O.wr W6 g_a1
  have K := K.wr W6 (Or.inl (List.mem_of_getElem? (i := 0) rfl))
  have N := Fr.snoc X6 N g_a1
  show G T6 (mkF m 57 #[rv a1, rv a2, iv 0, iv 4, .val .null, rv b3] [])
  exact go X6 (v := none) (fun _ => rfl) (fun fs hr => X6.returnOut hx Bd.returns (hb hby d2_57) hr) (by rw [e6]; exact ⟨_, _, rfl, N, K, E_a1, F_coder_a1, F_value_a1, g_b3, sz_b3, V_b3⟩) (by decide) (by decide)
def Q_rmS1U (Z : State) (a1 a2 : Addr) (k2 : ClassId) (c0 c1 c2 c3 : Int32) (h0 : Heap) (n0 : Nat) (zc : Int32) : Option Value → Heap → List Loc → Prop := fun v h L => ∃ (b : Addr) (kb : ClassId), v = none ∧ Fr n0 L ∧ Keep h0 h [a1] ∧ Exa Z h a1 "java/lang/String" ∧ Fld Z h a1 "java/lang/String" "coder" "B" (.int (1 : Int32)) ∧ Fld Z h a1 "java/lang/String" "value" "[B" (.ref b) ∧ n0 ≤ b ∧ h0.size ≤ b ∧ Arv Z h b kb .byte (8 : Int32) [(.int (nar .byte ((c0 >>> ((0 : Int32) &&& 31)).toInt8.toInt32))), (.int (nar .byte ((c0 >>> ((8 : Int32) &&& 31)).toInt8.toInt32))), (.int (nar .byte ((c1 >>> ((0 : Int32) &&& 31)).toInt8.toInt32))), (.int (nar .byte ((c1 >>> ((8 : Int32) &&& 31)).toInt8.toInt32))), (.int (nar .byte ((c2 >>> ((0 : Int32) &&& 31)).toInt8.toInt32))), (.int (nar .byte ((c2 >>> ((8 : Int32) &&& 31)).toInt8.toInt32))), (.int (nar .byte ((c3 >>> ((0 : Int32) &&& 31)).toInt8.toInt32))), (.int (nar .byte ((c3 >>> ((8 : Int32) &&& 31)).toInt8.toInt32)))] (.int (0 : Int32))
set_option maxRecDepth 65536 in
set_option maxHeartbeats 40000000 in
theorem rmS1U (l : Launch) (Z : State) (a0 : Array Value) (hw : ∀ d ∈ tables_1, d.before a0 Z = true) (ws : List Jvm.Cond) (a1 a2 : Addr) (k2 : ClassId) (c0 c1 c2 c3 : Int32) (h0 : Heap) (n0 : Nat) (O : Old Z n0 h0) (S_ad : Sta Z Z.heap "java/lang/StringUTF16" "$assertionsDisabled" "Z" (.int (1 : Int32))) (S_hi : Sta Z Z.heap "java/lang/StringUTF16" "HI_BYTE_SHIFT" "I" (.int (0 : Int32))) (S_lo : Sta Z Z.heap "java/lang/StringUTF16" "LO_BYTE_SHIFT" "I" (.int (8 : Int32))) (E_a1 : Exa Z h0 a1 "java/lang/String") (F_coder_a1 : Fld Z h0 a1 "java/lang/String" "coder" "B" (.int (0 : Int32))) (F_value_a1 : Fld Z h0 a1 "java/lang/String" "value" "[B" .null) (g_a1 : n0 ≤ a1) (V_a2 : Arv Z h0 a2 k2 .char (4 : Int32) [(.int c0), (.int c1), (.int c2), (.int c3)] (.int (0 : Int32))) (ne_a2_a1 : a2 ≠ a1) (hU : ¬ own_k c0 c1 c2 c3 = 4) (hg0 : ¬ c0 < (0 : Int32)) (hh0 : ¬ (65535 : Int32) < c0) (hg1 : ¬ c1 < (0 : Int32)) (hh1 : ¬ (65535 : Int32) < c1) (hg2 : ¬ c2 < (0 : Int32)) (hh2 : ¬ (65535 : Int32) < c2) (hg3 : ¬ c3 < (0 : Int32)) (hh3 : ¬ (65535 : Int32) < c3) (zc : Int32) (S_cs : Sta Z Z.heap "java/lang/String" "COMPACT_STRINGS" "Z" (.int zc)) (hzc : ¬ zc = (0 : Int32)) :
    MetFree l (⟨"java/lang/String", "<init>", "([C)V"⟩ : MethodName) (head1 (Jvm.Cond.code (⟨"java/lang/String", "<init>", "([C)V"⟩ : MethodName) jdk_42_method_3_code 2 none :: ws) ({ frames := 5, cells := 2, slots := 12, locals := 74 } : Room)) (fun a U => a = #[(.ref a1), (.ref a2)] ∧ Z.Warmed39 U.vm ∧ U.heap = h0) (fun _ _ _ _ _ => True) (fun _ U o U' => ∃ v L, o = .returned v ∧ (Q_rmS1U Z a1 a2 k2 c0 c1 c2 c3 h0 n0 zc) v U'.heap L ∧ FrameEnd U o U' L ({ frames := 5, cells := 2, slots := 12, locals := 74 } : Room).cells ({ frames := 5, cells := 2, slots := 12, locals := 74 } : Room).slots) := by
  refine MetFree.of_bodySF (plainFor_of_name pn_1) hisR ?_
  intro p e s m args below meth c s₁ Bd hml0 hP hK
  obtain ⟨rfl, hZ, hh⟩ := hP
  have hx := Bd.exec
  have hby := Bd.bytes
  have hml : c.maxLocals = 2 := hml0
  have hown : s.vm.findClass "java/lang/String" = some m.cls := findClass_of_methodNamed Bd.named
  have hnm := (name_of_methodNamed Bd.named Bd.method).1
  have hlk := BodyLoose.notSynchronized Bd
  have X0 : Stand p l e ({ frames := 5, cells := 2, slots := 12, locals := 74 } : Room) s m #[(.ref a1), (.ref a2)] below meth c s₁ [] 0 0 := Stand.of_body Bd
  have e0 : s₁.heap = h0 := by rw [← hh, Bd.state]; rfl
  have N := Fr.nil n0
  have K := Keep.refl h0 [a1]
  obtain ⟨G, hG⟩ : ∃ G : State → JFrame → Prop, G = OwnG p e below s ({ frames := 5, cells := 2, slots := 12, locals := 74 } : Room).cells ({ frames := 5, cells := 2, slots := 12, locals := 74 } : Room).slots (Q_rmS1U Z a1 a2 k2 c0 c1 c2 c3 h0 n0 zc) := ⟨_, rfl⟩
  have gb : ∀ {T T' : State} {g g' : JFrame}, (∀ t, Steps p.tables e below (T'.setTop g') t → Steps p.tables e below (T.setTop g) t) → G T' g' → G T g := by subst hG; exact fun k h => own_by k h
  have go : ∀ {T : State} {locs : List Loc} {cells slots : Nat} {g : JFrame} {v : Option Value}, Stand p l e ({ frames := 5, cells := 2, slots := 12, locals := 74 } : Room) s m #[(.ref a1), (.ref a2)] below meth c T locs cells slots → (meth.sig.returnType = none → v = none) → (∀ fs, (∀ (f : JFrame) (acts : List Action), f.method = m → f.locked = none → f.entered = [] → (doReturn e (T.setTop f) acts v).1 = T.setFrames fs) → Steps p.tables e below (T.setTop g) (T.setFrames fs)) → (Q_rmS1U Z a1 a2 k2 c0 c1 c2 c3 h0 n0 zc) v T.heap locs → cells ≤ ({ frames := 5, cells := 2, slots := 12, locals := 74 } : Room).cells → slots ≤ ({ frames := 5, cells := 2, slots := 12, locals := 74 } : Room).slots → G T g := by subst hG; exact fun X h1 h2 h3 h4 h5 => own_out X hlk h1 h2 h3 h4 h5
  show OwnG p e below s ({ frames := 5, cells := 2, slots := 12, locals := 74 } : Room).cells ({ frames := 5, cells := 2, slots := 12, locals := 74 } : Room).slots (Q_rmS1U Z a1 a2 k2 c0 c1 c2 c3 h0 n0 zc) s₁ (entryFrame m #[(.ref a1), (.ref a2)] 2)
  rw [← hG, ef_rmS1U m a1 a2]
  clear hG
  show G s₁ (mkF m 0 #[.val (.ref a1), .val (.ref a2)] [])
  refine gb (fun _ k => XS.aloadN X0.here hx rfl (hb hby d1_0) rfl rfl (XS.aloadN X0.here hx rfl (hb hby d1_1) rfl rfl (XS.iconst X0.here hx rfl (hb hby d1_2) (XS.aloadN X0.here hx rfl (hb hby d1_3) rfl rfl k)))) ?_
  show G s₁ (mkF m 4 #[rv a1, rv a2] [.ref a2, .int 0, .ref a2, .ref a1])
  have V'1 := V_a2
  obtain ⟨cl1, Ar1, qk1, sz1, nn1, hs1, ft1⟩ := V'1
  refine gb (X0.arraylength hx (by rw [e0]; exact Ar1.1) (State.isArrayOf_alike hZ.alike Ar1.2.1) (g := (mkF m 4 #[rv a1, rv a2] [.ref a2, .int 0, .ref a2, .ref a1])) rfl rfl (hb hby d1_4)) ?_
  rw [len_of sz1 nn1]
  show G s₁ (mkF m 5 #[rv a1, rv a2] [.int 4, .int 0, .ref a2, .ref a1])
  refine gb (fun _ k => XS.aconstNull X0.here hx rfl (hb hby d1_5) k) ?_
  show G s₁ (mkF m 6 #[rv a1, rv a2] [.null, .int 4, .int 0, .ref a2, .ref a1])
  obtain ⟨_, _, ⟨T2, Lz2, kz2, nz2⟩, -, X2, ⟨Lc2, hQ2, lq2, yq2, zq2⟩, st2⟩ := X0.specialBack hx (y := (⟨"java/lang/String", "<init>", "([CIILjava/lang/Void;)V"⟩ : MethodName)) rfl hown (mvT hZ (ow hw 8 rfl)) (mvT hZ (ow hw 9 rfl)) (mvT hZ (ow hw 11 rfl)) (by decide) (backOf (W := 0) (rmS4U l Z a0 hw [] a1 a2 k2 c0 c1 c2 c3 h0 n0 O S_ad S_hi S_lo E_a1 F_coder_a1 F_value_a1 g_a1 V_a2 ne_a2_a1 hU hg0 hh0 hg1 hh1 hg2 hh2 hg3 hh3 zc S_cs hzc) hZ (ow hw 11 rfl) (ow hw 4 rfl) (by decide) (by decide)) (g := (mkF m 6 #[rv a1, rv a2] [.null, .int 4, .int 0, .ref a2, .ref a1])) rfl (by rw [hml]; rfl) (Steps.refl _) (a := a1) (argsL := [(.ref a2), (.int (0 : Int32)), (.int (4 : Int32)), .null]) (rest := []) (lenOf pd_3 rfl) rfl (by show 2 * 0 + _ ≤ _; exact Nat.le_of_eq rfl) (hb hby d1_6) (fun _ _ => ⟨rfl, e0, (by decide : 0 + 2 ≤ _), (by decide : 0 + 12 ≤ _)⟩)
  dsimp only [Pt.U, Pt.locs, Pt.cells, Pt.slots] at X2 lq2 yq2 zq2 st2 hQ2
  subst lq2 yq2 zq2
  obtain ⟨h2, e2⟩ : ∃ z, z = T2.heap := ⟨_, rfl⟩
  rw [← e2] at hQ2
  replace e2 := e2.symm
  obtain ⟨b2, kb2, rfl, Nq2, Kq2, hR2⟩ := hQ2
  have N := Fr.app N Nq2
  have E_a1 := E_a1.keep Kq2
  have V_a2 := V_a2.keep Kq2 (ninS ne_a2_a1 nin0)
  obtain ⟨E_a1, Fc2, Fv2, gb2, sb2, Vb2⟩ := hR2
  have O := O.keep Kq2 (allS g_a1 all0)
  have K := K.trans Kq2 (allS (Or.inl (List.mem_of_getElem? (i := 0) rfl)) all0)
  refine gb (fun _ k => st2.trans k) ?_
  show G T2 (mkF m 9 #[rv a1, rv a2] [])
  exact go X2 (v := none) (fun _ => rfl) (fun fs hr => X2.returnOut hx Bd.returns (hb hby d1_9) hr) (by rw [e2]; exact ⟨_, _, rfl, N, K, E_a1, Fc2, Fv2, gb2, sb2, Vb2⟩) (by decide) (by decide)
def Q_rmPX (Z : State) (p0 p1 : Int32) (sf : Value) (h0 : Heap) (n0 : Nat) : Option Value → Heap → List Loc → Prop := fun v h L => v = some (.int p0) ∧ L = [] ∧ h = h0
set_option maxRecDepth 65536 in
set_option maxHeartbeats 40000000 in
theorem rmPX (l : Launch) (Z : State) (a0 : Array Value) (hw : ∀ d ∈ tables_1, d.before a0 Z = true) (ws : List Jvm.Cond) (p0 p1 : Int32) (sf : Value) (hr_sf : sf.isRef = true) (h0 : Heap) (n0 : Nat) (O : Old Z n0 h0) (hp0 : ¬ p0 < (0 : Int32)) (hp1 : p0 < p1) :
    MetFree l (⟨"jdk/internal/util/Preconditions", "checkIndex", "(IILjava/util/function/BiFunction;)I"⟩ : MethodName) (head1 (Jvm.Cond.code (⟨"jdk/internal/util/Preconditions", "checkIndex", "(IILjava/util/function/BiFunction;)I"⟩ : MethodName) jdk_41_method_11_code 3 (some .int) :: ws) ({ frames := 0, cells := 0, slots := 0, locals := 0 } : Room)) (fun a U => a = #[(.int p0), (.int p1), sf] ∧ Z.Warmed39 U.vm ∧ U.heap = h0) (fun _ _ _ _ _ => True) (fun _ U o U' => ∃ v L, o = .returned v ∧ (Q_rmPX Z p0 p1 sf h0 n0) v U'.heap L ∧ FrameEnd U o U' L ({ frames := 0, cells := 0, slots := 0, locals := 0 } : Room).cells ({ frames := 0, cells := 0, slots := 0, locals := 0 } : Room).slots) := by
  refine MetFree.of_bodySF (plainFor_of_name pn_2) hisR ?_
  intro p e s m args below meth c s₁ Bd hml0 hP hK
  obtain ⟨rfl, hZ, hh⟩ := hP
  have hx := Bd.exec
  have hby := Bd.bytes
  have hml : c.maxLocals = 3 := hml0
  have hown : s.vm.findClass "jdk/internal/util/Preconditions" = some m.cls := findClass_of_methodNamed Bd.named
  have hnm := (name_of_methodNamed Bd.named Bd.method).1
  have hlk := BodyLoose.notSynchronized Bd
  have X0 : Stand p l e ({ frames := 0, cells := 0, slots := 0, locals := 0 } : Room) s m #[(.int p0), (.int p1), sf] below meth c s₁ [] 0 0 := Stand.of_body Bd
  have e0 : s₁.heap = h0 := by rw [← hh, Bd.state]; rfl
  have N := Fr.nil n0
  obtain ⟨G, hG⟩ : ∃ G : State → JFrame → Prop, G = OwnG p e below s ({ frames := 0, cells := 0, slots := 0, locals := 0 } : Room).cells ({ frames := 0, cells := 0, slots := 0, locals := 0 } : Room).slots (Q_rmPX Z p0 p1 sf h0 n0) := ⟨_, rfl⟩
  have gb : ∀ {T T' : State} {g g' : JFrame}, (∀ t, Steps p.tables e below (T'.setTop g') t → Steps p.tables e below (T.setTop g) t) → G T' g' → G T g := by subst hG; exact fun k h => own_by k h
  have go : ∀ {T : State} {locs : List Loc} {cells slots : Nat} {g : JFrame} {v : Option Value}, Stand p l e ({ frames := 0, cells := 0, slots := 0, locals := 0 } : Room) s m #[(.int p0), (.int p1), sf] below meth c T locs cells slots → (meth.sig.returnType = none → v = none) → (∀ fs, (∀ (f : JFrame) (acts : List Action), f.method = m → f.locked = none → f.entered = [] → (doReturn e (T.setTop f) acts v).1 = T.setFrames fs) → Steps p.tables e below (T.setTop g) (T.setFrames fs)) → (Q_rmPX Z p0 p1 sf h0 n0) v T.heap locs → cells ≤ ({ frames := 0, cells := 0, slots := 0, locals := 0 } : Room).cells → slots ≤ ({ frames := 0, cells := 0, slots := 0, locals := 0 } : Room).slots → G T g := by subst hG; exact fun X h1 h2 h3 h4 h5 => own_out X hlk h1 h2 h3 h4 h5
  show OwnG p e below s ({ frames := 0, cells := 0, slots := 0, locals := 0 } : Room).cells ({ frames := 0, cells := 0, slots := 0, locals := 0 } : Room).slots (Q_rmPX Z p0 p1 sf h0 n0) s₁ (entryFrame m #[(.int p0), (.int p1), sf] 3)
  rw [← hG, ef_rmPX m p0 p1 sf hr_sf]
  clear hG
  show G s₁ (mkF m 0 #[.val (.int p0), .val (.int p1), .val sf] [])
  refine gb (fun _ k => XS.iloadN X0.here hx rfl (hb hby d19_0) rfl (XS.ifNo X0.here hx rfl (hb hby d19_1) rfl ((if0 _ _).trans (flt hp0).1) (XS.iloadN X0.here hx rfl (hb hby d19_4) rfl (XS.iloadN X0.here hx rfl (hb hby d19_5) rfl (XS.icmpYes X0.here hx rfl (pc0 := 6) (pc' := 16) rfl (hb hby d19_6) rfl (tlt hp1).1 (by decide) (by decide) (XS.iloadN X0.here hx rfl (hb hby d19_16) rfl k)))))) ?_
  show G s₁ (mkF m 17 #[iv p0, iv p1, .val sf] [.int p0])
  exact go X0 (v := (some (.int p0))) (fun h => by rw [Bd.returns] at h; cases h) (fun fs hr => retOut X0 hx Bd.returns rfl (Or.inl ⟨rfl, by simp, _, rfl⟩) (hb hby d19_17) hr) (⟨rfl, rfl, e0⟩) (by decide) (by decide)
def Q_rmSX (Z : State) (p0 p1 : Int32) (sf : Value) (h0 : Heap) (n0 : Nat) : Option Value → Heap → List Loc → Prop := fun v h L => v = none ∧ L = [] ∧ h = h0
set_option maxRecDepth 65536 in
set_option maxHeartbeats 40000000 in
theorem rmSX (l : Launch) (Z : State) (a0 : Array Value) (hw : ∀ d ∈ tables_1, d.before a0 Z = true) (ws : List Jvm.Cond) (p0 p1 : Int32) (sf : Value) (hr_sf : sf.isRef = true) (S_sf : Sta Z Z.heap "jdk/internal/util/Preconditions" "SIOOBE_FORMATTER" "Ljava/util/function/BiFunction;" sf) (h0 : Heap) (n0 : Nat) (O : Old Z n0 h0) (hp0 : ¬ p0 < (0 : Int32)) (hp1 : p0 < p1) :
    MetFree l (⟨"java/lang/String", "checkIndex", "(II)V"⟩ : MethodName) (head1 (Jvm.Cond.code (⟨"java/lang/String", "checkIndex", "(II)V"⟩ : MethodName) jdk_42_method_155_code 2 none :: ws) ({ frames := 1, cells := 0, slots := 0, locals := 14 } : Room)) (fun a U => a = #[(.int p0), (.int p1)] ∧ Z.Warmed39 U.vm ∧ U.heap = h0) (fun _ _ _ _ _ => True) (fun _ U o U' => ∃ v L, o = .returned v ∧ (Q_rmSX Z p0 p1 sf h0 n0) v U'.heap L ∧ FrameEnd U o U' L ({ frames := 1, cells := 0, slots := 0, locals := 14 } : Room).cells ({ frames := 1, cells := 0, slots := 0, locals := 14 } : Room).slots) := by
  refine MetFree.of_bodySF (plainFor_of_name pn_1) hisR ?_
  intro p e s m args below meth c s₁ Bd hml0 hP hK
  obtain ⟨rfl, hZ, hh⟩ := hP
  have hx := Bd.exec
  have hby := Bd.bytes
  have hml : c.maxLocals = 2 := hml0
  have hown : s.vm.findClass "java/lang/String" = some m.cls := findClass_of_methodNamed Bd.named
  have hnm := (name_of_methodNamed Bd.named Bd.method).1
  have hlk := BodyLoose.notSynchronized Bd
  have X0 : Stand p l e ({ frames := 1, cells := 0, slots := 0, locals := 14 } : Room) s m #[(.int p0), (.int p1)] below meth c s₁ [] 0 0 := Stand.of_body Bd
  have e0 : s₁.heap = h0 := by rw [← hh, Bd.state]; rfl
  have N := Fr.nil n0
  obtain ⟨G, hG⟩ : ∃ G : State → JFrame → Prop, G = OwnG p e below s ({ frames := 1, cells := 0, slots := 0, locals := 14 } : Room).cells ({ frames := 1, cells := 0, slots := 0, locals := 14 } : Room).slots (Q_rmSX Z p0 p1 sf h0 n0) := ⟨_, rfl⟩
  have gb : ∀ {T T' : State} {g g' : JFrame}, (∀ t, Steps p.tables e below (T'.setTop g') t → Steps p.tables e below (T.setTop g) t) → G T' g' → G T g := by subst hG; exact fun k h => own_by k h
  have go : ∀ {T : State} {locs : List Loc} {cells slots : Nat} {g : JFrame} {v : Option Value}, Stand p l e ({ frames := 1, cells := 0, slots := 0, locals := 14 } : Room) s m #[(.int p0), (.int p1)] below meth c T locs cells slots → (meth.sig.returnType = none → v = none) → (∀ fs, (∀ (f : JFrame) (acts : List Action), f.method = m → f.locked = none → f.entered = [] → (doReturn e (T.setTop f) acts v).1 = T.setFrames fs) → Steps p.tables e below (T.setTop g) (T.setFrames fs)) → (Q_rmSX Z p0 p1 sf h0 n0) v T.heap locs → cells ≤ ({ frames := 1, cells := 0, slots := 0, locals := 14 } : Room).cells → slots ≤ ({ frames := 1, cells := 0, slots := 0, locals := 14 } : Room).slots → G T g := by subst hG; exact fun X h1 h2 h3 h4 h5 => own_out X hlk h1 h2 h3 h4 h5
  show OwnG p e below s ({ frames := 1, cells := 0, slots := 0, locals := 14 } : Room).cells ({ frames := 1, cells := 0, slots := 0, locals := 14 } : Room).slots (Q_rmSX Z p0 p1 sf h0 n0) s₁ (entryFrame m #[(.int p0), (.int p1)] 2)
  rw [← hG, ef_rmSX m p0 p1]
  clear hG
  show G s₁ (mkF m 0 #[.val (.int p0), .val (.int p1)] [])
  refine gb (fun _ k => XS.iloadN X0.here hx rfl (hb hby d18_0) rfl (XS.iloadN X0.here hx rfl (hb hby d18_1) rfl k)) ?_
  show G s₁ (mkF m 2 #[iv p0, iv p1] [.int p1, .int p0])
  obtain ⟨T1, X1, e1, st1⟩ := getS2 X0 hx hZ hown (host := "") (Or.inl (ow hw 79 rfl)) Via.refl e0 (S_sf.ext O.2) (g := (mkF m 2 #[iv p0, iv p1] [.int p1, .int p0])) rfl (hb hby d18_2)
  refine gb st1 ?_
  show G T1 (mkF m 5 #[iv p0, iv p1] [sf, .int p1, .int p0])
  obtain ⟨_, _, ⟨T2, Lz2, kz2, nz2⟩, -, X2, ⟨Lc2, hQ2, lq2, yq2, zq2⟩, st2⟩ := Jvm.LawKit.callS X1 hx (y := (⟨"jdk/internal/util/Preconditions", "checkIndex", "(IILjava/util/function/BiFunction;)I"⟩ : MethodName)) hown (mvT hZ (ow hw 81 rfl)) (mvT hZ (ow hw 82 rfl)) (mvT hZ (ow hw 80 rfl)) (mvT hZ (ow hw 83 rfl)) (by decide) (backOf (W := 0) (rmPX l Z a0 hw [] p0 p1 sf hr_sf h0 n0 O hp0 hp1) hZ (ow hw 83 rfl) (ow hw 80 rfl) (by decide) (by decide)) (g := (mkF m 5 #[iv p0, iv p1] [sf, .int p1, .int p0])) rfl (by rw [hml]; rfl) (argsL := [(.int p0), (.int p1), sf]) (rest := []) (lenOf pd_8 rfl) rfl (by show 2 * 0 + _ ≤ _; exact Nat.le_of_eq rfl) (hb hby d18_5) (fun _ _ => ⟨rfl, e1, (by decide : 0 + 0 ≤ _), (by decide : 0 + 0 ≤ _)⟩)
  dsimp only [Pt.U, Pt.locs, Pt.cells, Pt.slots] at X2 lq2 yq2 zq2 st2 hQ2
  subst lq2 yq2 zq2
  obtain ⟨rfl, rfl, e2⟩ := hQ2
  try rw [List.append_nil] at X2
  refine gb st2 ?_
  show G T2 (mkF m 8 #[iv p0, iv p1] [.int p0])
  refine gb (fun _ k => XS.pop X2.here hx rfl (hb hby d18_8) rfl rfl k) ?_
  show G T2 (mkF m 9 #[iv p0, iv p1] [])
  exact go X2 (v := none) (fun _ => rfl) (fun fs hr => X2.returnOut hx Bd.returns (hb hby d18_9) hr) (⟨rfl, rfl, e2⟩) (by decide) (by decide)
def Q_rmUL (Z : State) (a1 : Addr) (k1 : ClassId) (c0 c1 c2 c3 : Int32) (h0 : Heap) (n0 : Nat) : Option Value → Heap → List Loc → Prop := fun v h L => v = some (.int (4 : Int32)) ∧ L = [] ∧ h = h0
set_option maxRecDepth 65536 in
set_option maxHeartbeats 40000000 in
theorem rmUL (l : Launch) (Z : State) (a0 : Array Value) (hw : ∀ d ∈ tables_1, d.before a0 Z = true) (ws : List Jvm.Cond) (a1 : Addr) (k1 : ClassId) (c0 c1 c2 c3 : Int32) (h0 : Heap) (n0 : Nat) (O : Old Z n0 h0) (V_a1 : Arv Z h0 a1 k1 .byte (8 : Int32) [(.int (nar .byte ((c0 >>> ((0 : Int32) &&& 31)).toInt8.toInt32))), (.int (nar .byte ((c0 >>> ((8 : Int32) &&& 31)).toInt8.toInt32))), (.int (nar .byte ((c1 >>> ((0 : Int32) &&& 31)).toInt8.toInt32))), (.int (nar .byte ((c1 >>> ((8 : Int32) &&& 31)).toInt8.toInt32))), (.int (nar .byte ((c2 >>> ((0 : Int32) &&& 31)).toInt8.toInt32))), (.int (nar .byte ((c2 >>> ((8 : Int32) &&& 31)).toInt8.toInt32))), (.int (nar .byte ((c3 >>> ((0 : Int32) &&& 31)).toInt8.toInt32))), (.int (nar .byte ((c3 >>> ((8 : Int32) &&& 31)).toInt8.toInt32)))] (.int (0 : Int32))) :
    MetFree l (⟨"java/lang/StringUTF16", "length", "([B)I"⟩ : MethodName) (head1 (Jvm.Cond.code (⟨"java/lang/StringUTF16", "length", "([B)I"⟩ : MethodName) jdk_52_method_6_code 1 (some .int) :: ws) ({ frames := 0, cells := 0, slots := 0, locals := 0 } : Room)) (fun a U => a = #[(.ref a1)] ∧ Z.Warmed39 U.vm ∧ U.heap = h0) (fun _ _ _ _ _ => True) (fun _ U o U' => ∃ v L, o = .returned v ∧ (Q_rmUL Z a1 k1 c0 c1 c2 c3 h0 n0) v U'.heap L ∧ FrameEnd U o U' L ({ frames := 0, cells := 0, slots := 0, locals := 0 } : Room).cells ({ frames := 0, cells := 0, slots := 0, locals := 0 } : Room).slots) := by
  refine MetFree.of_bodySF (plainFor_of_name pn_0) hisR ?_
  intro p e s m args below meth c s₁ Bd hml0 hP hK
  obtain ⟨rfl, hZ, hh⟩ := hP
  have hx := Bd.exec
  have hby := Bd.bytes
  have hml : c.maxLocals = 1 := hml0
  have hown : s.vm.findClass "java/lang/StringUTF16" = some m.cls := findClass_of_methodNamed Bd.named
  have hnm := (name_of_methodNamed Bd.named Bd.method).1
  have hlk := BodyLoose.notSynchronized Bd
  have X0 : Stand p l e ({ frames := 0, cells := 0, slots := 0, locals := 0 } : Room) s m #[(.ref a1)] below meth c s₁ [] 0 0 := Stand.of_body Bd
  have e0 : s₁.heap = h0 := by rw [← hh, Bd.state]; rfl
  have N := Fr.nil n0
  obtain ⟨G, hG⟩ : ∃ G : State → JFrame → Prop, G = OwnG p e below s ({ frames := 0, cells := 0, slots := 0, locals := 0 } : Room).cells ({ frames := 0, cells := 0, slots := 0, locals := 0 } : Room).slots (Q_rmUL Z a1 k1 c0 c1 c2 c3 h0 n0) := ⟨_, rfl⟩
  have gb : ∀ {T T' : State} {g g' : JFrame}, (∀ t, Steps p.tables e below (T'.setTop g') t → Steps p.tables e below (T.setTop g) t) → G T' g' → G T g := by subst hG; exact fun k h => own_by k h
  have go : ∀ {T : State} {locs : List Loc} {cells slots : Nat} {g : JFrame} {v : Option Value}, Stand p l e ({ frames := 0, cells := 0, slots := 0, locals := 0 } : Room) s m #[(.ref a1)] below meth c T locs cells slots → (meth.sig.returnType = none → v = none) → (∀ fs, (∀ (f : JFrame) (acts : List Action), f.method = m → f.locked = none → f.entered = [] → (doReturn e (T.setTop f) acts v).1 = T.setFrames fs) → Steps p.tables e below (T.setTop g) (T.setFrames fs)) → (Q_rmUL Z a1 k1 c0 c1 c2 c3 h0 n0) v T.heap locs → cells ≤ ({ frames := 0, cells := 0, slots := 0, locals := 0 } : Room).cells → slots ≤ ({ frames := 0, cells := 0, slots := 0, locals := 0 } : Room).slots → G T g := by subst hG; exact fun X h1 h2 h3 h4 h5 => own_out X hlk h1 h2 h3 h4 h5
  show OwnG p e below s ({ frames := 0, cells := 0, slots := 0, locals := 0 } : Room).cells ({ frames := 0, cells := 0, slots := 0, locals := 0 } : Room).slots (Q_rmUL Z a1 k1 c0 c1 c2 c3 h0 n0) s₁ (entryFrame m #[(.ref a1)] 1)
  rw [← hG, ef_rmUL m a1]
  clear hG
  show G s₁ (mkF m 0 #[.val (.ref a1)] [])
  refine gb (fun _ k => XS.aloadN X0.here hx rfl (hb hby d22_0) rfl rfl k) ?_
  show G s₁ (mkF m 1 #[rv a1] [.ref a1])
  have V'1 := V_a1
  obtain ⟨cl1, Ar1, qk1, sz1, nn1, hs1, ft1⟩ := V'1
  refine gb (X0.arraylength hx (by rw [e0]; exact Ar1.1) (State.isArrayOf_alike hZ.alike Ar1.2.1) (g := (mkF m 1 #[rv a1] [.ref a1])) rfl rfl (hb hby d22_1)) ?_
  rw [len_of sz1 nn1]
  show G s₁ (mkF m 2 #[rv a1] [.int 8])
  refine gb (fun _ k => XS.iconst X0.here hx rfl (hb hby d22_2) (XS.ishr X0.here hx rfl (hb hby d22_3) rfl k)) ?_
  show G s₁ (mkF m 4 #[rv a1] [.int 4])
  exact go X0 (v := (some (.int (4 : Int32)))) (fun h => by rw [Bd.returns] at h; cases h) (fun fs hr => retOut X0 hx Bd.returns rfl (Or.inl ⟨rfl, by simp, _, rfl⟩) (hb hby d22_4) hr) (⟨rfl, rfl, e0⟩) (by decide) (by decide)
def Q_rmUX (Z : State) (p0 : Int32) (a1 : Addr) (k1 : ClassId) (c0 c1 c2 c3 : Int32) (sf : Value) (h0 : Heap) (n0 : Nat) : Option Value → Heap → List Loc → Prop := fun v h L => v = none ∧ L = [] ∧ h = h0
set_option maxRecDepth 65536 in
set_option maxHeartbeats 40000000 in
theorem rmUX (l : Launch) (Z : State) (a0 : Array Value) (hw : ∀ d ∈ tables_1, d.before a0 Z = true) (ws : List Jvm.Cond) (p0 : Int32) (a1 : Addr) (k1 : ClassId) (c0 c1 c2 c3 : Int32) (sf : Value) (hr_sf : sf.isRef = true) (S_sf : Sta Z Z.heap "jdk/internal/util/Preconditions" "SIOOBE_FORMATTER" "Ljava/util/function/BiFunction;" sf) (h0 : Heap) (n0 : Nat) (O : Old Z n0 h0) (V_a1 : Arv Z h0 a1 k1 .byte (8 : Int32) [(.int (nar .byte ((c0 >>> ((0 : Int32) &&& 31)).toInt8.toInt32))), (.int (nar .byte ((c0 >>> ((8 : Int32) &&& 31)).toInt8.toInt32))), (.int (nar .byte ((c1 >>> ((0 : Int32) &&& 31)).toInt8.toInt32))), (.int (nar .byte ((c1 >>> ((8 : Int32) &&& 31)).toInt8.toInt32))), (.int (nar .byte ((c2 >>> ((0 : Int32) &&& 31)).toInt8.toInt32))), (.int (nar .byte ((c2 >>> ((8 : Int32) &&& 31)).toInt8.toInt32))), (.int (nar .byte ((c3 >>> ((0 : Int32) &&& 31)).toInt8.toInt32))), (.int (nar .byte ((c3 >>> ((8 : Int32) &&& 31)).toInt8.toInt32)))] (.int (0 : Int32))) (hp0 : ¬ p0 < (0 : Int32)) (hp1 : p0 < (4 : Int32)) :
    MetFree l (⟨"java/lang/StringUTF16", "checkIndex", "(I[B)V"⟩ : MethodName) (head1 (Jvm.Cond.code (⟨"java/lang/StringUTF16", "checkIndex", "(I[B)V"⟩ : MethodName) jdk_52_method_91_code 2 none :: ws) ({ frames := 2, cells := 0, slots := 0, locals := 27 } : Room)) (fun a U => a = #[(.int p0), (.ref a1)] ∧ Z.Warmed39 U.vm ∧ U.heap = h0) (fun _ _ _ _ _ => True) (fun _ U o U' => ∃ v L, o = .returned v ∧ (Q_rmUX Z p0 a1 k1 c0 c1 c2 c3 sf h0 n0) v U'.heap L ∧ FrameEnd U o U' L ({ frames := 2, cells := 0, slots := 0, locals := 27 } : Room).cells ({ frames := 2, cells := 0, slots := 0, locals := 27 } : Room).slots) := by
  refine MetFree.of_bodySF (plainFor_of_name pn_0) hisR ?_
  intro p e s m args below meth c s₁ Bd hml0 hP hK
  obtain ⟨rfl, hZ, hh⟩ := hP
  have hx := Bd.exec
  have hby := Bd.bytes
  have hml : c.maxLocals = 2 := hml0
  have hown : s.vm.findClass "java/lang/StringUTF16" = some m.cls := findClass_of_methodNamed Bd.named
  have hnm := (name_of_methodNamed Bd.named Bd.method).1
  have hlk := BodyLoose.notSynchronized Bd
  have X0 : Stand p l e ({ frames := 2, cells := 0, slots := 0, locals := 27 } : Room) s m #[(.int p0), (.ref a1)] below meth c s₁ [] 0 0 := Stand.of_body Bd
  have e0 : s₁.heap = h0 := by rw [← hh, Bd.state]; rfl
  have N := Fr.nil n0
  obtain ⟨G, hG⟩ : ∃ G : State → JFrame → Prop, G = OwnG p e below s ({ frames := 2, cells := 0, slots := 0, locals := 27 } : Room).cells ({ frames := 2, cells := 0, slots := 0, locals := 27 } : Room).slots (Q_rmUX Z p0 a1 k1 c0 c1 c2 c3 sf h0 n0) := ⟨_, rfl⟩
  have gb : ∀ {T T' : State} {g g' : JFrame}, (∀ t, Steps p.tables e below (T'.setTop g') t → Steps p.tables e below (T.setTop g) t) → G T' g' → G T g := by subst hG; exact fun k h => own_by k h
  have go : ∀ {T : State} {locs : List Loc} {cells slots : Nat} {g : JFrame} {v : Option Value}, Stand p l e ({ frames := 2, cells := 0, slots := 0, locals := 27 } : Room) s m #[(.int p0), (.ref a1)] below meth c T locs cells slots → (meth.sig.returnType = none → v = none) → (∀ fs, (∀ (f : JFrame) (acts : List Action), f.method = m → f.locked = none → f.entered = [] → (doReturn e (T.setTop f) acts v).1 = T.setFrames fs) → Steps p.tables e below (T.setTop g) (T.setFrames fs)) → (Q_rmUX Z p0 a1 k1 c0 c1 c2 c3 sf h0 n0) v T.heap locs → cells ≤ ({ frames := 2, cells := 0, slots := 0, locals := 27 } : Room).cells → slots ≤ ({ frames := 2, cells := 0, slots := 0, locals := 27 } : Room).slots → G T g := by subst hG; exact fun X h1 h2 h3 h4 h5 => own_out X hlk h1 h2 h3 h4 h5
  show OwnG p e below s ({ frames := 2, cells := 0, slots := 0, locals := 27 } : Room).cells ({ frames := 2, cells := 0, slots := 0, locals := 27 } : Room).slots (Q_rmUX Z p0 a1 k1 c0 c1 c2 c3 sf h0 n0) s₁ (entryFrame m #[(.int p0), (.ref a1)] 2)
  rw [← hG, ef_rmUX m p0 a1]
  clear hG
  show G s₁ (mkF m 0 #[.val (.int p0), .val (.ref a1)] [])
  refine gb (fun _ k => XS.iloadN X0.here hx rfl (hb hby d21_0) rfl (XS.aloadN X0.here hx rfl (hb hby d21_1) rfl rfl k)) ?_
  show G s₁ (mkF m 2 #[iv p0, rv a1] [.ref a1, .int p0])
  obtain ⟨_, _, ⟨T1, Lz1, kz1, nz1⟩, -, X1, ⟨Lc1, hQ1, lq1, yq1, zq1⟩, st1⟩ := Jvm.LawKit.callS X0 hx (y := (⟨"java/lang/StringUTF16", "length", "([B)I"⟩ : MethodName)) hown (mvT hZ (ow hw 90 rfl)) (mvT hZ (ow hw 91 rfl)) (mvT hZ (ow hw 18 rfl)) (mvT hZ (ow hw 92 rfl)) (by decide) (backOf (W := 1) (rmUL l Z a0 hw [] a1 k1 c0 c1 c2 c3 h0 n0 O V_a1) hZ (ow hw 92 rfl) (ow hw 18 rfl) (by decide) (by decide)) (g := (mkF m 2 #[iv p0, rv a1] [.ref a1, .int p0])) rfl (by rw [hml]; rfl) (argsL := [(.ref a1)]) (rest := [(.int p0)]) (lenOf pd_9 rfl) rfl (by show 2 * 0 + _ ≤ _; exact Nat.le_of_eq rfl) (hb hby d21_2) (fun _ _ => ⟨rfl, e0, (by decide : 0 + 0 ≤ _), (by decide : 0 + 0 ≤ _)⟩)
  dsimp only [Pt.U, Pt.locs, Pt.cells, Pt.slots] at X1 lq1 yq1 zq1 st1 hQ1
  subst lq1 yq1 zq1
  obtain ⟨rfl, rfl, e1⟩ := hQ1
  try rw [List.append_nil] at X1
  refine gb st1 ?_
  show G T1 (mkF m 5 #[iv p0, rv a1] [.int 4, .int p0])
  obtain ⟨_, _, ⟨T2, Lz2, kz2, nz2⟩, -, X2, ⟨Lc2, hQ2, lq2, yq2, zq2⟩, st2⟩ := Jvm.LawKit.callS X1 hx (y := (⟨"java/lang/String", "checkIndex", "(II)V"⟩ : MethodName)) hown (mvT hZ (ow hw 93 rfl)) (mvT hZ (ow hw 77 rfl)) (mvT hZ (ow hw 4 rfl)) (mvT hZ (ow hw 78 rfl)) (by decide) (backOf (W := 0) (rmSX l Z a0 hw [] p0 (4 : Int32) sf hr_sf S_sf h0 n0 O hp0 hp1) hZ (ow hw 78 rfl) (ow hw 4 rfl) (by decide) (by decide)) (g := (mkF m 5 #[iv p0, rv a1] [.int 4, .int p0])) rfl (by rw [hml]; rfl) (argsL := [(.int p0), (.int (4 : Int32))]) (rest := []) (lenOf pd_10 rfl) rfl (by show 2 * 0 + _ ≤ _; exact Nat.le_of_eq rfl) (hb hby d21_5) (fun _ _ => ⟨rfl, e1, (by decide : 0 + 0 ≤ _), (by decide : 0 + 0 ≤ _)⟩)
  dsimp only [Pt.U, Pt.locs, Pt.cells, Pt.slots] at X2 lq2 yq2 zq2 st2 hQ2
  subst lq2 yq2 zq2
  obtain ⟨rfl, rfl, e2⟩ := hQ2
  try rw [List.append_nil] at X2
  refine gb st2 ?_
  show G T2 (mkF m 8 #[iv p0, rv a1] [])
  exact go X2 (v := none) (fun _ => rfl) (fun fs hr => X2.returnOut hx Bd.returns (hb hby d21_8) hr) (⟨rfl, rfl, e2⟩) (by decide) (by decide)
def Q_rmLC0 (Z : State) (a1 : Addr) (k1 : ClassId) (c0 c1 c2 c3 : Int32) (sf : Value) (h0 : Heap) (n0 : Nat) : Option Value → Heap → List Loc → Prop := fun v h L => v = some (.int c0) ∧ L = [] ∧ h = h0
set_option maxRecDepth 65536 in
set_option maxHeartbeats 40000000 in
theorem rmLC0 (l : Launch) (Z : State) (a0 : Array Value) (hw : ∀ d ∈ tables_1, d.before a0 Z = true) (ws : List Jvm.Cond) (a1 : Addr) (k1 : ClassId) (c0 c1 c2 c3 : Int32) (sf : Value) (hr_sf : sf.isRef = true) (S_sf : Sta Z Z.heap "jdk/internal/util/Preconditions" "SIOOBE_FORMATTER" "Ljava/util/function/BiFunction;" sf) (h0 : Heap) (n0 : Nat) (O : Old Z n0 h0) (V_a1 : Arv Z h0 a1 k1 .byte (4 : Int32) [(.int (nar .byte (c0.toInt8.toInt32))), (.int (nar .byte (c1.toInt8.toInt32))), (.int (nar .byte (c2.toInt8.toInt32))), (.int (nar .byte (c3.toInt8.toInt32)))] (.int (0 : Int32))) (hg0 : ¬ c0 < (0 : Int32)) (hg1 : ¬ c1 < (0 : Int32)) (hg2 : ¬ c2 < (0 : Int32)) (hg3 : ¬ c3 < (0 : Int32)) (hb0 : ¬ (255 : Int32) < c0) (hb1 : ¬ (255 : Int32) < c1) (hb2 : ¬ (255 : Int32) < c2) (hb3 : ¬ (255 : Int32) < c3) :
    MetFree l (⟨"java/lang/StringLatin1", "charAt", "([BI)C"⟩ : MethodName) (head1 (Jvm.Cond.code (⟨"java/lang/StringLatin1", "charAt", "([BI)C"⟩ : MethodName) jdk_43_method_2_code 2 (some .char) :: ws) ({ frames := 2, cells := 0, slots := 0, locals := 27 } : Room)) (fun a U => a = #[(.ref a1), (.int (0 : Int32))] ∧ Z.Warmed39 U.vm ∧ U.heap = h0) (fun _ _ _ _ _ => True) (fun _ U o U' => ∃ v L, o = .returned v ∧ (Q_rmLC0 Z a1 k1 c0 c1 c2 c3 sf h0 n0) v U'.heap L ∧ FrameEnd U o U' L ({ frames := 2, cells := 0, slots := 0, locals := 27 } : Room).cells ({ frames := 2, cells := 0, slots := 0, locals := 27 } : Room).slots) := by
  refine MetFree.of_bodySF (plainFor_of_name pn_3) hisR ?_
  intro p e s m args below meth c s₁ Bd hml0 hP hK
  obtain ⟨rfl, hZ, hh⟩ := hP
  have hx := Bd.exec
  have hby := Bd.bytes
  have hml : c.maxLocals = 2 := hml0
  have hown : s.vm.findClass "java/lang/StringLatin1" = some m.cls := findClass_of_methodNamed Bd.named
  have hnm := (name_of_methodNamed Bd.named Bd.method).1
  have hlk := BodyLoose.notSynchronized Bd
  have X0 : Stand p l e ({ frames := 2, cells := 0, slots := 0, locals := 27 } : Room) s m #[(.ref a1), (.int (0 : Int32))] below meth c s₁ [] 0 0 := Stand.of_body Bd
  have e0 : s₁.heap = h0 := by rw [← hh, Bd.state]; rfl
  have N := Fr.nil n0
  obtain ⟨G, hG⟩ : ∃ G : State → JFrame → Prop, G = OwnG p e below s ({ frames := 2, cells := 0, slots := 0, locals := 27 } : Room).cells ({ frames := 2, cells := 0, slots := 0, locals := 27 } : Room).slots (Q_rmLC0 Z a1 k1 c0 c1 c2 c3 sf h0 n0) := ⟨_, rfl⟩
  have gb : ∀ {T T' : State} {g g' : JFrame}, (∀ t, Steps p.tables e below (T'.setTop g') t → Steps p.tables e below (T.setTop g) t) → G T' g' → G T g := by subst hG; exact fun k h => own_by k h
  have go : ∀ {T : State} {locs : List Loc} {cells slots : Nat} {g : JFrame} {v : Option Value}, Stand p l e ({ frames := 2, cells := 0, slots := 0, locals := 27 } : Room) s m #[(.ref a1), (.int (0 : Int32))] below meth c T locs cells slots → (meth.sig.returnType = none → v = none) → (∀ fs, (∀ (f : JFrame) (acts : List Action), f.method = m → f.locked = none → f.entered = [] → (doReturn e (T.setTop f) acts v).1 = T.setFrames fs) → Steps p.tables e below (T.setTop g) (T.setFrames fs)) → (Q_rmLC0 Z a1 k1 c0 c1 c2 c3 sf h0 n0) v T.heap locs → cells ≤ ({ frames := 2, cells := 0, slots := 0, locals := 27 } : Room).cells → slots ≤ ({ frames := 2, cells := 0, slots := 0, locals := 27 } : Room).slots → G T g := by subst hG; exact fun X h1 h2 h3 h4 h5 => own_out X hlk h1 h2 h3 h4 h5
  show OwnG p e below s ({ frames := 2, cells := 0, slots := 0, locals := 27 } : Room).cells ({ frames := 2, cells := 0, slots := 0, locals := 27 } : Room).slots (Q_rmLC0 Z a1 k1 c0 c1 c2 c3 sf h0 n0) s₁ (entryFrame m #[(.ref a1), (.int (0 : Int32))] 2)
  rw [← hG, ef_rmLC0 m a1 (0 : Int32)]
  clear hG
  show G s₁ (mkF m 0 #[.val (.ref a1), .val (.int (0 : Int32))] [])
  refine gb (fun _ k => XS.iloadN X0.here hx rfl (hb hby d17_0) rfl (XS.aloadN X0.here hx rfl (hb hby d17_1) rfl rfl k)) ?_
  show G s₁ (mkF m 2 #[rv a1, iv 0] [.ref a1, .int 0])
  have V'1 := V_a1
  obtain ⟨cl1, Ar1, qk1, sz1, nn1, hs1, ft1⟩ := V'1
  refine gb (X0.arraylength hx (by rw [e0]; exact Ar1.1) (State.isArrayOf_alike hZ.alike Ar1.2.1) (g := (mkF m 2 #[rv a1, iv 0] [.ref a1, .int 0])) rfl rfl (hb hby d17_2)) ?_
  rw [len_of sz1 nn1]
  show G s₁ (mkF m 3 #[rv a1, iv 0] [.int 4, .int 0])
  obtain ⟨_, _, ⟨T2, Lz2, kz2, nz2⟩, -, X2, ⟨Lc2, hQ2, lq2, yq2, zq2⟩, st2⟩ := Jvm.LawKit.callS X0 hx (y := (⟨"java/lang/String", "checkIndex", "(II)V"⟩ : MethodName)) hown (mvT hZ (ow hw 76 rfl)) (mvT hZ (ow hw 77 rfl)) (mvT hZ (ow hw 4 rfl)) (mvT hZ (ow hw 78 rfl)) (by decide) (backOf (W := 0) (rmSX l Z a0 hw [] (0 : Int32) (4 : Int32) sf hr_sf S_sf h0 n0 O (by decide) (by decide)) hZ (ow hw 78 rfl) (ow hw 4 rfl) (by decide) (by decide)) (g := (mkF m 3 #[rv a1, iv 0] [.int 4, .int 0])) rfl (by rw [hml]; rfl) (argsL := [(.int (0 : Int32)), (.int (4 : Int32))]) (rest := []) (lenOf pd_10 rfl) rfl (by show 2 * 0 + _ ≤ _; exact Nat.le_of_eq rfl) (hb hby d17_3) (fun _ _ => ⟨rfl, e0, (by decide : 0 + 0 ≤ _), (by decide : 0 + 0 ≤ _)⟩)
  dsimp only [Pt.U, Pt.locs, Pt.cells, Pt.slots] at X2 lq2 yq2 zq2 st2 hQ2
  subst lq2 yq2 zq2
  obtain ⟨rfl, rfl, e2⟩ := hQ2
  try rw [List.append_nil] at X2
  refine gb st2 ?_
  show G T2 (mkF m 6 #[rv a1, iv 0] [])
  refine gb (fun _ k => XS.aloadN X2.here hx rfl (hb hby d17_6) rfl rfl (XS.iloadN X2.here hx rfl (hb hby d17_7) rfl k)) ?_
  show G T2 (mkF m 8 #[rv a1, iv 0] [.int 0, .ref a1])
  have V'3 := V_a1
  obtain ⟨cl3, Ar3, qk3, sz3, nn3, hs3, ft3⟩ := V'3
  have hin3 : ¬ ((0 : Int32) < 0 ∨ cl3.slots.size ≤ ((0 : Int32)).toNatClampNeg) := inb_of sz3 ⟨by decide, by decide⟩
  have hat3 : cl3.slots[((0 : Int32)).toNatClampNeg]? = some (.int (nar .byte (c0.toInt8.toInt32))) := hs3.at hin3 rfl
  refine gb (X2.baloadBytes hx (j := (0 : Int32)) (v := (.int (nar .byte (c0.toInt8.toInt32)))) (by rw [e2]; exact Ar3.1) (State.isArrayOf_alike hZ.alike Ar3.2.1) Ar3.2.2 hin3 hat3 (g := (mkF m 8 #[rv a1, iv 0] [.int 0, .ref a1])) rfl rfl (hb hby d17_8)) ?_
  show G T2 (mkF m 9 #[rv a1, iv 0] [.int (nar .byte (c0.toInt8.toInt32))])
  refine gb (fun _ k => XS.sipush X2.here hx rfl (hb hby d17_9) (XS.iand X2.here hx rfl (hb hby d17_12) rfl (XS.i2c X2.here hx rfl (hb hby d17_13) rfl k))) ?_
  show G T2 (mkF m 14 #[rv a1, iv 0] [.int (((nar .byte (c0.toInt8.toInt32)) &&& (255 : Int32)).toUInt32.toUInt16.toUInt32.toInt32)])
  rw [own_b8 hg0 hb0]
  show G T2 (mkF m 14 #[rv a1, iv 0] [.int c0])
  exact go X2 (v := (some (.int c0))) (fun h => by rw [Bd.returns] at h; cases h) (fun fs hr => retOut X2 hx Bd.returns (show narrow .char (.int c0) = .int c0 from congrArg Value.int (own_nc hg0 hb0)) (Or.inl ⟨rfl, by simp, _, rfl⟩) (hb hby d17_14) hr) (⟨rfl, rfl, e2⟩) (by decide) (by decide)
def Q_rmUC0 (Z : State) (a1 : Addr) (k1 : ClassId) (c0 c1 c2 c3 : Int32) (sf : Value) (h0 : Heap) (n0 : Nat) : Option Value → Heap → List Loc → Prop := fun v h L => v = some (.int c0) ∧ L = [] ∧ h = h0
set_option maxRecDepth 65536 in
set_option maxHeartbeats 40000000 in
theorem rmUC0 (l : Launch) (Z : State) (a0 : Array Value) (hw : ∀ d ∈ tables_1, d.before a0 Z = true) (ws : List Jvm.Cond) (a1 : Addr) (k1 : ClassId) (c0 c1 c2 c3 : Int32) (sf : Value) (hr_sf : sf.isRef = true) (S_sf : Sta Z Z.heap "jdk/internal/util/Preconditions" "SIOOBE_FORMATTER" "Ljava/util/function/BiFunction;" sf) (S_ad : Sta Z Z.heap "java/lang/StringUTF16" "$assertionsDisabled" "Z" (.int (1 : Int32))) (S_hi : Sta Z Z.heap "java/lang/StringUTF16" "HI_BYTE_SHIFT" "I" (.int (0 : Int32))) (S_lo : Sta Z Z.heap "java/lang/StringUTF16" "LO_BYTE_SHIFT" "I" (.int (8 : Int32))) (h0 : Heap) (n0 : Nat) (O : Old Z n0 h0) (V_a1 : Arv Z h0 a1 k1 .byte (8 : Int32) [(.int (nar .byte ((c0 >>> ((0 : Int32) &&& 31)).toInt8.toInt32))), (.int (nar .byte ((c0 >>> ((8 : Int32) &&& 31)).toInt8.toInt32))), (.int (nar .byte ((c1 >>> ((0 : Int32) &&& 31)).toInt8.toInt32))), (.int (nar .byte ((c1 >>> ((8 : Int32) &&& 31)).toInt8.toInt32))), (.int (nar .byte ((c2 >>> ((0 : Int32) &&& 31)).toInt8.toInt32))), (.int (nar .byte ((c2 >>> ((8 : Int32) &&& 31)).toInt8.toInt32))), (.int (nar .byte ((c3 >>> ((0 : Int32) &&& 31)).toInt8.toInt32))), (.int (nar .byte ((c3 >>> ((8 : Int32) &&& 31)).toInt8.toInt32)))] (.int (0 : Int32))) (hg0 : ¬ c0 < (0 : Int32)) (hh0 : ¬ (65535 : Int32) < c0) (hg1 : ¬ c1 < (0 : Int32)) (hh1 : ¬ (65535 : Int32) < c1) (hg2 : ¬ c2 < (0 : Int32)) (hh2 : ¬ (65535 : Int32) < c2) (hg3 : ¬ c3 < (0 : Int32)) (hh3 : ¬ (65535 : Int32) < c3) :
    MetFree l (⟨"java/lang/StringUTF16", "charAt", "([BI)C"⟩ : MethodName) (head1 (Jvm.Cond.code (⟨"java/lang/StringUTF16", "charAt", "([BI)C"⟩ : MethodName) jdk_52_method_83_code 2 (some .char) :: ws) ({ frames := 3, cells := 0, slots := 0, locals := 40 } : Room)) (fun a U => a = #[(.ref a1), (.int (0 : Int32))] ∧ Z.Warmed39 U.vm ∧ U.heap = h0) (fun _ _ _ _ _ => True) (fun _ U o U' => ∃ v L, o = .returned v ∧ (Q_rmUC0 Z a1 k1 c0 c1 c2 c3 sf h0 n0) v U'.heap L ∧ FrameEnd U o U' L ({ frames := 3, cells := 0, slots := 0, locals := 40 } : Room).cells ({ frames := 3, cells := 0, slots := 0, locals := 40 } : Room).slots) := by
  refine MetFree.of_bodySF (plainFor_of_name pn_0) hisR ?_
  intro p e s m args below meth c s₁ Bd hml0 hP hK
  obtain ⟨rfl, hZ, hh⟩ := hP
  have hx := Bd.exec
  have hby := Bd.bytes
  have hml : c.maxLocals = 2 := hml0
  have hown : s.vm.findClass "java/lang/StringUTF16" = some m.cls := findClass_of_methodNamed Bd.named
  have hnm := (name_of_methodNamed Bd.named Bd.method).1
  have hlk := BodyLoose.notSynchronized Bd
  have X0 : Stand p l e ({ frames := 3, cells := 0, slots := 0, locals := 40 } : Room) s m #[(.ref a1), (.int (0 : Int32))] below meth c s₁ [] 0 0 := Stand.of_body Bd
  have e0 : s₁.heap = h0 := by rw [← hh, Bd.state]; rfl
  have N := Fr.nil n0
  obtain ⟨G, hG⟩ : ∃ G : State → JFrame → Prop, G = OwnG p e below s ({ frames := 3, cells := 0, slots := 0, locals := 40 } : Room).cells ({ frames := 3, cells := 0, slots := 0, locals := 40 } : Room).slots (Q_rmUC0 Z a1 k1 c0 c1 c2 c3 sf h0 n0) := ⟨_, rfl⟩
  have gb : ∀ {T T' : State} {g g' : JFrame}, (∀ t, Steps p.tables e below (T'.setTop g') t → Steps p.tables e below (T.setTop g) t) → G T' g' → G T g := by subst hG; exact fun k h => own_by k h
  have go : ∀ {T : State} {locs : List Loc} {cells slots : Nat} {g : JFrame} {v : Option Value}, Stand p l e ({ frames := 3, cells := 0, slots := 0, locals := 40 } : Room) s m #[(.ref a1), (.int (0 : Int32))] below meth c T locs cells slots → (meth.sig.returnType = none → v = none) → (∀ fs, (∀ (f : JFrame) (acts : List Action), f.method = m → f.locked = none → f.entered = [] → (doReturn e (T.setTop f) acts v).1 = T.setFrames fs) → Steps p.tables e below (T.setTop g) (T.setFrames fs)) → (Q_rmUC0 Z a1 k1 c0 c1 c2 c3 sf h0 n0) v T.heap locs → cells ≤ ({ frames := 3, cells := 0, slots := 0, locals := 40 } : Room).cells → slots ≤ ({ frames := 3, cells := 0, slots := 0, locals := 40 } : Room).slots → G T g := by subst hG; exact fun X h1 h2 h3 h4 h5 => own_out X hlk h1 h2 h3 h4 h5
  show OwnG p e below s ({ frames := 3, cells := 0, slots := 0, locals := 40 } : Room).cells ({ frames := 3, cells := 0, slots := 0, locals := 40 } : Room).slots (Q_rmUC0 Z a1 k1 c0 c1 c2 c3 sf h0 n0) s₁ (entryFrame m #[(.ref a1), (.int (0 : Int32))] 2)
  rw [← hG, ef_rmUC0 m a1 (0 : Int32)]
  clear hG
  show G s₁ (mkF m 0 #[.val (.ref a1), .val (.int (0 : Int32))] [])
  refine gb (fun _ k => XS.iloadN X0.here hx rfl (hb hby d20_0) rfl (XS.aloadN X0.here hx rfl (hb hby d20_1) rfl rfl k)) ?_
  show G s₁ (mkF m 2 #[rv a1, iv 0] [.ref a1, .int 0])
  obtain ⟨_, _, ⟨T1, Lz1, kz1, nz1⟩, -, X1, ⟨Lc1, hQ1, lq1, yq1, zq1⟩, st1⟩ := Jvm.LawKit.callS X0 hx (y := (⟨"java/lang/StringUTF16", "checkIndex", "(I[B)V"⟩ : MethodName)) hown (mvT hZ (ow hw 87 rfl)) (mvT hZ (ow hw 88 rfl)) (mvT hZ (ow hw 18 rfl)) (mvT hZ (ow hw 89 rfl)) (by decide) (backOf (W := 0) (rmUX l Z a0 hw [] (0 : Int32) a1 k1 c0 c1 c2 c3 sf hr_sf S_sf h0 n0 O V_a1 (by decide) (by decide)) hZ (ow hw 89 rfl) (ow hw 18 rfl) (by decide) (by decide)) (g := (mkF m 2 #[rv a1, iv 0] [.ref a1, .int 0])) rfl (by rw [hml]; rfl) (argsL := [(.int (0 : Int32)), (.ref a1)]) (rest := []) (lenOf pd_11 rfl) rfl (by show 2 * 0 + _ ≤ _; exact Nat.le_of_eq rfl) (hb hby d20_2) (fun _ _ => ⟨rfl, e0, (by decide : 0 + 0 ≤ _), (by decide : 0 + 0 ≤ _)⟩)
  dsimp only [Pt.U, Pt.locs, Pt.cells, Pt.slots] at X1 lq1 yq1 zq1 st1 hQ1
  subst lq1 yq1 zq1
  obtain ⟨rfl, rfl, e1⟩ := hQ1
  try rw [List.append_nil] at X1
  refine gb st1 ?_
  show G T1 (mkF m 5 #[rv a1, iv 0] [])
  refine gb (fun _ k => XS.aloadN X1.here hx rfl (hb hby d20_5) rfl rfl (XS.iloadN X1.here hx rfl (hb hby d20_6) rfl k)) ?_
  show G T1 (mkF m 7 #[rv a1, iv 0] [.int 0, .ref a1])
  obtain ⟨_, _, ⟨T2, Lz2, kz2, nz2⟩, -, X2, ⟨Lc2, hQ2, lq2, yq2, zq2⟩, st2⟩ := Jvm.LawKit.callS X1 hx (y := (⟨"java/lang/StringUTF16", "getChar", "([BI)C"⟩ : MethodName)) hown (mvT hZ (ow hw 52 rfl)) (mvT hZ (ow hw 53 rfl)) (mvT hZ (ow hw 18 rfl)) (mvT hZ (ow hw 54 rfl)) (by decide) (backOf (W := 0) (rmG0 l Z a0 hw [] a1 k1 c0 c1 c2 c3 h0 n0 O S_ad S_hi S_lo V_a1 hg0 hh0 hg1 hh1 hg2 hh2 hg3 hh3) hZ (ow hw 54 rfl) (ow hw 18 rfl) (by decide) (by decide)) (g := (mkF m 7 #[rv a1, iv 0] [.int 0, .ref a1])) rfl (by rw [hml]; rfl) (argsL := [(.ref a1), (.int (0 : Int32))]) (rest := []) (lenOf pd_7 rfl) rfl (by show 2 * 0 + _ ≤ _; exact Nat.le_of_eq rfl) (hb hby d20_7) (fun _ _ => ⟨rfl, e1, (by decide : 0 + 0 ≤ _), (by decide : 0 + 0 ≤ _)⟩)
  dsimp only [Pt.U, Pt.locs, Pt.cells, Pt.slots] at X2 lq2 yq2 zq2 st2 hQ2
  subst lq2 yq2 zq2
  obtain ⟨rfl, rfl, e2⟩ := hQ2
  try rw [List.append_nil] at X2
  refine gb st2 ?_
  show G T2 (mkF m 10 #[rv a1, iv 0] [.int c0])
  exact go X2 (v := (some (.int c0))) (fun h => by rw [Bd.returns] at h; cases h) (fun fs hr => retOut X2 hx Bd.returns (show narrow .char (.int c0) = .int c0 from congrArg Value.int (own_nc16 hg0 hh0)) (Or.inl ⟨rfl, by simp, _, rfl⟩) (hb hby d20_10) hr) (⟨rfl, rfl, e2⟩) (by decide) (by decide)
def Q_rmLC1 (Z : State) (a1 : Addr) (k1 : ClassId) (c0 c1 c2 c3 : Int32) (sf : Value) (h0 : Heap) (n0 : Nat) : Option Value → Heap → List Loc → Prop := fun v h L => v = some (.int c1) ∧ L = [] ∧ h = h0
set_option maxRecDepth 65536 in
set_option maxHeartbeats 40000000 in
theorem rmLC1 (l : Launch) (Z : State) (a0 : Array Value) (hw : ∀ d ∈ tables_1, d.before a0 Z = true) (ws : List Jvm.Cond) (a1 : Addr) (k1 : ClassId) (c0 c1 c2 c3 : Int32) (sf : Value) (hr_sf : sf.isRef = true) (S_sf : Sta Z Z.heap "jdk/internal/util/Preconditions" "SIOOBE_FORMATTER" "Ljava/util/function/BiFunction;" sf) (h0 : Heap) (n0 : Nat) (O : Old Z n0 h0) (V_a1 : Arv Z h0 a1 k1 .byte (4 : Int32) [(.int (nar .byte (c0.toInt8.toInt32))), (.int (nar .byte (c1.toInt8.toInt32))), (.int (nar .byte (c2.toInt8.toInt32))), (.int (nar .byte (c3.toInt8.toInt32)))] (.int (0 : Int32))) (hg0 : ¬ c0 < (0 : Int32)) (hg1 : ¬ c1 < (0 : Int32)) (hg2 : ¬ c2 < (0 : Int32)) (hg3 : ¬ c3 < (0 : Int32)) (hb0 : ¬ (255 : Int32) < c0) (hb1 : ¬ (255 : Int32) < c1) (hb2 : ¬ (255 : Int32) < c2) (hb3 : ¬ (255 : Int32) < c3) :
    MetFree l (⟨"java/lang/StringLatin1", "charAt", "([BI)C"⟩ : MethodName) (head1 (Jvm.Cond.code (⟨"java/lang/StringLatin1", "charAt", "([BI)C"⟩ : MethodName) jdk_43_method_2_code 2 (some .char) :: ws) ({ frames := 2, cells := 0, slots := 0, locals := 27 } : Room)) (fun a U => a = #[(.ref a1), (.int (1 : Int32))] ∧ Z.Warmed39 U.vm ∧ U.heap = h0) (fun _ _ _ _ _ => True) (fun _ U o U' => ∃ v L, o = .returned v ∧ (Q_rmLC1 Z a1 k1 c0 c1 c2 c3 sf h0 n0) v U'.heap L ∧ FrameEnd U o U' L ({ frames := 2, cells := 0, slots := 0, locals := 27 } : Room).cells ({ frames := 2, cells := 0, slots := 0, locals := 27 } : Room).slots) := by
  refine MetFree.of_bodySF (plainFor_of_name pn_3) hisR ?_
  intro p e s m args below meth c s₁ Bd hml0 hP hK
  obtain ⟨rfl, hZ, hh⟩ := hP
  have hx := Bd.exec
  have hby := Bd.bytes
  have hml : c.maxLocals = 2 := hml0
  have hown : s.vm.findClass "java/lang/StringLatin1" = some m.cls := findClass_of_methodNamed Bd.named
  have hnm := (name_of_methodNamed Bd.named Bd.method).1
  have hlk := BodyLoose.notSynchronized Bd
  have X0 : Stand p l e ({ frames := 2, cells := 0, slots := 0, locals := 27 } : Room) s m #[(.ref a1), (.int (1 : Int32))] below meth c s₁ [] 0 0 := Stand.of_body Bd
  have e0 : s₁.heap = h0 := by rw [← hh, Bd.state]; rfl
  have N := Fr.nil n0
  obtain ⟨G, hG⟩ : ∃ G : State → JFrame → Prop, G = OwnG p e below s ({ frames := 2, cells := 0, slots := 0, locals := 27 } : Room).cells ({ frames := 2, cells := 0, slots := 0, locals := 27 } : Room).slots (Q_rmLC1 Z a1 k1 c0 c1 c2 c3 sf h0 n0) := ⟨_, rfl⟩
  have gb : ∀ {T T' : State} {g g' : JFrame}, (∀ t, Steps p.tables e below (T'.setTop g') t → Steps p.tables e below (T.setTop g) t) → G T' g' → G T g := by subst hG; exact fun k h => own_by k h
  have go : ∀ {T : State} {locs : List Loc} {cells slots : Nat} {g : JFrame} {v : Option Value}, Stand p l e ({ frames := 2, cells := 0, slots := 0, locals := 27 } : Room) s m #[(.ref a1), (.int (1 : Int32))] below meth c T locs cells slots → (meth.sig.returnType = none → v = none) → (∀ fs, (∀ (f : JFrame) (acts : List Action), f.method = m → f.locked = none → f.entered = [] → (doReturn e (T.setTop f) acts v).1 = T.setFrames fs) → Steps p.tables e below (T.setTop g) (T.setFrames fs)) → (Q_rmLC1 Z a1 k1 c0 c1 c2 c3 sf h0 n0) v T.heap locs → cells ≤ ({ frames := 2, cells := 0, slots := 0, locals := 27 } : Room).cells → slots ≤ ({ frames := 2, cells := 0, slots := 0, locals := 27 } : Room).slots → G T g := by subst hG; exact fun X h1 h2 h3 h4 h5 => own_out X hlk h1 h2 h3 h4 h5
  show OwnG p e below s ({ frames := 2, cells := 0, slots := 0, locals := 27 } : Room).cells ({ frames := 2, cells := 0, slots := 0, locals := 27 } : Room).slots (Q_rmLC1 Z a1 k1 c0 c1 c2 c3 sf h0 n0) s₁ (entryFrame m #[(.ref a1), (.int (1 : Int32))] 2)
  rw [← hG, ef_rmLC1 m a1 (1 : Int32)]
  clear hG
  show G s₁ (mkF m 0 #[.val (.ref a1), .val (.int (1 : Int32))] [])
  refine gb (fun _ k => XS.iloadN X0.here hx rfl (hb hby d17_0) rfl (XS.aloadN X0.here hx rfl (hb hby d17_1) rfl rfl k)) ?_
  show G s₁ (mkF m 2 #[rv a1, iv 1] [.ref a1, .int 1])
  have V'1 := V_a1
  obtain ⟨cl1, Ar1, qk1, sz1, nn1, hs1, ft1⟩ := V'1
  refine gb (X0.arraylength hx (by rw [e0]; exact Ar1.1) (State.isArrayOf_alike hZ.alike Ar1.2.1) (g := (mkF m 2 #[rv a1, iv 1] [.ref a1, .int 1])) rfl rfl (hb hby d17_2)) ?_
  rw [len_of sz1 nn1]
  show G s₁ (mkF m 3 #[rv a1, iv 1] [.int 4, .int 1])
  obtain ⟨_, _, ⟨T2, Lz2, kz2, nz2⟩, -, X2, ⟨Lc2, hQ2, lq2, yq2, zq2⟩, st2⟩ := Jvm.LawKit.callS X0 hx (y := (⟨"java/lang/String", "checkIndex", "(II)V"⟩ : MethodName)) hown (mvT hZ (ow hw 76 rfl)) (mvT hZ (ow hw 77 rfl)) (mvT hZ (ow hw 4 rfl)) (mvT hZ (ow hw 78 rfl)) (by decide) (backOf (W := 0) (rmSX l Z a0 hw [] (1 : Int32) (4 : Int32) sf hr_sf S_sf h0 n0 O (by decide) (by decide)) hZ (ow hw 78 rfl) (ow hw 4 rfl) (by decide) (by decide)) (g := (mkF m 3 #[rv a1, iv 1] [.int 4, .int 1])) rfl (by rw [hml]; rfl) (argsL := [(.int (1 : Int32)), (.int (4 : Int32))]) (rest := []) (lenOf pd_10 rfl) rfl (by show 2 * 0 + _ ≤ _; exact Nat.le_of_eq rfl) (hb hby d17_3) (fun _ _ => ⟨rfl, e0, (by decide : 0 + 0 ≤ _), (by decide : 0 + 0 ≤ _)⟩)
  dsimp only [Pt.U, Pt.locs, Pt.cells, Pt.slots] at X2 lq2 yq2 zq2 st2 hQ2
  subst lq2 yq2 zq2
  obtain ⟨rfl, rfl, e2⟩ := hQ2
  try rw [List.append_nil] at X2
  refine gb st2 ?_
  show G T2 (mkF m 6 #[rv a1, iv 1] [])
  refine gb (fun _ k => XS.aloadN X2.here hx rfl (hb hby d17_6) rfl rfl (XS.iloadN X2.here hx rfl (hb hby d17_7) rfl k)) ?_
  show G T2 (mkF m 8 #[rv a1, iv 1] [.int 1, .ref a1])
  have V'3 := V_a1
  obtain ⟨cl3, Ar3, qk3, sz3, nn3, hs3, ft3⟩ := V'3
  have hin3 : ¬ ((1 : Int32) < 0 ∨ cl3.slots.size ≤ ((1 : Int32)).toNatClampNeg) := inb_of sz3 ⟨by decide, by decide⟩
  have hat3 : cl3.slots[((1 : Int32)).toNatClampNeg]? = some (.int (nar .byte (c1.toInt8.toInt32))) := hs3.at hin3 rfl
  refine gb (X2.baloadBytes hx (j := (1 : Int32)) (v := (.int (nar .byte (c1.toInt8.toInt32)))) (by rw [e2]; exact Ar3.1) (State.isArrayOf_alike hZ.alike Ar3.2.1) Ar3.2.2 hin3 hat3 (g := (mkF m 8 #[rv a1, iv 1] [.int 1, .ref a1])) rfl rfl (hb hby d17_8)) ?_
  show G T2 (mkF m 9 #[rv a1, iv 1] [.int (nar .byte (c1.toInt8.toInt32))])
  refine gb (fun _ k => XS.sipush X2.here hx rfl (hb hby d17_9) (XS.iand X2.here hx rfl (hb hby d17_12) rfl (XS.i2c X2.here hx rfl (hb hby d17_13) rfl k))) ?_
  show G T2 (mkF m 14 #[rv a1, iv 1] [.int (((nar .byte (c1.toInt8.toInt32)) &&& (255 : Int32)).toUInt32.toUInt16.toUInt32.toInt32)])
  rw [own_b8 hg1 hb1]
  show G T2 (mkF m 14 #[rv a1, iv 1] [.int c1])
  exact go X2 (v := (some (.int c1))) (fun h => by rw [Bd.returns] at h; cases h) (fun fs hr => retOut X2 hx Bd.returns (show narrow .char (.int c1) = .int c1 from congrArg Value.int (own_nc hg1 hb1)) (Or.inl ⟨rfl, by simp, _, rfl⟩) (hb hby d17_14) hr) (⟨rfl, rfl, e2⟩) (by decide) (by decide)
def Q_rmUC1 (Z : State) (a1 : Addr) (k1 : ClassId) (c0 c1 c2 c3 : Int32) (sf : Value) (h0 : Heap) (n0 : Nat) : Option Value → Heap → List Loc → Prop := fun v h L => v = some (.int c1) ∧ L = [] ∧ h = h0
set_option maxRecDepth 65536 in
set_option maxHeartbeats 40000000 in
theorem rmUC1 (l : Launch) (Z : State) (a0 : Array Value) (hw : ∀ d ∈ tables_1, d.before a0 Z = true) (ws : List Jvm.Cond) (a1 : Addr) (k1 : ClassId) (c0 c1 c2 c3 : Int32) (sf : Value) (hr_sf : sf.isRef = true) (S_sf : Sta Z Z.heap "jdk/internal/util/Preconditions" "SIOOBE_FORMATTER" "Ljava/util/function/BiFunction;" sf) (S_ad : Sta Z Z.heap "java/lang/StringUTF16" "$assertionsDisabled" "Z" (.int (1 : Int32))) (S_hi : Sta Z Z.heap "java/lang/StringUTF16" "HI_BYTE_SHIFT" "I" (.int (0 : Int32))) (S_lo : Sta Z Z.heap "java/lang/StringUTF16" "LO_BYTE_SHIFT" "I" (.int (8 : Int32))) (h0 : Heap) (n0 : Nat) (O : Old Z n0 h0) (V_a1 : Arv Z h0 a1 k1 .byte (8 : Int32) [(.int (nar .byte ((c0 >>> ((0 : Int32) &&& 31)).toInt8.toInt32))), (.int (nar .byte ((c0 >>> ((8 : Int32) &&& 31)).toInt8.toInt32))), (.int (nar .byte ((c1 >>> ((0 : Int32) &&& 31)).toInt8.toInt32))), (.int (nar .byte ((c1 >>> ((8 : Int32) &&& 31)).toInt8.toInt32))), (.int (nar .byte ((c2 >>> ((0 : Int32) &&& 31)).toInt8.toInt32))), (.int (nar .byte ((c2 >>> ((8 : Int32) &&& 31)).toInt8.toInt32))), (.int (nar .byte ((c3 >>> ((0 : Int32) &&& 31)).toInt8.toInt32))), (.int (nar .byte ((c3 >>> ((8 : Int32) &&& 31)).toInt8.toInt32)))] (.int (0 : Int32))) (hg0 : ¬ c0 < (0 : Int32)) (hh0 : ¬ (65535 : Int32) < c0) (hg1 : ¬ c1 < (0 : Int32)) (hh1 : ¬ (65535 : Int32) < c1) (hg2 : ¬ c2 < (0 : Int32)) (hh2 : ¬ (65535 : Int32) < c2) (hg3 : ¬ c3 < (0 : Int32)) (hh3 : ¬ (65535 : Int32) < c3) :
    MetFree l (⟨"java/lang/StringUTF16", "charAt", "([BI)C"⟩ : MethodName) (head1 (Jvm.Cond.code (⟨"java/lang/StringUTF16", "charAt", "([BI)C"⟩ : MethodName) jdk_52_method_83_code 2 (some .char) :: ws) ({ frames := 3, cells := 0, slots := 0, locals := 40 } : Room)) (fun a U => a = #[(.ref a1), (.int (1 : Int32))] ∧ Z.Warmed39 U.vm ∧ U.heap = h0) (fun _ _ _ _ _ => True) (fun _ U o U' => ∃ v L, o = .returned v ∧ (Q_rmUC1 Z a1 k1 c0 c1 c2 c3 sf h0 n0) v U'.heap L ∧ FrameEnd U o U' L ({ frames := 3, cells := 0, slots := 0, locals := 40 } : Room).cells ({ frames := 3, cells := 0, slots := 0, locals := 40 } : Room).slots) := by
  refine MetFree.of_bodySF (plainFor_of_name pn_0) hisR ?_
  intro p e s m args below meth c s₁ Bd hml0 hP hK
  obtain ⟨rfl, hZ, hh⟩ := hP
  have hx := Bd.exec
  have hby := Bd.bytes
  have hml : c.maxLocals = 2 := hml0
  have hown : s.vm.findClass "java/lang/StringUTF16" = some m.cls := findClass_of_methodNamed Bd.named
  have hnm := (name_of_methodNamed Bd.named Bd.method).1
  have hlk := BodyLoose.notSynchronized Bd
  have X0 : Stand p l e ({ frames := 3, cells := 0, slots := 0, locals := 40 } : Room) s m #[(.ref a1), (.int (1 : Int32))] below meth c s₁ [] 0 0 := Stand.of_body Bd
  have e0 : s₁.heap = h0 := by rw [← hh, Bd.state]; rfl
  have N := Fr.nil n0
  obtain ⟨G, hG⟩ : ∃ G : State → JFrame → Prop, G = OwnG p e below s ({ frames := 3, cells := 0, slots := 0, locals := 40 } : Room).cells ({ frames := 3, cells := 0, slots := 0, locals := 40 } : Room).slots (Q_rmUC1 Z a1 k1 c0 c1 c2 c3 sf h0 n0) := ⟨_, rfl⟩
  have gb : ∀ {T T' : State} {g g' : JFrame}, (∀ t, Steps p.tables e below (T'.setTop g') t → Steps p.tables e below (T.setTop g) t) → G T' g' → G T g := by subst hG; exact fun k h => own_by k h
  have go : ∀ {T : State} {locs : List Loc} {cells slots : Nat} {g : JFrame} {v : Option Value}, Stand p l e ({ frames := 3, cells := 0, slots := 0, locals := 40 } : Room) s m #[(.ref a1), (.int (1 : Int32))] below meth c T locs cells slots → (meth.sig.returnType = none → v = none) → (∀ fs, (∀ (f : JFrame) (acts : List Action), f.method = m → f.locked = none → f.entered = [] → (doReturn e (T.setTop f) acts v).1 = T.setFrames fs) → Steps p.tables e below (T.setTop g) (T.setFrames fs)) → (Q_rmUC1 Z a1 k1 c0 c1 c2 c3 sf h0 n0) v T.heap locs → cells ≤ ({ frames := 3, cells := 0, slots := 0, locals := 40 } : Room).cells → slots ≤ ({ frames := 3, cells := 0, slots := 0, locals := 40 } : Room).slots → G T g := by subst hG; exact fun X h1 h2 h3 h4 h5 => own_out X hlk h1 h2 h3 h4 h5
  show OwnG p e below s ({ frames := 3, cells := 0, slots := 0, locals := 40 } : Room).cells ({ frames := 3, cells := 0, slots := 0, locals := 40 } : Room).slots (Q_rmUC1 Z a1 k1 c0 c1 c2 c3 sf h0 n0) s₁ (entryFrame m #[(.ref a1), (.int (1 : Int32))] 2)
  rw [← hG, ef_rmUC1 m a1 (1 : Int32)]
  clear hG
  show G s₁ (mkF m 0 #[.val (.ref a1), .val (.int (1 : Int32))] [])
  refine gb (fun _ k => XS.iloadN X0.here hx rfl (hb hby d20_0) rfl (XS.aloadN X0.here hx rfl (hb hby d20_1) rfl rfl k)) ?_
  show G s₁ (mkF m 2 #[rv a1, iv 1] [.ref a1, .int 1])
  obtain ⟨_, _, ⟨T1, Lz1, kz1, nz1⟩, -, X1, ⟨Lc1, hQ1, lq1, yq1, zq1⟩, st1⟩ := Jvm.LawKit.callS X0 hx (y := (⟨"java/lang/StringUTF16", "checkIndex", "(I[B)V"⟩ : MethodName)) hown (mvT hZ (ow hw 87 rfl)) (mvT hZ (ow hw 88 rfl)) (mvT hZ (ow hw 18 rfl)) (mvT hZ (ow hw 89 rfl)) (by decide) (backOf (W := 0) (rmUX l Z a0 hw [] (1 : Int32) a1 k1 c0 c1 c2 c3 sf hr_sf S_sf h0 n0 O V_a1 (by decide) (by decide)) hZ (ow hw 89 rfl) (ow hw 18 rfl) (by decide) (by decide)) (g := (mkF m 2 #[rv a1, iv 1] [.ref a1, .int 1])) rfl (by rw [hml]; rfl) (argsL := [(.int (1 : Int32)), (.ref a1)]) (rest := []) (lenOf pd_11 rfl) rfl (by show 2 * 0 + _ ≤ _; exact Nat.le_of_eq rfl) (hb hby d20_2) (fun _ _ => ⟨rfl, e0, (by decide : 0 + 0 ≤ _), (by decide : 0 + 0 ≤ _)⟩)
  dsimp only [Pt.U, Pt.locs, Pt.cells, Pt.slots] at X1 lq1 yq1 zq1 st1 hQ1
  subst lq1 yq1 zq1
  obtain ⟨rfl, rfl, e1⟩ := hQ1
  try rw [List.append_nil] at X1
  refine gb st1 ?_
  show G T1 (mkF m 5 #[rv a1, iv 1] [])
  refine gb (fun _ k => XS.aloadN X1.here hx rfl (hb hby d20_5) rfl rfl (XS.iloadN X1.here hx rfl (hb hby d20_6) rfl k)) ?_
  show G T1 (mkF m 7 #[rv a1, iv 1] [.int 1, .ref a1])
  obtain ⟨_, _, ⟨T2, Lz2, kz2, nz2⟩, -, X2, ⟨Lc2, hQ2, lq2, yq2, zq2⟩, st2⟩ := Jvm.LawKit.callS X1 hx (y := (⟨"java/lang/StringUTF16", "getChar", "([BI)C"⟩ : MethodName)) hown (mvT hZ (ow hw 52 rfl)) (mvT hZ (ow hw 53 rfl)) (mvT hZ (ow hw 18 rfl)) (mvT hZ (ow hw 54 rfl)) (by decide) (backOf (W := 0) (rmG1 l Z a0 hw [] a1 k1 c0 c1 c2 c3 h0 n0 O S_ad S_hi S_lo V_a1 hg0 hh0 hg1 hh1 hg2 hh2 hg3 hh3) hZ (ow hw 54 rfl) (ow hw 18 rfl) (by decide) (by decide)) (g := (mkF m 7 #[rv a1, iv 1] [.int 1, .ref a1])) rfl (by rw [hml]; rfl) (argsL := [(.ref a1), (.int (1 : Int32))]) (rest := []) (lenOf pd_7 rfl) rfl (by show 2 * 0 + _ ≤ _; exact Nat.le_of_eq rfl) (hb hby d20_7) (fun _ _ => ⟨rfl, e1, (by decide : 0 + 0 ≤ _), (by decide : 0 + 0 ≤ _)⟩)
  dsimp only [Pt.U, Pt.locs, Pt.cells, Pt.slots] at X2 lq2 yq2 zq2 st2 hQ2
  subst lq2 yq2 zq2
  obtain ⟨rfl, rfl, e2⟩ := hQ2
  try rw [List.append_nil] at X2
  refine gb st2 ?_
  show G T2 (mkF m 10 #[rv a1, iv 1] [.int c1])
  exact go X2 (v := (some (.int c1))) (fun h => by rw [Bd.returns] at h; cases h) (fun fs hr => retOut X2 hx Bd.returns (show narrow .char (.int c1) = .int c1 from congrArg Value.int (own_nc16 hg1 hh1)) (Or.inl ⟨rfl, by simp, _, rfl⟩) (hb hby d20_10) hr) (⟨rfl, rfl, e2⟩) (by decide) (by decide)
def Q_rmLC2 (Z : State) (a1 : Addr) (k1 : ClassId) (c0 c1 c2 c3 : Int32) (sf : Value) (h0 : Heap) (n0 : Nat) : Option Value → Heap → List Loc → Prop := fun v h L => v = some (.int c2) ∧ L = [] ∧ h = h0
set_option maxRecDepth 65536 in
set_option maxHeartbeats 40000000 in
theorem rmLC2 (l : Launch) (Z : State) (a0 : Array Value) (hw : ∀ d ∈ tables_1, d.before a0 Z = true) (ws : List Jvm.Cond) (a1 : Addr) (k1 : ClassId) (c0 c1 c2 c3 : Int32) (sf : Value) (hr_sf : sf.isRef = true) (S_sf : Sta Z Z.heap "jdk/internal/util/Preconditions" "SIOOBE_FORMATTER" "Ljava/util/function/BiFunction;" sf) (h0 : Heap) (n0 : Nat) (O : Old Z n0 h0) (V_a1 : Arv Z h0 a1 k1 .byte (4 : Int32) [(.int (nar .byte (c0.toInt8.toInt32))), (.int (nar .byte (c1.toInt8.toInt32))), (.int (nar .byte (c2.toInt8.toInt32))), (.int (nar .byte (c3.toInt8.toInt32)))] (.int (0 : Int32))) (hg0 : ¬ c0 < (0 : Int32)) (hg1 : ¬ c1 < (0 : Int32)) (hg2 : ¬ c2 < (0 : Int32)) (hg3 : ¬ c3 < (0 : Int32)) (hb0 : ¬ (255 : Int32) < c0) (hb1 : ¬ (255 : Int32) < c1) (hb2 : ¬ (255 : Int32) < c2) (hb3 : ¬ (255 : Int32) < c3) :
    MetFree l (⟨"java/lang/StringLatin1", "charAt", "([BI)C"⟩ : MethodName) (head1 (Jvm.Cond.code (⟨"java/lang/StringLatin1", "charAt", "([BI)C"⟩ : MethodName) jdk_43_method_2_code 2 (some .char) :: ws) ({ frames := 2, cells := 0, slots := 0, locals := 27 } : Room)) (fun a U => a = #[(.ref a1), (.int (2 : Int32))] ∧ Z.Warmed39 U.vm ∧ U.heap = h0) (fun _ _ _ _ _ => True) (fun _ U o U' => ∃ v L, o = .returned v ∧ (Q_rmLC2 Z a1 k1 c0 c1 c2 c3 sf h0 n0) v U'.heap L ∧ FrameEnd U o U' L ({ frames := 2, cells := 0, slots := 0, locals := 27 } : Room).cells ({ frames := 2, cells := 0, slots := 0, locals := 27 } : Room).slots) := by
  refine MetFree.of_bodySF (plainFor_of_name pn_3) hisR ?_
  intro p e s m args below meth c s₁ Bd hml0 hP hK
  obtain ⟨rfl, hZ, hh⟩ := hP
  have hx := Bd.exec
  have hby := Bd.bytes
  have hml : c.maxLocals = 2 := hml0
  have hown : s.vm.findClass "java/lang/StringLatin1" = some m.cls := findClass_of_methodNamed Bd.named
  have hnm := (name_of_methodNamed Bd.named Bd.method).1
  have hlk := BodyLoose.notSynchronized Bd
  have X0 : Stand p l e ({ frames := 2, cells := 0, slots := 0, locals := 27 } : Room) s m #[(.ref a1), (.int (2 : Int32))] below meth c s₁ [] 0 0 := Stand.of_body Bd
  have e0 : s₁.heap = h0 := by rw [← hh, Bd.state]; rfl
  have N := Fr.nil n0
  obtain ⟨G, hG⟩ : ∃ G : State → JFrame → Prop, G = OwnG p e below s ({ frames := 2, cells := 0, slots := 0, locals := 27 } : Room).cells ({ frames := 2, cells := 0, slots := 0, locals := 27 } : Room).slots (Q_rmLC2 Z a1 k1 c0 c1 c2 c3 sf h0 n0) := ⟨_, rfl⟩
  have gb : ∀ {T T' : State} {g g' : JFrame}, (∀ t, Steps p.tables e below (T'.setTop g') t → Steps p.tables e below (T.setTop g) t) → G T' g' → G T g := by subst hG; exact fun k h => own_by k h
  have go : ∀ {T : State} {locs : List Loc} {cells slots : Nat} {g : JFrame} {v : Option Value}, Stand p l e ({ frames := 2, cells := 0, slots := 0, locals := 27 } : Room) s m #[(.ref a1), (.int (2 : Int32))] below meth c T locs cells slots → (meth.sig.returnType = none → v = none) → (∀ fs, (∀ (f : JFrame) (acts : List Action), f.method = m → f.locked = none → f.entered = [] → (doReturn e (T.setTop f) acts v).1 = T.setFrames fs) → Steps p.tables e below (T.setTop g) (T.setFrames fs)) → (Q_rmLC2 Z a1 k1 c0 c1 c2 c3 sf h0 n0) v T.heap locs → cells ≤ ({ frames := 2, cells := 0, slots := 0, locals := 27 } : Room).cells → slots ≤ ({ frames := 2, cells := 0, slots := 0, locals := 27 } : Room).slots → G T g := by subst hG; exact fun X h1 h2 h3 h4 h5 => own_out X hlk h1 h2 h3 h4 h5
  show OwnG p e below s ({ frames := 2, cells := 0, slots := 0, locals := 27 } : Room).cells ({ frames := 2, cells := 0, slots := 0, locals := 27 } : Room).slots (Q_rmLC2 Z a1 k1 c0 c1 c2 c3 sf h0 n0) s₁ (entryFrame m #[(.ref a1), (.int (2 : Int32))] 2)
  rw [← hG, ef_rmLC2 m a1 (2 : Int32)]
  clear hG
  show G s₁ (mkF m 0 #[.val (.ref a1), .val (.int (2 : Int32))] [])
  refine gb (fun _ k => XS.iloadN X0.here hx rfl (hb hby d17_0) rfl (XS.aloadN X0.here hx rfl (hb hby d17_1) rfl rfl k)) ?_
  show G s₁ (mkF m 2 #[rv a1, iv 2] [.ref a1, .int 2])
  have V'1 := V_a1
  obtain ⟨cl1, Ar1, qk1, sz1, nn1, hs1, ft1⟩ := V'1
  refine gb (X0.arraylength hx (by rw [e0]; exact Ar1.1) (State.isArrayOf_alike hZ.alike Ar1.2.1) (g := (mkF m 2 #[rv a1, iv 2] [.ref a1, .int 2])) rfl rfl (hb hby d17_2)) ?_
  rw [len_of sz1 nn1]
  show G s₁ (mkF m 3 #[rv a1, iv 2] [.int 4, .int 2])
  obtain ⟨_, _, ⟨T2, Lz2, kz2, nz2⟩, -, X2, ⟨Lc2, hQ2, lq2, yq2, zq2⟩, st2⟩ := Jvm.LawKit.callS X0 hx (y := (⟨"java/lang/String", "checkIndex", "(II)V"⟩ : MethodName)) hown (mvT hZ (ow hw 76 rfl)) (mvT hZ (ow hw 77 rfl)) (mvT hZ (ow hw 4 rfl)) (mvT hZ (ow hw 78 rfl)) (by decide) (backOf (W := 0) (rmSX l Z a0 hw [] (2 : Int32) (4 : Int32) sf hr_sf S_sf h0 n0 O (by decide) (by decide)) hZ (ow hw 78 rfl) (ow hw 4 rfl) (by decide) (by decide)) (g := (mkF m 3 #[rv a1, iv 2] [.int 4, .int 2])) rfl (by rw [hml]; rfl) (argsL := [(.int (2 : Int32)), (.int (4 : Int32))]) (rest := []) (lenOf pd_10 rfl) rfl (by show 2 * 0 + _ ≤ _; exact Nat.le_of_eq rfl) (hb hby d17_3) (fun _ _ => ⟨rfl, e0, (by decide : 0 + 0 ≤ _), (by decide : 0 + 0 ≤ _)⟩)
  dsimp only [Pt.U, Pt.locs, Pt.cells, Pt.slots] at X2 lq2 yq2 zq2 st2 hQ2
  subst lq2 yq2 zq2
  obtain ⟨rfl, rfl, e2⟩ := hQ2
  try rw [List.append_nil] at X2
  refine gb st2 ?_
  show G T2 (mkF m 6 #[rv a1, iv 2] [])
  refine gb (fun _ k => XS.aloadN X2.here hx rfl (hb hby d17_6) rfl rfl (XS.iloadN X2.here hx rfl (hb hby d17_7) rfl k)) ?_
  show G T2 (mkF m 8 #[rv a1, iv 2] [.int 2, .ref a1])
  have V'3 := V_a1
  obtain ⟨cl3, Ar3, qk3, sz3, nn3, hs3, ft3⟩ := V'3
  have hin3 : ¬ ((2 : Int32) < 0 ∨ cl3.slots.size ≤ ((2 : Int32)).toNatClampNeg) := inb_of sz3 ⟨by decide, by decide⟩
  have hat3 : cl3.slots[((2 : Int32)).toNatClampNeg]? = some (.int (nar .byte (c2.toInt8.toInt32))) := hs3.at hin3 rfl
  refine gb (X2.baloadBytes hx (j := (2 : Int32)) (v := (.int (nar .byte (c2.toInt8.toInt32)))) (by rw [e2]; exact Ar3.1) (State.isArrayOf_alike hZ.alike Ar3.2.1) Ar3.2.2 hin3 hat3 (g := (mkF m 8 #[rv a1, iv 2] [.int 2, .ref a1])) rfl rfl (hb hby d17_8)) ?_
  show G T2 (mkF m 9 #[rv a1, iv 2] [.int (nar .byte (c2.toInt8.toInt32))])
  refine gb (fun _ k => XS.sipush X2.here hx rfl (hb hby d17_9) (XS.iand X2.here hx rfl (hb hby d17_12) rfl (XS.i2c X2.here hx rfl (hb hby d17_13) rfl k))) ?_
  show G T2 (mkF m 14 #[rv a1, iv 2] [.int (((nar .byte (c2.toInt8.toInt32)) &&& (255 : Int32)).toUInt32.toUInt16.toUInt32.toInt32)])
  rw [own_b8 hg2 hb2]
  show G T2 (mkF m 14 #[rv a1, iv 2] [.int c2])
  exact go X2 (v := (some (.int c2))) (fun h => by rw [Bd.returns] at h; cases h) (fun fs hr => retOut X2 hx Bd.returns (show narrow .char (.int c2) = .int c2 from congrArg Value.int (own_nc hg2 hb2)) (Or.inl ⟨rfl, by simp, _, rfl⟩) (hb hby d17_14) hr) (⟨rfl, rfl, e2⟩) (by decide) (by decide)
def Q_rmUC2 (Z : State) (a1 : Addr) (k1 : ClassId) (c0 c1 c2 c3 : Int32) (sf : Value) (h0 : Heap) (n0 : Nat) : Option Value → Heap → List Loc → Prop := fun v h L => v = some (.int c2) ∧ L = [] ∧ h = h0
set_option maxRecDepth 65536 in
set_option maxHeartbeats 40000000 in
theorem rmUC2 (l : Launch) (Z : State) (a0 : Array Value) (hw : ∀ d ∈ tables_1, d.before a0 Z = true) (ws : List Jvm.Cond) (a1 : Addr) (k1 : ClassId) (c0 c1 c2 c3 : Int32) (sf : Value) (hr_sf : sf.isRef = true) (S_sf : Sta Z Z.heap "jdk/internal/util/Preconditions" "SIOOBE_FORMATTER" "Ljava/util/function/BiFunction;" sf) (S_ad : Sta Z Z.heap "java/lang/StringUTF16" "$assertionsDisabled" "Z" (.int (1 : Int32))) (S_hi : Sta Z Z.heap "java/lang/StringUTF16" "HI_BYTE_SHIFT" "I" (.int (0 : Int32))) (S_lo : Sta Z Z.heap "java/lang/StringUTF16" "LO_BYTE_SHIFT" "I" (.int (8 : Int32))) (h0 : Heap) (n0 : Nat) (O : Old Z n0 h0) (V_a1 : Arv Z h0 a1 k1 .byte (8 : Int32) [(.int (nar .byte ((c0 >>> ((0 : Int32) &&& 31)).toInt8.toInt32))), (.int (nar .byte ((c0 >>> ((8 : Int32) &&& 31)).toInt8.toInt32))), (.int (nar .byte ((c1 >>> ((0 : Int32) &&& 31)).toInt8.toInt32))), (.int (nar .byte ((c1 >>> ((8 : Int32) &&& 31)).toInt8.toInt32))), (.int (nar .byte ((c2 >>> ((0 : Int32) &&& 31)).toInt8.toInt32))), (.int (nar .byte ((c2 >>> ((8 : Int32) &&& 31)).toInt8.toInt32))), (.int (nar .byte ((c3 >>> ((0 : Int32) &&& 31)).toInt8.toInt32))), (.int (nar .byte ((c3 >>> ((8 : Int32) &&& 31)).toInt8.toInt32)))] (.int (0 : Int32))) (hg0 : ¬ c0 < (0 : Int32)) (hh0 : ¬ (65535 : Int32) < c0) (hg1 : ¬ c1 < (0 : Int32)) (hh1 : ¬ (65535 : Int32) < c1) (hg2 : ¬ c2 < (0 : Int32)) (hh2 : ¬ (65535 : Int32) < c2) (hg3 : ¬ c3 < (0 : Int32)) (hh3 : ¬ (65535 : Int32) < c3) :
    MetFree l (⟨"java/lang/StringUTF16", "charAt", "([BI)C"⟩ : MethodName) (head1 (Jvm.Cond.code (⟨"java/lang/StringUTF16", "charAt", "([BI)C"⟩ : MethodName) jdk_52_method_83_code 2 (some .char) :: ws) ({ frames := 3, cells := 0, slots := 0, locals := 40 } : Room)) (fun a U => a = #[(.ref a1), (.int (2 : Int32))] ∧ Z.Warmed39 U.vm ∧ U.heap = h0) (fun _ _ _ _ _ => True) (fun _ U o U' => ∃ v L, o = .returned v ∧ (Q_rmUC2 Z a1 k1 c0 c1 c2 c3 sf h0 n0) v U'.heap L ∧ FrameEnd U o U' L ({ frames := 3, cells := 0, slots := 0, locals := 40 } : Room).cells ({ frames := 3, cells := 0, slots := 0, locals := 40 } : Room).slots) := by
  refine MetFree.of_bodySF (plainFor_of_name pn_0) hisR ?_
  intro p e s m args below meth c s₁ Bd hml0 hP hK
  obtain ⟨rfl, hZ, hh⟩ := hP
  have hx := Bd.exec
  have hby := Bd.bytes
  have hml : c.maxLocals = 2 := hml0
  have hown : s.vm.findClass "java/lang/StringUTF16" = some m.cls := findClass_of_methodNamed Bd.named
  have hnm := (name_of_methodNamed Bd.named Bd.method).1
  have hlk := BodyLoose.notSynchronized Bd
  have X0 : Stand p l e ({ frames := 3, cells := 0, slots := 0, locals := 40 } : Room) s m #[(.ref a1), (.int (2 : Int32))] below meth c s₁ [] 0 0 := Stand.of_body Bd
  have e0 : s₁.heap = h0 := by rw [← hh, Bd.state]; rfl
  have N := Fr.nil n0
  obtain ⟨G, hG⟩ : ∃ G : State → JFrame → Prop, G = OwnG p e below s ({ frames := 3, cells := 0, slots := 0, locals := 40 } : Room).cells ({ frames := 3, cells := 0, slots := 0, locals := 40 } : Room).slots (Q_rmUC2 Z a1 k1 c0 c1 c2 c3 sf h0 n0) := ⟨_, rfl⟩
  have gb : ∀ {T T' : State} {g g' : JFrame}, (∀ t, Steps p.tables e below (T'.setTop g') t → Steps p.tables e below (T.setTop g) t) → G T' g' → G T g := by subst hG; exact fun k h => own_by k h
  have go : ∀ {T : State} {locs : List Loc} {cells slots : Nat} {g : JFrame} {v : Option Value}, Stand p l e ({ frames := 3, cells := 0, slots := 0, locals := 40 } : Room) s m #[(.ref a1), (.int (2 : Int32))] below meth c T locs cells slots → (meth.sig.returnType = none → v = none) → (∀ fs, (∀ (f : JFrame) (acts : List Action), f.method = m → f.locked = none → f.entered = [] → (doReturn e (T.setTop f) acts v).1 = T.setFrames fs) → Steps p.tables e below (T.setTop g) (T.setFrames fs)) → (Q_rmUC2 Z a1 k1 c0 c1 c2 c3 sf h0 n0) v T.heap locs → cells ≤ ({ frames := 3, cells := 0, slots := 0, locals := 40 } : Room).cells → slots ≤ ({ frames := 3, cells := 0, slots := 0, locals := 40 } : Room).slots → G T g := by subst hG; exact fun X h1 h2 h3 h4 h5 => own_out X hlk h1 h2 h3 h4 h5
  show OwnG p e below s ({ frames := 3, cells := 0, slots := 0, locals := 40 } : Room).cells ({ frames := 3, cells := 0, slots := 0, locals := 40 } : Room).slots (Q_rmUC2 Z a1 k1 c0 c1 c2 c3 sf h0 n0) s₁ (entryFrame m #[(.ref a1), (.int (2 : Int32))] 2)
  rw [← hG, ef_rmUC2 m a1 (2 : Int32)]
  clear hG
  show G s₁ (mkF m 0 #[.val (.ref a1), .val (.int (2 : Int32))] [])
  refine gb (fun _ k => XS.iloadN X0.here hx rfl (hb hby d20_0) rfl (XS.aloadN X0.here hx rfl (hb hby d20_1) rfl rfl k)) ?_
  show G s₁ (mkF m 2 #[rv a1, iv 2] [.ref a1, .int 2])
  obtain ⟨_, _, ⟨T1, Lz1, kz1, nz1⟩, -, X1, ⟨Lc1, hQ1, lq1, yq1, zq1⟩, st1⟩ := Jvm.LawKit.callS X0 hx (y := (⟨"java/lang/StringUTF16", "checkIndex", "(I[B)V"⟩ : MethodName)) hown (mvT hZ (ow hw 87 rfl)) (mvT hZ (ow hw 88 rfl)) (mvT hZ (ow hw 18 rfl)) (mvT hZ (ow hw 89 rfl)) (by decide) (backOf (W := 0) (rmUX l Z a0 hw [] (2 : Int32) a1 k1 c0 c1 c2 c3 sf hr_sf S_sf h0 n0 O V_a1 (by decide) (by decide)) hZ (ow hw 89 rfl) (ow hw 18 rfl) (by decide) (by decide)) (g := (mkF m 2 #[rv a1, iv 2] [.ref a1, .int 2])) rfl (by rw [hml]; rfl) (argsL := [(.int (2 : Int32)), (.ref a1)]) (rest := []) (lenOf pd_11 rfl) rfl (by show 2 * 0 + _ ≤ _; exact Nat.le_of_eq rfl) (hb hby d20_2) (fun _ _ => ⟨rfl, e0, (by decide : 0 + 0 ≤ _), (by decide : 0 + 0 ≤ _)⟩)
  dsimp only [Pt.U, Pt.locs, Pt.cells, Pt.slots] at X1 lq1 yq1 zq1 st1 hQ1
  subst lq1 yq1 zq1
  obtain ⟨rfl, rfl, e1⟩ := hQ1
  try rw [List.append_nil] at X1
  refine gb st1 ?_
  show G T1 (mkF m 5 #[rv a1, iv 2] [])
  refine gb (fun _ k => XS.aloadN X1.here hx rfl (hb hby d20_5) rfl rfl (XS.iloadN X1.here hx rfl (hb hby d20_6) rfl k)) ?_
  show G T1 (mkF m 7 #[rv a1, iv 2] [.int 2, .ref a1])
  obtain ⟨_, _, ⟨T2, Lz2, kz2, nz2⟩, -, X2, ⟨Lc2, hQ2, lq2, yq2, zq2⟩, st2⟩ := Jvm.LawKit.callS X1 hx (y := (⟨"java/lang/StringUTF16", "getChar", "([BI)C"⟩ : MethodName)) hown (mvT hZ (ow hw 52 rfl)) (mvT hZ (ow hw 53 rfl)) (mvT hZ (ow hw 18 rfl)) (mvT hZ (ow hw 54 rfl)) (by decide) (backOf (W := 0) (rmG2 l Z a0 hw [] a1 k1 c0 c1 c2 c3 h0 n0 O S_ad S_hi S_lo V_a1 hg0 hh0 hg1 hh1 hg2 hh2 hg3 hh3) hZ (ow hw 54 rfl) (ow hw 18 rfl) (by decide) (by decide)) (g := (mkF m 7 #[rv a1, iv 2] [.int 2, .ref a1])) rfl (by rw [hml]; rfl) (argsL := [(.ref a1), (.int (2 : Int32))]) (rest := []) (lenOf pd_7 rfl) rfl (by show 2 * 0 + _ ≤ _; exact Nat.le_of_eq rfl) (hb hby d20_7) (fun _ _ => ⟨rfl, e1, (by decide : 0 + 0 ≤ _), (by decide : 0 + 0 ≤ _)⟩)
  dsimp only [Pt.U, Pt.locs, Pt.cells, Pt.slots] at X2 lq2 yq2 zq2 st2 hQ2
  subst lq2 yq2 zq2
  obtain ⟨rfl, rfl, e2⟩ := hQ2
  try rw [List.append_nil] at X2
  refine gb st2 ?_
  show G T2 (mkF m 10 #[rv a1, iv 2] [.int c2])
  exact go X2 (v := (some (.int c2))) (fun h => by rw [Bd.returns] at h; cases h) (fun fs hr => retOut X2 hx Bd.returns (show narrow .char (.int c2) = .int c2 from congrArg Value.int (own_nc16 hg2 hh2)) (Or.inl ⟨rfl, by simp, _, rfl⟩) (hb hby d20_10) hr) (⟨rfl, rfl, e2⟩) (by decide) (by decide)
def Q_rmLC3 (Z : State) (a1 : Addr) (k1 : ClassId) (c0 c1 c2 c3 : Int32) (sf : Value) (h0 : Heap) (n0 : Nat) : Option Value → Heap → List Loc → Prop := fun v h L => v = some (.int c3) ∧ L = [] ∧ h = h0
set_option maxRecDepth 65536 in
set_option maxHeartbeats 40000000 in
theorem rmLC3 (l : Launch) (Z : State) (a0 : Array Value) (hw : ∀ d ∈ tables_1, d.before a0 Z = true) (ws : List Jvm.Cond) (a1 : Addr) (k1 : ClassId) (c0 c1 c2 c3 : Int32) (sf : Value) (hr_sf : sf.isRef = true) (S_sf : Sta Z Z.heap "jdk/internal/util/Preconditions" "SIOOBE_FORMATTER" "Ljava/util/function/BiFunction;" sf) (h0 : Heap) (n0 : Nat) (O : Old Z n0 h0) (V_a1 : Arv Z h0 a1 k1 .byte (4 : Int32) [(.int (nar .byte (c0.toInt8.toInt32))), (.int (nar .byte (c1.toInt8.toInt32))), (.int (nar .byte (c2.toInt8.toInt32))), (.int (nar .byte (c3.toInt8.toInt32)))] (.int (0 : Int32))) (hg0 : ¬ c0 < (0 : Int32)) (hg1 : ¬ c1 < (0 : Int32)) (hg2 : ¬ c2 < (0 : Int32)) (hg3 : ¬ c3 < (0 : Int32)) (hb0 : ¬ (255 : Int32) < c0) (hb1 : ¬ (255 : Int32) < c1) (hb2 : ¬ (255 : Int32) < c2) (hb3 : ¬ (255 : Int32) < c3) :
    MetFree l (⟨"java/lang/StringLatin1", "charAt", "([BI)C"⟩ : MethodName) (head1 (Jvm.Cond.code (⟨"java/lang/StringLatin1", "charAt", "([BI)C"⟩ : MethodName) jdk_43_method_2_code 2 (some .char) :: ws) ({ frames := 2, cells := 0, slots := 0, locals := 27 } : Room)) (fun a U => a = #[(.ref a1), (.int (3 : Int32))] ∧ Z.Warmed39 U.vm ∧ U.heap = h0) (fun _ _ _ _ _ => True) (fun _ U o U' => ∃ v L, o = .returned v ∧ (Q_rmLC3 Z a1 k1 c0 c1 c2 c3 sf h0 n0) v U'.heap L ∧ FrameEnd U o U' L ({ frames := 2, cells := 0, slots := 0, locals := 27 } : Room).cells ({ frames := 2, cells := 0, slots := 0, locals := 27 } : Room).slots) := by
  refine MetFree.of_bodySF (plainFor_of_name pn_3) hisR ?_
  intro p e s m args below meth c s₁ Bd hml0 hP hK
  obtain ⟨rfl, hZ, hh⟩ := hP
  have hx := Bd.exec
  have hby := Bd.bytes
  have hml : c.maxLocals = 2 := hml0
  have hown : s.vm.findClass "java/lang/StringLatin1" = some m.cls := findClass_of_methodNamed Bd.named
  have hnm := (name_of_methodNamed Bd.named Bd.method).1
  have hlk := BodyLoose.notSynchronized Bd
  have X0 : Stand p l e ({ frames := 2, cells := 0, slots := 0, locals := 27 } : Room) s m #[(.ref a1), (.int (3 : Int32))] below meth c s₁ [] 0 0 := Stand.of_body Bd
  have e0 : s₁.heap = h0 := by rw [← hh, Bd.state]; rfl
  have N := Fr.nil n0
  obtain ⟨G, hG⟩ : ∃ G : State → JFrame → Prop, G = OwnG p e below s ({ frames := 2, cells := 0, slots := 0, locals := 27 } : Room).cells ({ frames := 2, cells := 0, slots := 0, locals := 27 } : Room).slots (Q_rmLC3 Z a1 k1 c0 c1 c2 c3 sf h0 n0) := ⟨_, rfl⟩
  have gb : ∀ {T T' : State} {g g' : JFrame}, (∀ t, Steps p.tables e below (T'.setTop g') t → Steps p.tables e below (T.setTop g) t) → G T' g' → G T g := by subst hG; exact fun k h => own_by k h
  have go : ∀ {T : State} {locs : List Loc} {cells slots : Nat} {g : JFrame} {v : Option Value}, Stand p l e ({ frames := 2, cells := 0, slots := 0, locals := 27 } : Room) s m #[(.ref a1), (.int (3 : Int32))] below meth c T locs cells slots → (meth.sig.returnType = none → v = none) → (∀ fs, (∀ (f : JFrame) (acts : List Action), f.method = m → f.locked = none → f.entered = [] → (doReturn e (T.setTop f) acts v).1 = T.setFrames fs) → Steps p.tables e below (T.setTop g) (T.setFrames fs)) → (Q_rmLC3 Z a1 k1 c0 c1 c2 c3 sf h0 n0) v T.heap locs → cells ≤ ({ frames := 2, cells := 0, slots := 0, locals := 27 } : Room).cells → slots ≤ ({ frames := 2, cells := 0, slots := 0, locals := 27 } : Room).slots → G T g := by subst hG; exact fun X h1 h2 h3 h4 h5 => own_out X hlk h1 h2 h3 h4 h5
  show OwnG p e below s ({ frames := 2, cells := 0, slots := 0, locals := 27 } : Room).cells ({ frames := 2, cells := 0, slots := 0, locals := 27 } : Room).slots (Q_rmLC3 Z a1 k1 c0 c1 c2 c3 sf h0 n0) s₁ (entryFrame m #[(.ref a1), (.int (3 : Int32))] 2)
  rw [← hG, ef_rmLC3 m a1 (3 : Int32)]
  clear hG
  show G s₁ (mkF m 0 #[.val (.ref a1), .val (.int (3 : Int32))] [])
  refine gb (fun _ k => XS.iloadN X0.here hx rfl (hb hby d17_0) rfl (XS.aloadN X0.here hx rfl (hb hby d17_1) rfl rfl k)) ?_
  show G s₁ (mkF m 2 #[rv a1, iv 3] [.ref a1, .int 3])
  have V'1 := V_a1
  obtain ⟨cl1, Ar1, qk1, sz1, nn1, hs1, ft1⟩ := V'1
  refine gb (X0.arraylength hx (by rw [e0]; exact Ar1.1) (State.isArrayOf_alike hZ.alike Ar1.2.1) (g := (mkF m 2 #[rv a1, iv 3] [.ref a1, .int 3])) rfl rfl (hb hby d17_2)) ?_
  rw [len_of sz1 nn1]
  show G s₁ (mkF m 3 #[rv a1, iv 3] [.int 4, .int 3])
  obtain ⟨_, _, ⟨T2, Lz2, kz2, nz2⟩, -, X2, ⟨Lc2, hQ2, lq2, yq2, zq2⟩, st2⟩ := Jvm.LawKit.callS X0 hx (y := (⟨"java/lang/String", "checkIndex", "(II)V"⟩ : MethodName)) hown (mvT hZ (ow hw 76 rfl)) (mvT hZ (ow hw 77 rfl)) (mvT hZ (ow hw 4 rfl)) (mvT hZ (ow hw 78 rfl)) (by decide) (backOf (W := 0) (rmSX l Z a0 hw [] (3 : Int32) (4 : Int32) sf hr_sf S_sf h0 n0 O (by decide) (by decide)) hZ (ow hw 78 rfl) (ow hw 4 rfl) (by decide) (by decide)) (g := (mkF m 3 #[rv a1, iv 3] [.int 4, .int 3])) rfl (by rw [hml]; rfl) (argsL := [(.int (3 : Int32)), (.int (4 : Int32))]) (rest := []) (lenOf pd_10 rfl) rfl (by show 2 * 0 + _ ≤ _; exact Nat.le_of_eq rfl) (hb hby d17_3) (fun _ _ => ⟨rfl, e0, (by decide : 0 + 0 ≤ _), (by decide : 0 + 0 ≤ _)⟩)
  dsimp only [Pt.U, Pt.locs, Pt.cells, Pt.slots] at X2 lq2 yq2 zq2 st2 hQ2
  subst lq2 yq2 zq2
  obtain ⟨rfl, rfl, e2⟩ := hQ2
  try rw [List.append_nil] at X2
  refine gb st2 ?_
  show G T2 (mkF m 6 #[rv a1, iv 3] [])
  refine gb (fun _ k => XS.aloadN X2.here hx rfl (hb hby d17_6) rfl rfl (XS.iloadN X2.here hx rfl (hb hby d17_7) rfl k)) ?_
  show G T2 (mkF m 8 #[rv a1, iv 3] [.int 3, .ref a1])
  have V'3 := V_a1
  obtain ⟨cl3, Ar3, qk3, sz3, nn3, hs3, ft3⟩ := V'3
  have hin3 : ¬ ((3 : Int32) < 0 ∨ cl3.slots.size ≤ ((3 : Int32)).toNatClampNeg) := inb_of sz3 ⟨by decide, by decide⟩
  have hat3 : cl3.slots[((3 : Int32)).toNatClampNeg]? = some (.int (nar .byte (c3.toInt8.toInt32))) := hs3.at hin3 rfl
  refine gb (X2.baloadBytes hx (j := (3 : Int32)) (v := (.int (nar .byte (c3.toInt8.toInt32)))) (by rw [e2]; exact Ar3.1) (State.isArrayOf_alike hZ.alike Ar3.2.1) Ar3.2.2 hin3 hat3 (g := (mkF m 8 #[rv a1, iv 3] [.int 3, .ref a1])) rfl rfl (hb hby d17_8)) ?_
  show G T2 (mkF m 9 #[rv a1, iv 3] [.int (nar .byte (c3.toInt8.toInt32))])
  refine gb (fun _ k => XS.sipush X2.here hx rfl (hb hby d17_9) (XS.iand X2.here hx rfl (hb hby d17_12) rfl (XS.i2c X2.here hx rfl (hb hby d17_13) rfl k))) ?_
  show G T2 (mkF m 14 #[rv a1, iv 3] [.int (((nar .byte (c3.toInt8.toInt32)) &&& (255 : Int32)).toUInt32.toUInt16.toUInt32.toInt32)])
  rw [own_b8 hg3 hb3]
  show G T2 (mkF m 14 #[rv a1, iv 3] [.int c3])
  exact go X2 (v := (some (.int c3))) (fun h => by rw [Bd.returns] at h; cases h) (fun fs hr => retOut X2 hx Bd.returns (show narrow .char (.int c3) = .int c3 from congrArg Value.int (own_nc hg3 hb3)) (Or.inl ⟨rfl, by simp, _, rfl⟩) (hb hby d17_14) hr) (⟨rfl, rfl, e2⟩) (by decide) (by decide)
def Q_rmUC3 (Z : State) (a1 : Addr) (k1 : ClassId) (c0 c1 c2 c3 : Int32) (sf : Value) (h0 : Heap) (n0 : Nat) : Option Value → Heap → List Loc → Prop := fun v h L => v = some (.int c3) ∧ L = [] ∧ h = h0
set_option maxRecDepth 65536 in
set_option maxHeartbeats 40000000 in
theorem rmUC3 (l : Launch) (Z : State) (a0 : Array Value) (hw : ∀ d ∈ tables_1, d.before a0 Z = true) (ws : List Jvm.Cond) (a1 : Addr) (k1 : ClassId) (c0 c1 c2 c3 : Int32) (sf : Value) (hr_sf : sf.isRef = true) (S_sf : Sta Z Z.heap "jdk/internal/util/Preconditions" "SIOOBE_FORMATTER" "Ljava/util/function/BiFunction;" sf) (S_ad : Sta Z Z.heap "java/lang/StringUTF16" "$assertionsDisabled" "Z" (.int (1 : Int32))) (S_hi : Sta Z Z.heap "java/lang/StringUTF16" "HI_BYTE_SHIFT" "I" (.int (0 : Int32))) (S_lo : Sta Z Z.heap "java/lang/StringUTF16" "LO_BYTE_SHIFT" "I" (.int (8 : Int32))) (h0 : Heap) (n0 : Nat) (O : Old Z n0 h0) (V_a1 : Arv Z h0 a1 k1 .byte (8 : Int32) [(.int (nar .byte ((c0 >>> ((0 : Int32) &&& 31)).toInt8.toInt32))), (.int (nar .byte ((c0 >>> ((8 : Int32) &&& 31)).toInt8.toInt32))), (.int (nar .byte ((c1 >>> ((0 : Int32) &&& 31)).toInt8.toInt32))), (.int (nar .byte ((c1 >>> ((8 : Int32) &&& 31)).toInt8.toInt32))), (.int (nar .byte ((c2 >>> ((0 : Int32) &&& 31)).toInt8.toInt32))), (.int (nar .byte ((c2 >>> ((8 : Int32) &&& 31)).toInt8.toInt32))), (.int (nar .byte ((c3 >>> ((0 : Int32) &&& 31)).toInt8.toInt32))), (.int (nar .byte ((c3 >>> ((8 : Int32) &&& 31)).toInt8.toInt32)))] (.int (0 : Int32))) (hg0 : ¬ c0 < (0 : Int32)) (hh0 : ¬ (65535 : Int32) < c0) (hg1 : ¬ c1 < (0 : Int32)) (hh1 : ¬ (65535 : Int32) < c1) (hg2 : ¬ c2 < (0 : Int32)) (hh2 : ¬ (65535 : Int32) < c2) (hg3 : ¬ c3 < (0 : Int32)) (hh3 : ¬ (65535 : Int32) < c3) :
    MetFree l (⟨"java/lang/StringUTF16", "charAt", "([BI)C"⟩ : MethodName) (head1 (Jvm.Cond.code (⟨"java/lang/StringUTF16", "charAt", "([BI)C"⟩ : MethodName) jdk_52_method_83_code 2 (some .char) :: ws) ({ frames := 3, cells := 0, slots := 0, locals := 40 } : Room)) (fun a U => a = #[(.ref a1), (.int (3 : Int32))] ∧ Z.Warmed39 U.vm ∧ U.heap = h0) (fun _ _ _ _ _ => True) (fun _ U o U' => ∃ v L, o = .returned v ∧ (Q_rmUC3 Z a1 k1 c0 c1 c2 c3 sf h0 n0) v U'.heap L ∧ FrameEnd U o U' L ({ frames := 3, cells := 0, slots := 0, locals := 40 } : Room).cells ({ frames := 3, cells := 0, slots := 0, locals := 40 } : Room).slots) := by
  refine MetFree.of_bodySF (plainFor_of_name pn_0) hisR ?_
  intro p e s m args below meth c s₁ Bd hml0 hP hK
  obtain ⟨rfl, hZ, hh⟩ := hP
  have hx := Bd.exec
  have hby := Bd.bytes
  have hml : c.maxLocals = 2 := hml0
  have hown : s.vm.findClass "java/lang/StringUTF16" = some m.cls := findClass_of_methodNamed Bd.named
  have hnm := (name_of_methodNamed Bd.named Bd.method).1
  have hlk := BodyLoose.notSynchronized Bd
  have X0 : Stand p l e ({ frames := 3, cells := 0, slots := 0, locals := 40 } : Room) s m #[(.ref a1), (.int (3 : Int32))] below meth c s₁ [] 0 0 := Stand.of_body Bd
  have e0 : s₁.heap = h0 := by rw [← hh, Bd.state]; rfl
  have N := Fr.nil n0
  obtain ⟨G, hG⟩ : ∃ G : State → JFrame → Prop, G = OwnG p e below s ({ frames := 3, cells := 0, slots := 0, locals := 40 } : Room).cells ({ frames := 3, cells := 0, slots := 0, locals := 40 } : Room).slots (Q_rmUC3 Z a1 k1 c0 c1 c2 c3 sf h0 n0) := ⟨_, rfl⟩
  have gb : ∀ {T T' : State} {g g' : JFrame}, (∀ t, Steps p.tables e below (T'.setTop g') t → Steps p.tables e below (T.setTop g) t) → G T' g' → G T g := by subst hG; exact fun k h => own_by k h
  have go : ∀ {T : State} {locs : List Loc} {cells slots : Nat} {g : JFrame} {v : Option Value}, Stand p l e ({ frames := 3, cells := 0, slots := 0, locals := 40 } : Room) s m #[(.ref a1), (.int (3 : Int32))] below meth c T locs cells slots → (meth.sig.returnType = none → v = none) → (∀ fs, (∀ (f : JFrame) (acts : List Action), f.method = m → f.locked = none → f.entered = [] → (doReturn e (T.setTop f) acts v).1 = T.setFrames fs) → Steps p.tables e below (T.setTop g) (T.setFrames fs)) → (Q_rmUC3 Z a1 k1 c0 c1 c2 c3 sf h0 n0) v T.heap locs → cells ≤ ({ frames := 3, cells := 0, slots := 0, locals := 40 } : Room).cells → slots ≤ ({ frames := 3, cells := 0, slots := 0, locals := 40 } : Room).slots → G T g := by subst hG; exact fun X h1 h2 h3 h4 h5 => own_out X hlk h1 h2 h3 h4 h5
  show OwnG p e below s ({ frames := 3, cells := 0, slots := 0, locals := 40 } : Room).cells ({ frames := 3, cells := 0, slots := 0, locals := 40 } : Room).slots (Q_rmUC3 Z a1 k1 c0 c1 c2 c3 sf h0 n0) s₁ (entryFrame m #[(.ref a1), (.int (3 : Int32))] 2)
  rw [← hG, ef_rmUC3 m a1 (3 : Int32)]
  clear hG
  show G s₁ (mkF m 0 #[.val (.ref a1), .val (.int (3 : Int32))] [])
  refine gb (fun _ k => XS.iloadN X0.here hx rfl (hb hby d20_0) rfl (XS.aloadN X0.here hx rfl (hb hby d20_1) rfl rfl k)) ?_
  show G s₁ (mkF m 2 #[rv a1, iv 3] [.ref a1, .int 3])
  obtain ⟨_, _, ⟨T1, Lz1, kz1, nz1⟩, -, X1, ⟨Lc1, hQ1, lq1, yq1, zq1⟩, st1⟩ := Jvm.LawKit.callS X0 hx (y := (⟨"java/lang/StringUTF16", "checkIndex", "(I[B)V"⟩ : MethodName)) hown (mvT hZ (ow hw 87 rfl)) (mvT hZ (ow hw 88 rfl)) (mvT hZ (ow hw 18 rfl)) (mvT hZ (ow hw 89 rfl)) (by decide) (backOf (W := 0) (rmUX l Z a0 hw [] (3 : Int32) a1 k1 c0 c1 c2 c3 sf hr_sf S_sf h0 n0 O V_a1 (by decide) (by decide)) hZ (ow hw 89 rfl) (ow hw 18 rfl) (by decide) (by decide)) (g := (mkF m 2 #[rv a1, iv 3] [.ref a1, .int 3])) rfl (by rw [hml]; rfl) (argsL := [(.int (3 : Int32)), (.ref a1)]) (rest := []) (lenOf pd_11 rfl) rfl (by show 2 * 0 + _ ≤ _; exact Nat.le_of_eq rfl) (hb hby d20_2) (fun _ _ => ⟨rfl, e0, (by decide : 0 + 0 ≤ _), (by decide : 0 + 0 ≤ _)⟩)
  dsimp only [Pt.U, Pt.locs, Pt.cells, Pt.slots] at X1 lq1 yq1 zq1 st1 hQ1
  subst lq1 yq1 zq1
  obtain ⟨rfl, rfl, e1⟩ := hQ1
  try rw [List.append_nil] at X1
  refine gb st1 ?_
  show G T1 (mkF m 5 #[rv a1, iv 3] [])
  refine gb (fun _ k => XS.aloadN X1.here hx rfl (hb hby d20_5) rfl rfl (XS.iloadN X1.here hx rfl (hb hby d20_6) rfl k)) ?_
  show G T1 (mkF m 7 #[rv a1, iv 3] [.int 3, .ref a1])
  obtain ⟨_, _, ⟨T2, Lz2, kz2, nz2⟩, -, X2, ⟨Lc2, hQ2, lq2, yq2, zq2⟩, st2⟩ := Jvm.LawKit.callS X1 hx (y := (⟨"java/lang/StringUTF16", "getChar", "([BI)C"⟩ : MethodName)) hown (mvT hZ (ow hw 52 rfl)) (mvT hZ (ow hw 53 rfl)) (mvT hZ (ow hw 18 rfl)) (mvT hZ (ow hw 54 rfl)) (by decide) (backOf (W := 0) (rmG3 l Z a0 hw [] a1 k1 c0 c1 c2 c3 h0 n0 O S_ad S_hi S_lo V_a1 hg0 hh0 hg1 hh1 hg2 hh2 hg3 hh3) hZ (ow hw 54 rfl) (ow hw 18 rfl) (by decide) (by decide)) (g := (mkF m 7 #[rv a1, iv 3] [.int 3, .ref a1])) rfl (by rw [hml]; rfl) (argsL := [(.ref a1), (.int (3 : Int32))]) (rest := []) (lenOf pd_7 rfl) rfl (by show 2 * 0 + _ ≤ _; exact Nat.le_of_eq rfl) (hb hby d20_7) (fun _ _ => ⟨rfl, e1, (by decide : 0 + 0 ≤ _), (by decide : 0 + 0 ≤ _)⟩)
  dsimp only [Pt.U, Pt.locs, Pt.cells, Pt.slots] at X2 lq2 yq2 zq2 st2 hQ2
  subst lq2 yq2 zq2
  obtain ⟨rfl, rfl, e2⟩ := hQ2
  try rw [List.append_nil] at X2
  refine gb st2 ?_
  show G T2 (mkF m 10 #[rv a1, iv 3] [.int c3])
  exact go X2 (v := (some (.int c3))) (fun h => by rw [Bd.returns] at h; cases h) (fun fs hr => retOut X2 hx Bd.returns (show narrow .char (.int c3) = .int c3 from congrArg Value.int (own_nc16 hg3 hh3)) (Or.inl ⟨rfl, by simp, _, rfl⟩) (hb hby d20_10) hr) (⟨rfl, rfl, e2⟩) (by decide) (by decide)
def Q_rmIL0 (Z : State) (a1 : Addr) (h0 : Heap) (n0 : Nat) (zc : Int32) : Option Value → Heap → List Loc → Prop := fun v h L => v = some (.int (1 : Int32)) ∧ L = [] ∧ h = h0
set_option maxRecDepth 65536 in
set_option maxHeartbeats 40000000 in
theorem rmIL0 (l : Launch) (Z : State) (a0 : Array Value) (hw : ∀ d ∈ tables_1, d.before a0 Z = true) (ws : List Jvm.Cond) (a1 : Addr) (h0 : Heap) (n0 : Nat) (O : Old Z n0 h0) (zc : Int32) (S_cs : Sta Z Z.heap "java/lang/String" "COMPACT_STRINGS" "Z" (.int zc)) (hzc : ¬ zc = (0 : Int32)) (F_c1 : Fld Z h0 a1 "java/lang/String" "coder" "B" (.int (0 : Int32))) :
    MetFree l (⟨"java/lang/String", "isLatin1", "()Z"⟩ : MethodName) (head1 (Jvm.Cond.code (⟨"java/lang/String", "isLatin1", "()Z"⟩ : MethodName) jdk_42_method_154_code 1 (some .boolean) :: ws) ({ frames := 0, cells := 0, slots := 0, locals := 0 } : Room)) (fun a U => a = #[(.ref a1)] ∧ Z.Warmed39 U.vm ∧ U.heap = h0) (fun _ _ _ _ _ => True) (fun _ U o U' => ∃ v L, o = .returned v ∧ (Q_rmIL0 Z a1 h0 n0 zc) v U'.heap L ∧ FrameEnd U o U' L ({ frames := 0, cells := 0, slots := 0, locals := 0 } : Room).cells ({ frames := 0, cells := 0, slots := 0, locals := 0 } : Room).slots) := by
  refine MetFree.of_bodySF (plainFor_of_name pn_1) hisR ?_
  intro p e s m args below meth c s₁ Bd hml0 hP hK
  obtain ⟨rfl, hZ, hh⟩ := hP
  have hx := Bd.exec
  have hby := Bd.bytes
  have hml : c.maxLocals = 1 := hml0
  have hown : s.vm.findClass "java/lang/String" = some m.cls := findClass_of_methodNamed Bd.named
  have hnm := (name_of_methodNamed Bd.named Bd.method).1
  have hlk := BodyLoose.notSynchronized Bd
  have X0 : Stand p l e ({ frames := 0, cells := 0, slots := 0, locals := 0 } : Room) s m #[(.ref a1)] below meth c s₁ [] 0 0 := Stand.of_body Bd
  have e0 : s₁.heap = h0 := by rw [← hh, Bd.state]; rfl
  have N := Fr.nil n0
  obtain ⟨G, hG⟩ : ∃ G : State → JFrame → Prop, G = OwnG p e below s ({ frames := 0, cells := 0, slots := 0, locals := 0 } : Room).cells ({ frames := 0, cells := 0, slots := 0, locals := 0 } : Room).slots (Q_rmIL0 Z a1 h0 n0 zc) := ⟨_, rfl⟩
  have gb : ∀ {T T' : State} {g g' : JFrame}, (∀ t, Steps p.tables e below (T'.setTop g') t → Steps p.tables e below (T.setTop g) t) → G T' g' → G T g := by subst hG; exact fun k h => own_by k h
  have go : ∀ {T : State} {locs : List Loc} {cells slots : Nat} {g : JFrame} {v : Option Value}, Stand p l e ({ frames := 0, cells := 0, slots := 0, locals := 0 } : Room) s m #[(.ref a1)] below meth c T locs cells slots → (meth.sig.returnType = none → v = none) → (∀ fs, (∀ (f : JFrame) (acts : List Action), f.method = m → f.locked = none → f.entered = [] → (doReturn e (T.setTop f) acts v).1 = T.setFrames fs) → Steps p.tables e below (T.setTop g) (T.setFrames fs)) → (Q_rmIL0 Z a1 h0 n0 zc) v T.heap locs → cells ≤ ({ frames := 0, cells := 0, slots := 0, locals := 0 } : Room).cells → slots ≤ ({ frames := 0, cells := 0, slots := 0, locals := 0 } : Room).slots → G T g := by subst hG; exact fun X h1 h2 h3 h4 h5 => own_out X hlk h1 h2 h3 h4 h5
  show OwnG p e below s ({ frames := 0, cells := 0, slots := 0, locals := 0 } : Room).cells ({ frames := 0, cells := 0, slots := 0, locals := 0 } : Room).slots (Q_rmIL0 Z a1 h0 n0 zc) s₁ (entryFrame m #[(.ref a1)] 1)
  rw [← hG, ef_rmIL0 m a1]
  clear hG
  show G s₁ (mkF m 0 #[.val (.ref a1)] [])
  obtain ⟨T1, X1, e1, st1⟩ := getS2 X0 hx hZ hown (host := "") (Or.inl (ow hw 15 rfl)) Via.refl e0 (S_cs.ext O.2) (g := (mkF m 0 #[rv a1] [])) rfl (hb hby d16_0)
  refine gb st1 ?_
  show G T1 (mkF m 3 #[rv a1] [.int zc])
  refine gb (fun _ k => XS.ifNo X1.here hx rfl (hb hby d16_3) rfl ((if0 _ _).trans (feq hzc).1) (XS.aloadN X1.here hx rfl (hb hby d16_6) rfl rfl k)) ?_
  show G T1 (mkF m 7 #[rv a1] [.ref a1])
  obtain ⟨T2, X2, e2, st2⟩ := getF X1 hx hZ hown (host := "") (Or.inl (ow hw 27 rfl)) Via.refl e1 F_c1 (g := (mkF m 7 #[rv a1] [.ref a1])) rfl rfl (hb hby d16_7)
  refine gb st2 ?_
  show G T2 (mkF m 10 #[rv a1] [.int 0])
  refine gb (fun _ k => XS.ifNo X2.here hx rfl (hb hby d16_10) rfl ((if0 _ _).trans (teq (by decide : (0 : Int32) = (0 : Int32))).2) (XS.iconst X2.here hx rfl (hb hby d16_13) (XS.goto X2.here hx rfl (pc0 := 14) (pc' := 18) rfl (hb hby d16_14) (by decide) (by decide) k))) ?_
  show G T2 (mkF m 18 #[rv a1] [.int 1])
  exact go X2 (v := (some (.int (1 : Int32)))) (fun h => by rw [Bd.returns] at h; cases h) (fun fs hr => retOut X2 hx Bd.returns rfl (Or.inl ⟨rfl, by simp, _, rfl⟩) (hb hby d16_18) hr) (⟨rfl, rfl, e2⟩) (by decide) (by decide)
def Q_rmIL1 (Z : State) (a1 : Addr) (h0 : Heap) (n0 : Nat) (zc : Int32) : Option Value → Heap → List Loc → Prop := fun v h L => v = some (.int (0 : Int32)) ∧ L = [] ∧ h = h0
set_option maxRecDepth 65536 in
set_option maxHeartbeats 40000000 in
theorem rmIL1 (l : Launch) (Z : State) (a0 : Array Value) (hw : ∀ d ∈ tables_1, d.before a0 Z = true) (ws : List Jvm.Cond) (a1 : Addr) (h0 : Heap) (n0 : Nat) (O : Old Z n0 h0) (zc : Int32) (S_cs : Sta Z Z.heap "java/lang/String" "COMPACT_STRINGS" "Z" (.int zc)) (hzc : ¬ zc = (0 : Int32)) (F_c1 : Fld Z h0 a1 "java/lang/String" "coder" "B" (.int (1 : Int32))) :
    MetFree l (⟨"java/lang/String", "isLatin1", "()Z"⟩ : MethodName) (head1 (Jvm.Cond.code (⟨"java/lang/String", "isLatin1", "()Z"⟩ : MethodName) jdk_42_method_154_code 1 (some .boolean) :: ws) ({ frames := 0, cells := 0, slots := 0, locals := 0 } : Room)) (fun a U => a = #[(.ref a1)] ∧ Z.Warmed39 U.vm ∧ U.heap = h0) (fun _ _ _ _ _ => True) (fun _ U o U' => ∃ v L, o = .returned v ∧ (Q_rmIL1 Z a1 h0 n0 zc) v U'.heap L ∧ FrameEnd U o U' L ({ frames := 0, cells := 0, slots := 0, locals := 0 } : Room).cells ({ frames := 0, cells := 0, slots := 0, locals := 0 } : Room).slots) := by
  refine MetFree.of_bodySF (plainFor_of_name pn_1) hisR ?_
  intro p e s m args below meth c s₁ Bd hml0 hP hK
  obtain ⟨rfl, hZ, hh⟩ := hP
  have hx := Bd.exec
  have hby := Bd.bytes
  have hml : c.maxLocals = 1 := hml0
  have hown : s.vm.findClass "java/lang/String" = some m.cls := findClass_of_methodNamed Bd.named
  have hnm := (name_of_methodNamed Bd.named Bd.method).1
  have hlk := BodyLoose.notSynchronized Bd
  have X0 : Stand p l e ({ frames := 0, cells := 0, slots := 0, locals := 0 } : Room) s m #[(.ref a1)] below meth c s₁ [] 0 0 := Stand.of_body Bd
  have e0 : s₁.heap = h0 := by rw [← hh, Bd.state]; rfl
  have N := Fr.nil n0
  obtain ⟨G, hG⟩ : ∃ G : State → JFrame → Prop, G = OwnG p e below s ({ frames := 0, cells := 0, slots := 0, locals := 0 } : Room).cells ({ frames := 0, cells := 0, slots := 0, locals := 0 } : Room).slots (Q_rmIL1 Z a1 h0 n0 zc) := ⟨_, rfl⟩
  have gb : ∀ {T T' : State} {g g' : JFrame}, (∀ t, Steps p.tables e below (T'.setTop g') t → Steps p.tables e below (T.setTop g) t) → G T' g' → G T g := by subst hG; exact fun k h => own_by k h
  have go : ∀ {T : State} {locs : List Loc} {cells slots : Nat} {g : JFrame} {v : Option Value}, Stand p l e ({ frames := 0, cells := 0, slots := 0, locals := 0 } : Room) s m #[(.ref a1)] below meth c T locs cells slots → (meth.sig.returnType = none → v = none) → (∀ fs, (∀ (f : JFrame) (acts : List Action), f.method = m → f.locked = none → f.entered = [] → (doReturn e (T.setTop f) acts v).1 = T.setFrames fs) → Steps p.tables e below (T.setTop g) (T.setFrames fs)) → (Q_rmIL1 Z a1 h0 n0 zc) v T.heap locs → cells ≤ ({ frames := 0, cells := 0, slots := 0, locals := 0 } : Room).cells → slots ≤ ({ frames := 0, cells := 0, slots := 0, locals := 0 } : Room).slots → G T g := by subst hG; exact fun X h1 h2 h3 h4 h5 => own_out X hlk h1 h2 h3 h4 h5
  show OwnG p e below s ({ frames := 0, cells := 0, slots := 0, locals := 0 } : Room).cells ({ frames := 0, cells := 0, slots := 0, locals := 0 } : Room).slots (Q_rmIL1 Z a1 h0 n0 zc) s₁ (entryFrame m #[(.ref a1)] 1)
  rw [← hG, ef_rmIL1 m a1]
  clear hG
  show G s₁ (mkF m 0 #[.val (.ref a1)] [])
  obtain ⟨T1, X1, e1, st1⟩ := getS2 X0 hx hZ hown (host := "") (Or.inl (ow hw 15 rfl)) Via.refl e0 (S_cs.ext O.2) (g := (mkF m 0 #[rv a1] [])) rfl (hb hby d16_0)
  refine gb st1 ?_
  show G T1 (mkF m 3 #[rv a1] [.int zc])
  refine gb (fun _ k => XS.ifNo X1.here hx rfl (hb hby d16_3) rfl ((if0 _ _).trans (feq hzc).1) (XS.aloadN X1.here hx rfl (hb hby d16_6) rfl rfl k)) ?_
  show G T1 (mkF m 7 #[rv a1] [.ref a1])
  obtain ⟨T2, X2, e2, st2⟩ := getF X1 hx hZ hown (host := "") (Or.inl (ow hw 27 rfl)) Via.refl e1 F_c1 (g := (mkF m 7 #[rv a1] [.ref a1])) rfl rfl (hb hby d16_7)
  refine gb st2 ?_
  show G T2 (mkF m 10 #[rv a1] [.int 1])
  refine gb (fun _ k => XS.ifYes X2.here hx rfl (pc0 := 10) (pc' := 17) rfl (hb hby d16_10) rfl ((if0 _ _).trans (feq (by decide : ¬ ((1 : Int32) = (0 : Int32)))).2) (by decide) (by decide) (XS.iconst X2.here hx rfl (hb hby d16_17) k)) ?_
  show G T2 (mkF m 18 #[rv a1] [.int 0])
  exact go X2 (v := (some (.int (0 : Int32)))) (fun h => by rw [Bd.returns] at h; cases h) (fun fs hr => retOut X2 hx Bd.returns rfl (Or.inl ⟨rfl, by simp, _, rfl⟩) (hb hby d16_18) hr) (⟨rfl, rfl, e2⟩) (by decide) (by decide)
def Q_rmCAL0 (Z : State) (a1 a2 : Addr) (k2 : ClassId) (c0 c1 c2 c3 : Int32) (sf : Value) (h0 : Heap) (n0 : Nat) (zc : Int32) : Option Value → Heap → List Loc → Prop := fun v h L => v = some (.int c0) ∧ L = [] ∧ h = h0
set_option maxRecDepth 65536 in
set_option maxHeartbeats 40000000 in
theorem rmCAL0 (l : Launch) (Z : State) (a0 : Array Value) (hw : ∀ d ∈ tables_1, d.before a0 Z = true) (ws : List Jvm.Cond) (a1 a2 : Addr) (k2 : ClassId) (c0 c1 c2 c3 : Int32) (sf : Value) (hr_sf : sf.isRef = true) (S_sf : Sta Z Z.heap "jdk/internal/util/Preconditions" "SIOOBE_FORMATTER" "Ljava/util/function/BiFunction;" sf) (S_ad : Sta Z Z.heap "java/lang/StringUTF16" "$assertionsDisabled" "Z" (.int (1 : Int32))) (S_hi : Sta Z Z.heap "java/lang/StringUTF16" "HI_BYTE_SHIFT" "I" (.int (0 : Int32))) (S_lo : Sta Z Z.heap "java/lang/StringUTF16" "LO_BYTE_SHIFT" "I" (.int (8 : Int32))) (h0 : Heap) (n0 : Nat) (O : Old Z n0 h0) (zc : Int32) (S_cs : Sta Z Z.heap "java/lang/String" "COMPACT_STRINGS" "Z" (.int zc)) (hzc : ¬ zc = (0 : Int32)) (E_a1 : Exa Z h0 a1 "java/lang/String") (F_c1 : Fld Z h0 a1 "java/lang/String" "coder" "B" (.int (0 : Int32))) (F_v1 : Fld Z h0 a1 "java/lang/String" "value" "[B" (.ref a2)) (V_a2 : Arv Z h0 a2 k2 .byte (4 : Int32) [(.int (nar .byte (c0.toInt8.toInt32))), (.int (nar .byte (c1.toInt8.toInt32))), (.int (nar .byte (c2.toInt8.toInt32))), (.int (nar .byte (c3.toInt8.toInt32)))] (.int (0 : Int32))) (hg0 : ¬ c0 < (0 : Int32)) (hg1 : ¬ c1 < (0 : Int32)) (hg2 : ¬ c2 < (0 : Int32)) (hg3 : ¬ c3 < (0 : Int32)) (hb0 : ¬ (255 : Int32) < c0) (hb1 : ¬ (255 : Int32) < c1) (hb2 : ¬ (255 : Int32) < c2) (hb3 : ¬ (255 : Int32) < c3) :
    MetFree l (⟨"java/lang/String", "charAt", "(I)C"⟩ : MethodName) (head1 (Jvm.Cond.code (⟨"java/lang/String", "charAt", "(I)C"⟩ : MethodName) jdk_42_method_56_code 2 (some .char) :: ws) ({ frames := 3, cells := 0, slots := 0, locals := 40 } : Room)) (fun a U => a = #[(.ref a1), (.int (0 : Int32))] ∧ Z.Warmed39 U.vm ∧ U.heap = h0) (fun _ _ _ _ _ => True) (fun _ U o U' => ∃ v L, o = .returned v ∧ (Q_rmCAL0 Z a1 a2 k2 c0 c1 c2 c3 sf h0 n0 zc) v U'.heap L ∧ FrameEnd U o U' L ({ frames := 3, cells := 0, slots := 0, locals := 40 } : Room).cells ({ frames := 3, cells := 0, slots := 0, locals := 40 } : Room).slots) := by
  refine MetFree.of_bodySF (plainFor_of_name pn_1) hisR ?_
  intro p e s m args below meth c s₁ Bd hml0 hP hK
  obtain ⟨rfl, hZ, hh⟩ := hP
  have hx := Bd.exec
  have hby := Bd.bytes
  have hml : c.maxLocals = 2 := hml0
  have hown : s.vm.findClass "java/lang/String" = some m.cls := findClass_of_methodNamed Bd.named
  have hnm := (name_of_methodNamed Bd.named Bd.method).1
  have hlk := BodyLoose.notSynchronized Bd
  have X0 : Stand p l e ({ frames := 3, cells := 0, slots := 0, locals := 40 } : Room) s m #[(.ref a1), (.int (0 : Int32))] below meth c s₁ [] 0 0 := Stand.of_body Bd
  have e0 : s₁.heap = h0 := by rw [← hh, Bd.state]; rfl
  have N := Fr.nil n0
  obtain ⟨G, hG⟩ : ∃ G : State → JFrame → Prop, G = OwnG p e below s ({ frames := 3, cells := 0, slots := 0, locals := 40 } : Room).cells ({ frames := 3, cells := 0, slots := 0, locals := 40 } : Room).slots (Q_rmCAL0 Z a1 a2 k2 c0 c1 c2 c3 sf h0 n0 zc) := ⟨_, rfl⟩
  have gb : ∀ {T T' : State} {g g' : JFrame}, (∀ t, Steps p.tables e below (T'.setTop g') t → Steps p.tables e below (T.setTop g) t) → G T' g' → G T g := by subst hG; exact fun k h => own_by k h
  have go : ∀ {T : State} {locs : List Loc} {cells slots : Nat} {g : JFrame} {v : Option Value}, Stand p l e ({ frames := 3, cells := 0, slots := 0, locals := 40 } : Room) s m #[(.ref a1), (.int (0 : Int32))] below meth c T locs cells slots → (meth.sig.returnType = none → v = none) → (∀ fs, (∀ (f : JFrame) (acts : List Action), f.method = m → f.locked = none → f.entered = [] → (doReturn e (T.setTop f) acts v).1 = T.setFrames fs) → Steps p.tables e below (T.setTop g) (T.setFrames fs)) → (Q_rmCAL0 Z a1 a2 k2 c0 c1 c2 c3 sf h0 n0 zc) v T.heap locs → cells ≤ ({ frames := 3, cells := 0, slots := 0, locals := 40 } : Room).cells → slots ≤ ({ frames := 3, cells := 0, slots := 0, locals := 40 } : Room).slots → G T g := by subst hG; exact fun X h1 h2 h3 h4 h5 => own_out X hlk h1 h2 h3 h4 h5
  show OwnG p e below s ({ frames := 3, cells := 0, slots := 0, locals := 40 } : Room).cells ({ frames := 3, cells := 0, slots := 0, locals := 40 } : Room).slots (Q_rmCAL0 Z a1 a2 k2 c0 c1 c2 c3 sf h0 n0 zc) s₁ (entryFrame m #[(.ref a1), (.int (0 : Int32))] 2)
  rw [← hG, ef_rmCAL0 m a1 (0 : Int32)]
  clear hG
  show G s₁ (mkF m 0 #[.val (.ref a1), .val (.int (0 : Int32))] [])
  refine gb (fun _ k => XS.aloadN X0.here hx rfl (hb hby d15_0) rfl rfl k) ?_
  show G s₁ (mkF m 1 #[rv a1, iv 0] [.ref a1])
  obtain ⟨cq1, kq1, q1a, q1b, q1c⟩ := isOf hZ e0 E_a1
  obtain ⟨_, _, ⟨T1, Lz1, kz1, nz1⟩, -, X1, ⟨Lc1, hQ1, lq1, yq1, zq1⟩, st1⟩ := X0.virtualBack hx (y := (⟨"java/lang/String", "isLatin1", "()Z"⟩ : MethodName)) (z := (⟨"java/lang/String", "isLatin1", "()Z"⟩ : MethodName)) hown (mvT hZ (ow hw 67 rfl)) (mvT hZ (ow hw 68 rfl)) (notFace_of_selects (args := #[]) (mvT hZ (ow hw 70 rfl))) (mvT hZ (ow hw 70 rfl)) (mvT hZ (ow hw 69 rfl)) (by decide) (backOf (W := 0) (rmIL0 l Z a0 hw [] a1 h0 n0 O zc S_cs hzc F_c1) hZ (ow hw 71 rfl) (ow hw 4 rfl) (by decide) (by decide)) q1a q1c (g := (mkF m 1 #[rv a1, iv 0] [.ref a1])) rfl (by rw [hml]; rfl) (Steps.refl _) (argsL := []) (rest := []) (lenOf pd_12 rfl) rfl (by show 2 * 0 + _ ≤ _; exact Nat.le_of_eq rfl) (hb hby d15_1) (fun _ _ => ⟨rfl, e0, (by decide : 0 + 0 ≤ _), (by decide : 0 + 0 ≤ _)⟩)
  dsimp only [Pt.U, Pt.locs, Pt.cells, Pt.slots] at X1 lq1 yq1 zq1 st1 hQ1
  subst lq1 yq1 zq1
  obtain ⟨rfl, rfl, e1⟩ := hQ1
  try rw [List.append_nil] at X1
  refine gb (fun _ k => st1.trans k) ?_
  show G T1 (mkF m 4 #[rv a1, iv 0] [.int 1])
  refine gb (fun _ k => XS.ifNo X1.here hx rfl (hb hby d15_4) rfl ((if0 _ _).trans (feq (by decide : ¬ ((1 : Int32) = (0 : Int32)))).1) (XS.aloadN X1.here hx rfl (hb hby d15_7) rfl rfl k)) ?_
  show G T1 (mkF m 8 #[rv a1, iv 0] [.ref a1])
  obtain ⟨T2, X2, e2, st2⟩ := getF X1 hx hZ hown (host := "") (Or.inl (ow hw 29 rfl)) Via.refl e1 F_v1 (g := (mkF m 8 #[rv a1, iv 0] [.ref a1])) rfl rfl (hb hby d15_8)
  refine gb st2 ?_
  show G T2 (mkF m 11 #[rv a1, iv 0] [.ref a2])
  refine gb (fun _ k => XS.iloadN X2.here hx rfl (hb hby d15_11) rfl k) ?_
  show G T2 (mkF m 12 #[rv a1, iv 0] [.int 0, .ref a2])
  obtain ⟨_, _, ⟨T3, Lz3, kz3, nz3⟩, -, X3, ⟨Lc3, hQ3, lq3, yq3, zq3⟩, st3⟩ := Jvm.LawKit.callS X2 hx (y := (⟨"java/lang/StringLatin1", "charAt", "([BI)C"⟩ : MethodName)) hown (mvT hZ (ow hw 72 rfl)) (mvT hZ (ow hw 73 rfl)) (mvT hZ (ow hw 74 rfl)) (mvT hZ (ow hw 75 rfl)) (by decide) (backOf (W := 0) (rmLC0 l Z a0 hw [] a2 k2 c0 c1 c2 c3 sf hr_sf S_sf h0 n0 O V_a2 hg0 hg1 hg2 hg3 hb0 hb1 hb2 hb3) hZ (ow hw 75 rfl) (ow hw 74 rfl) (by decide) (by decide)) (g := (mkF m 12 #[rv a1, iv 0] [.int 0, .ref a2])) rfl (by rw [hml]; rfl) (argsL := [(.ref a2), (.int (0 : Int32))]) (rest := []) (lenOf pd_7 rfl) rfl (by show 2 * 0 + _ ≤ _; exact Nat.le_of_eq rfl) (hb hby d15_12) (fun _ _ => ⟨rfl, e2, (by decide : 0 + 0 ≤ _), (by decide : 0 + 0 ≤ _)⟩)
  dsimp only [Pt.U, Pt.locs, Pt.cells, Pt.slots] at X3 lq3 yq3 zq3 st3 hQ3
  subst lq3 yq3 zq3
  obtain ⟨rfl, rfl, e3⟩ := hQ3
  try rw [List.append_nil] at X3
  refine gb st3 ?_
  show G T3 (mkF m 15 #[rv a1, iv 0] [.int c0])
  exact go X3 (v := (some (.int c0))) (fun h => by rw [Bd.returns] at h; cases h) (fun fs hr => retOut X3 hx Bd.returns (show narrow .char (.int c0) = .int c0 from congrArg Value.int (own_nc hg0 hb0)) (Or.inl ⟨rfl, by simp, _, rfl⟩) (hb hby d15_15) hr) (⟨rfl, rfl, e3⟩) (by decide) (by decide)
def Q_rmCAL1 (Z : State) (a1 a2 : Addr) (k2 : ClassId) (c0 c1 c2 c3 : Int32) (sf : Value) (h0 : Heap) (n0 : Nat) (zc : Int32) : Option Value → Heap → List Loc → Prop := fun v h L => v = some (.int c1) ∧ L = [] ∧ h = h0
set_option maxRecDepth 65536 in
set_option maxHeartbeats 40000000 in
theorem rmCAL1 (l : Launch) (Z : State) (a0 : Array Value) (hw : ∀ d ∈ tables_1, d.before a0 Z = true) (ws : List Jvm.Cond) (a1 a2 : Addr) (k2 : ClassId) (c0 c1 c2 c3 : Int32) (sf : Value) (hr_sf : sf.isRef = true) (S_sf : Sta Z Z.heap "jdk/internal/util/Preconditions" "SIOOBE_FORMATTER" "Ljava/util/function/BiFunction;" sf) (S_ad : Sta Z Z.heap "java/lang/StringUTF16" "$assertionsDisabled" "Z" (.int (1 : Int32))) (S_hi : Sta Z Z.heap "java/lang/StringUTF16" "HI_BYTE_SHIFT" "I" (.int (0 : Int32))) (S_lo : Sta Z Z.heap "java/lang/StringUTF16" "LO_BYTE_SHIFT" "I" (.int (8 : Int32))) (h0 : Heap) (n0 : Nat) (O : Old Z n0 h0) (zc : Int32) (S_cs : Sta Z Z.heap "java/lang/String" "COMPACT_STRINGS" "Z" (.int zc)) (hzc : ¬ zc = (0 : Int32)) (E_a1 : Exa Z h0 a1 "java/lang/String") (F_c1 : Fld Z h0 a1 "java/lang/String" "coder" "B" (.int (0 : Int32))) (F_v1 : Fld Z h0 a1 "java/lang/String" "value" "[B" (.ref a2)) (V_a2 : Arv Z h0 a2 k2 .byte (4 : Int32) [(.int (nar .byte (c0.toInt8.toInt32))), (.int (nar .byte (c1.toInt8.toInt32))), (.int (nar .byte (c2.toInt8.toInt32))), (.int (nar .byte (c3.toInt8.toInt32)))] (.int (0 : Int32))) (hg0 : ¬ c0 < (0 : Int32)) (hg1 : ¬ c1 < (0 : Int32)) (hg2 : ¬ c2 < (0 : Int32)) (hg3 : ¬ c3 < (0 : Int32)) (hb0 : ¬ (255 : Int32) < c0) (hb1 : ¬ (255 : Int32) < c1) (hb2 : ¬ (255 : Int32) < c2) (hb3 : ¬ (255 : Int32) < c3) :
    MetFree l (⟨"java/lang/String", "charAt", "(I)C"⟩ : MethodName) (head1 (Jvm.Cond.code (⟨"java/lang/String", "charAt", "(I)C"⟩ : MethodName) jdk_42_method_56_code 2 (some .char) :: ws) ({ frames := 3, cells := 0, slots := 0, locals := 40 } : Room)) (fun a U => a = #[(.ref a1), (.int (1 : Int32))] ∧ Z.Warmed39 U.vm ∧ U.heap = h0) (fun _ _ _ _ _ => True) (fun _ U o U' => ∃ v L, o = .returned v ∧ (Q_rmCAL1 Z a1 a2 k2 c0 c1 c2 c3 sf h0 n0 zc) v U'.heap L ∧ FrameEnd U o U' L ({ frames := 3, cells := 0, slots := 0, locals := 40 } : Room).cells ({ frames := 3, cells := 0, slots := 0, locals := 40 } : Room).slots) := by
  refine MetFree.of_bodySF (plainFor_of_name pn_1) hisR ?_
  intro p e s m args below meth c s₁ Bd hml0 hP hK
  obtain ⟨rfl, hZ, hh⟩ := hP
  have hx := Bd.exec
  have hby := Bd.bytes
  have hml : c.maxLocals = 2 := hml0
  have hown : s.vm.findClass "java/lang/String" = some m.cls := findClass_of_methodNamed Bd.named
  have hnm := (name_of_methodNamed Bd.named Bd.method).1
  have hlk := BodyLoose.notSynchronized Bd
  have X0 : Stand p l e ({ frames := 3, cells := 0, slots := 0, locals := 40 } : Room) s m #[(.ref a1), (.int (1 : Int32))] below meth c s₁ [] 0 0 := Stand.of_body Bd
  have e0 : s₁.heap = h0 := by rw [← hh, Bd.state]; rfl
  have N := Fr.nil n0
  obtain ⟨G, hG⟩ : ∃ G : State → JFrame → Prop, G = OwnG p e below s ({ frames := 3, cells := 0, slots := 0, locals := 40 } : Room).cells ({ frames := 3, cells := 0, slots := 0, locals := 40 } : Room).slots (Q_rmCAL1 Z a1 a2 k2 c0 c1 c2 c3 sf h0 n0 zc) := ⟨_, rfl⟩
  have gb : ∀ {T T' : State} {g g' : JFrame}, (∀ t, Steps p.tables e below (T'.setTop g') t → Steps p.tables e below (T.setTop g) t) → G T' g' → G T g := by subst hG; exact fun k h => own_by k h
  have go : ∀ {T : State} {locs : List Loc} {cells slots : Nat} {g : JFrame} {v : Option Value}, Stand p l e ({ frames := 3, cells := 0, slots := 0, locals := 40 } : Room) s m #[(.ref a1), (.int (1 : Int32))] below meth c T locs cells slots → (meth.sig.returnType = none → v = none) → (∀ fs, (∀ (f : JFrame) (acts : List Action), f.method = m → f.locked = none → f.entered = [] → (doReturn e (T.setTop f) acts v).1 = T.setFrames fs) → Steps p.tables e below (T.setTop g) (T.setFrames fs)) → (Q_rmCAL1 Z a1 a2 k2 c0 c1 c2 c3 sf h0 n0 zc) v T.heap locs → cells ≤ ({ frames := 3, cells := 0, slots := 0, locals := 40 } : Room).cells → slots ≤ ({ frames := 3, cells := 0, slots := 0, locals := 40 } : Room).slots → G T g := by subst hG; exact fun X h1 h2 h3 h4 h5 => own_out X hlk h1 h2 h3 h4 h5
  show OwnG p e below s ({ frames := 3, cells := 0, slots := 0, locals := 40 } : Room).cells ({ frames := 3, cells := 0, slots := 0, locals := 40 } : Room).slots (Q_rmCAL1 Z a1 a2 k2 c0 c1 c2 c3 sf h0 n0 zc) s₁ (entryFrame m #[(.ref a1), (.int (1 : Int32))] 2)
  rw [← hG, ef_rmCAL1 m a1 (1 : Int32)]
  clear hG
  show G s₁ (mkF m 0 #[.val (.ref a1), .val (.int (1 : Int32))] [])
  refine gb (fun _ k => XS.aloadN X0.here hx rfl (hb hby d15_0) rfl rfl k) ?_
  show G s₁ (mkF m 1 #[rv a1, iv 1] [.ref a1])
  obtain ⟨cq1, kq1, q1a, q1b, q1c⟩ := isOf hZ e0 E_a1
  obtain ⟨_, _, ⟨T1, Lz1, kz1, nz1⟩, -, X1, ⟨Lc1, hQ1, lq1, yq1, zq1⟩, st1⟩ := X0.virtualBack hx (y := (⟨"java/lang/String", "isLatin1", "()Z"⟩ : MethodName)) (z := (⟨"java/lang/String", "isLatin1", "()Z"⟩ : MethodName)) hown (mvT hZ (ow hw 67 rfl)) (mvT hZ (ow hw 68 rfl)) (notFace_of_selects (args := #[]) (mvT hZ (ow hw 70 rfl))) (mvT hZ (ow hw 70 rfl)) (mvT hZ (ow hw 69 rfl)) (by decide) (backOf (W := 0) (rmIL0 l Z a0 hw [] a1 h0 n0 O zc S_cs hzc F_c1) hZ (ow hw 71 rfl) (ow hw 4 rfl) (by decide) (by decide)) q1a q1c (g := (mkF m 1 #[rv a1, iv 1] [.ref a1])) rfl (by rw [hml]; rfl) (Steps.refl _) (argsL := []) (rest := []) (lenOf pd_12 rfl) rfl (by show 2 * 0 + _ ≤ _; exact Nat.le_of_eq rfl) (hb hby d15_1) (fun _ _ => ⟨rfl, e0, (by decide : 0 + 0 ≤ _), (by decide : 0 + 0 ≤ _)⟩)
  dsimp only [Pt.U, Pt.locs, Pt.cells, Pt.slots] at X1 lq1 yq1 zq1 st1 hQ1
  subst lq1 yq1 zq1
  obtain ⟨rfl, rfl, e1⟩ := hQ1
  try rw [List.append_nil] at X1
  refine gb (fun _ k => st1.trans k) ?_
  show G T1 (mkF m 4 #[rv a1, iv 1] [.int 1])
  refine gb (fun _ k => XS.ifNo X1.here hx rfl (hb hby d15_4) rfl ((if0 _ _).trans (feq (by decide : ¬ ((1 : Int32) = (0 : Int32)))).1) (XS.aloadN X1.here hx rfl (hb hby d15_7) rfl rfl k)) ?_
  show G T1 (mkF m 8 #[rv a1, iv 1] [.ref a1])
  obtain ⟨T2, X2, e2, st2⟩ := getF X1 hx hZ hown (host := "") (Or.inl (ow hw 29 rfl)) Via.refl e1 F_v1 (g := (mkF m 8 #[rv a1, iv 1] [.ref a1])) rfl rfl (hb hby d15_8)
  refine gb st2 ?_
  show G T2 (mkF m 11 #[rv a1, iv 1] [.ref a2])
  refine gb (fun _ k => XS.iloadN X2.here hx rfl (hb hby d15_11) rfl k) ?_
  show G T2 (mkF m 12 #[rv a1, iv 1] [.int 1, .ref a2])
  obtain ⟨_, _, ⟨T3, Lz3, kz3, nz3⟩, -, X3, ⟨Lc3, hQ3, lq3, yq3, zq3⟩, st3⟩ := Jvm.LawKit.callS X2 hx (y := (⟨"java/lang/StringLatin1", "charAt", "([BI)C"⟩ : MethodName)) hown (mvT hZ (ow hw 72 rfl)) (mvT hZ (ow hw 73 rfl)) (mvT hZ (ow hw 74 rfl)) (mvT hZ (ow hw 75 rfl)) (by decide) (backOf (W := 0) (rmLC1 l Z a0 hw [] a2 k2 c0 c1 c2 c3 sf hr_sf S_sf h0 n0 O V_a2 hg0 hg1 hg2 hg3 hb0 hb1 hb2 hb3) hZ (ow hw 75 rfl) (ow hw 74 rfl) (by decide) (by decide)) (g := (mkF m 12 #[rv a1, iv 1] [.int 1, .ref a2])) rfl (by rw [hml]; rfl) (argsL := [(.ref a2), (.int (1 : Int32))]) (rest := []) (lenOf pd_7 rfl) rfl (by show 2 * 0 + _ ≤ _; exact Nat.le_of_eq rfl) (hb hby d15_12) (fun _ _ => ⟨rfl, e2, (by decide : 0 + 0 ≤ _), (by decide : 0 + 0 ≤ _)⟩)
  dsimp only [Pt.U, Pt.locs, Pt.cells, Pt.slots] at X3 lq3 yq3 zq3 st3 hQ3
  subst lq3 yq3 zq3
  obtain ⟨rfl, rfl, e3⟩ := hQ3
  try rw [List.append_nil] at X3
  refine gb st3 ?_
  show G T3 (mkF m 15 #[rv a1, iv 1] [.int c1])
  exact go X3 (v := (some (.int c1))) (fun h => by rw [Bd.returns] at h; cases h) (fun fs hr => retOut X3 hx Bd.returns (show narrow .char (.int c1) = .int c1 from congrArg Value.int (own_nc hg1 hb1)) (Or.inl ⟨rfl, by simp, _, rfl⟩) (hb hby d15_15) hr) (⟨rfl, rfl, e3⟩) (by decide) (by decide)
def Q_rmCAL2 (Z : State) (a1 a2 : Addr) (k2 : ClassId) (c0 c1 c2 c3 : Int32) (sf : Value) (h0 : Heap) (n0 : Nat) (zc : Int32) : Option Value → Heap → List Loc → Prop := fun v h L => v = some (.int c2) ∧ L = [] ∧ h = h0
set_option maxRecDepth 65536 in
set_option maxHeartbeats 40000000 in
theorem rmCAL2 (l : Launch) (Z : State) (a0 : Array Value) (hw : ∀ d ∈ tables_1, d.before a0 Z = true) (ws : List Jvm.Cond) (a1 a2 : Addr) (k2 : ClassId) (c0 c1 c2 c3 : Int32) (sf : Value) (hr_sf : sf.isRef = true) (S_sf : Sta Z Z.heap "jdk/internal/util/Preconditions" "SIOOBE_FORMATTER" "Ljava/util/function/BiFunction;" sf) (S_ad : Sta Z Z.heap "java/lang/StringUTF16" "$assertionsDisabled" "Z" (.int (1 : Int32))) (S_hi : Sta Z Z.heap "java/lang/StringUTF16" "HI_BYTE_SHIFT" "I" (.int (0 : Int32))) (S_lo : Sta Z Z.heap "java/lang/StringUTF16" "LO_BYTE_SHIFT" "I" (.int (8 : Int32))) (h0 : Heap) (n0 : Nat) (O : Old Z n0 h0) (zc : Int32) (S_cs : Sta Z Z.heap "java/lang/String" "COMPACT_STRINGS" "Z" (.int zc)) (hzc : ¬ zc = (0 : Int32)) (E_a1 : Exa Z h0 a1 "java/lang/String") (F_c1 : Fld Z h0 a1 "java/lang/String" "coder" "B" (.int (0 : Int32))) (F_v1 : Fld Z h0 a1 "java/lang/String" "value" "[B" (.ref a2)) (V_a2 : Arv Z h0 a2 k2 .byte (4 : Int32) [(.int (nar .byte (c0.toInt8.toInt32))), (.int (nar .byte (c1.toInt8.toInt32))), (.int (nar .byte (c2.toInt8.toInt32))), (.int (nar .byte (c3.toInt8.toInt32)))] (.int (0 : Int32))) (hg0 : ¬ c0 < (0 : Int32)) (hg1 : ¬ c1 < (0 : Int32)) (hg2 : ¬ c2 < (0 : Int32)) (hg3 : ¬ c3 < (0 : Int32)) (hb0 : ¬ (255 : Int32) < c0) (hb1 : ¬ (255 : Int32) < c1) (hb2 : ¬ (255 : Int32) < c2) (hb3 : ¬ (255 : Int32) < c3) :
    MetFree l (⟨"java/lang/String", "charAt", "(I)C"⟩ : MethodName) (head1 (Jvm.Cond.code (⟨"java/lang/String", "charAt", "(I)C"⟩ : MethodName) jdk_42_method_56_code 2 (some .char) :: ws) ({ frames := 3, cells := 0, slots := 0, locals := 40 } : Room)) (fun a U => a = #[(.ref a1), (.int (2 : Int32))] ∧ Z.Warmed39 U.vm ∧ U.heap = h0) (fun _ _ _ _ _ => True) (fun _ U o U' => ∃ v L, o = .returned v ∧ (Q_rmCAL2 Z a1 a2 k2 c0 c1 c2 c3 sf h0 n0 zc) v U'.heap L ∧ FrameEnd U o U' L ({ frames := 3, cells := 0, slots := 0, locals := 40 } : Room).cells ({ frames := 3, cells := 0, slots := 0, locals := 40 } : Room).slots) := by
  refine MetFree.of_bodySF (plainFor_of_name pn_1) hisR ?_
  intro p e s m args below meth c s₁ Bd hml0 hP hK
  obtain ⟨rfl, hZ, hh⟩ := hP
  have hx := Bd.exec
  have hby := Bd.bytes
  have hml : c.maxLocals = 2 := hml0
  have hown : s.vm.findClass "java/lang/String" = some m.cls := findClass_of_methodNamed Bd.named
  have hnm := (name_of_methodNamed Bd.named Bd.method).1
  have hlk := BodyLoose.notSynchronized Bd
  have X0 : Stand p l e ({ frames := 3, cells := 0, slots := 0, locals := 40 } : Room) s m #[(.ref a1), (.int (2 : Int32))] below meth c s₁ [] 0 0 := Stand.of_body Bd
  have e0 : s₁.heap = h0 := by rw [← hh, Bd.state]; rfl
  have N := Fr.nil n0
  obtain ⟨G, hG⟩ : ∃ G : State → JFrame → Prop, G = OwnG p e below s ({ frames := 3, cells := 0, slots := 0, locals := 40 } : Room).cells ({ frames := 3, cells := 0, slots := 0, locals := 40 } : Room).slots (Q_rmCAL2 Z a1 a2 k2 c0 c1 c2 c3 sf h0 n0 zc) := ⟨_, rfl⟩
  have gb : ∀ {T T' : State} {g g' : JFrame}, (∀ t, Steps p.tables e below (T'.setTop g') t → Steps p.tables e below (T.setTop g) t) → G T' g' → G T g := by subst hG; exact fun k h => own_by k h
  have go : ∀ {T : State} {locs : List Loc} {cells slots : Nat} {g : JFrame} {v : Option Value}, Stand p l e ({ frames := 3, cells := 0, slots := 0, locals := 40 } : Room) s m #[(.ref a1), (.int (2 : Int32))] below meth c T locs cells slots → (meth.sig.returnType = none → v = none) → (∀ fs, (∀ (f : JFrame) (acts : List Action), f.method = m → f.locked = none → f.entered = [] → (doReturn e (T.setTop f) acts v).1 = T.setFrames fs) → Steps p.tables e below (T.setTop g) (T.setFrames fs)) → (Q_rmCAL2 Z a1 a2 k2 c0 c1 c2 c3 sf h0 n0 zc) v T.heap locs → cells ≤ ({ frames := 3, cells := 0, slots := 0, locals := 40 } : Room).cells → slots ≤ ({ frames := 3, cells := 0, slots := 0, locals := 40 } : Room).slots → G T g := by subst hG; exact fun X h1 h2 h3 h4 h5 => own_out X hlk h1 h2 h3 h4 h5
  show OwnG p e below s ({ frames := 3, cells := 0, slots := 0, locals := 40 } : Room).cells ({ frames := 3, cells := 0, slots := 0, locals := 40 } : Room).slots (Q_rmCAL2 Z a1 a2 k2 c0 c1 c2 c3 sf h0 n0 zc) s₁ (entryFrame m #[(.ref a1), (.int (2 : Int32))] 2)
  rw [← hG, ef_rmCAL2 m a1 (2 : Int32)]
  clear hG
  show G s₁ (mkF m 0 #[.val (.ref a1), .val (.int (2 : Int32))] [])
  refine gb (fun _ k => XS.aloadN X0.here hx rfl (hb hby d15_0) rfl rfl k) ?_
  show G s₁ (mkF m 1 #[rv a1, iv 2] [.ref a1])
  obtain ⟨cq1, kq1, q1a, q1b, q1c⟩ := isOf hZ e0 E_a1
  obtain ⟨_, _, ⟨T1, Lz1, kz1, nz1⟩, -, X1, ⟨Lc1, hQ1, lq1, yq1, zq1⟩, st1⟩ := X0.virtualBack hx (y := (⟨"java/lang/String", "isLatin1", "()Z"⟩ : MethodName)) (z := (⟨"java/lang/String", "isLatin1", "()Z"⟩ : MethodName)) hown (mvT hZ (ow hw 67 rfl)) (mvT hZ (ow hw 68 rfl)) (notFace_of_selects (args := #[]) (mvT hZ (ow hw 70 rfl))) (mvT hZ (ow hw 70 rfl)) (mvT hZ (ow hw 69 rfl)) (by decide) (backOf (W := 0) (rmIL0 l Z a0 hw [] a1 h0 n0 O zc S_cs hzc F_c1) hZ (ow hw 71 rfl) (ow hw 4 rfl) (by decide) (by decide)) q1a q1c (g := (mkF m 1 #[rv a1, iv 2] [.ref a1])) rfl (by rw [hml]; rfl) (Steps.refl _) (argsL := []) (rest := []) (lenOf pd_12 rfl) rfl (by show 2 * 0 + _ ≤ _; exact Nat.le_of_eq rfl) (hb hby d15_1) (fun _ _ => ⟨rfl, e0, (by decide : 0 + 0 ≤ _), (by decide : 0 + 0 ≤ _)⟩)
  dsimp only [Pt.U, Pt.locs, Pt.cells, Pt.slots] at X1 lq1 yq1 zq1 st1 hQ1
  subst lq1 yq1 zq1
  obtain ⟨rfl, rfl, e1⟩ := hQ1
  try rw [List.append_nil] at X1
  refine gb (fun _ k => st1.trans k) ?_
  show G T1 (mkF m 4 #[rv a1, iv 2] [.int 1])
  refine gb (fun _ k => XS.ifNo X1.here hx rfl (hb hby d15_4) rfl ((if0 _ _).trans (feq (by decide : ¬ ((1 : Int32) = (0 : Int32)))).1) (XS.aloadN X1.here hx rfl (hb hby d15_7) rfl rfl k)) ?_
  show G T1 (mkF m 8 #[rv a1, iv 2] [.ref a1])
  obtain ⟨T2, X2, e2, st2⟩ := getF X1 hx hZ hown (host := "") (Or.inl (ow hw 29 rfl)) Via.refl e1 F_v1 (g := (mkF m 8 #[rv a1, iv 2] [.ref a1])) rfl rfl (hb hby d15_8)
  refine gb st2 ?_
  show G T2 (mkF m 11 #[rv a1, iv 2] [.ref a2])
  refine gb (fun _ k => XS.iloadN X2.here hx rfl (hb hby d15_11) rfl k) ?_
  show G T2 (mkF m 12 #[rv a1, iv 2] [.int 2, .ref a2])
  obtain ⟨_, _, ⟨T3, Lz3, kz3, nz3⟩, -, X3, ⟨Lc3, hQ3, lq3, yq3, zq3⟩, st3⟩ := Jvm.LawKit.callS X2 hx (y := (⟨"java/lang/StringLatin1", "charAt", "([BI)C"⟩ : MethodName)) hown (mvT hZ (ow hw 72 rfl)) (mvT hZ (ow hw 73 rfl)) (mvT hZ (ow hw 74 rfl)) (mvT hZ (ow hw 75 rfl)) (by decide) (backOf (W := 0) (rmLC2 l Z a0 hw [] a2 k2 c0 c1 c2 c3 sf hr_sf S_sf h0 n0 O V_a2 hg0 hg1 hg2 hg3 hb0 hb1 hb2 hb3) hZ (ow hw 75 rfl) (ow hw 74 rfl) (by decide) (by decide)) (g := (mkF m 12 #[rv a1, iv 2] [.int 2, .ref a2])) rfl (by rw [hml]; rfl) (argsL := [(.ref a2), (.int (2 : Int32))]) (rest := []) (lenOf pd_7 rfl) rfl (by show 2 * 0 + _ ≤ _; exact Nat.le_of_eq rfl) (hb hby d15_12) (fun _ _ => ⟨rfl, e2, (by decide : 0 + 0 ≤ _), (by decide : 0 + 0 ≤ _)⟩)
  dsimp only [Pt.U, Pt.locs, Pt.cells, Pt.slots] at X3 lq3 yq3 zq3 st3 hQ3
  subst lq3 yq3 zq3
  obtain ⟨rfl, rfl, e3⟩ := hQ3
  try rw [List.append_nil] at X3
  refine gb st3 ?_
  show G T3 (mkF m 15 #[rv a1, iv 2] [.int c2])
  exact go X3 (v := (some (.int c2))) (fun h => by rw [Bd.returns] at h; cases h) (fun fs hr => retOut X3 hx Bd.returns (show narrow .char (.int c2) = .int c2 from congrArg Value.int (own_nc hg2 hb2)) (Or.inl ⟨rfl, by simp, _, rfl⟩) (hb hby d15_15) hr) (⟨rfl, rfl, e3⟩) (by decide) (by decide)
def Q_rmCAL3 (Z : State) (a1 a2 : Addr) (k2 : ClassId) (c0 c1 c2 c3 : Int32) (sf : Value) (h0 : Heap) (n0 : Nat) (zc : Int32) : Option Value → Heap → List Loc → Prop := fun v h L => v = some (.int c3) ∧ L = [] ∧ h = h0
set_option maxRecDepth 65536 in
set_option maxHeartbeats 40000000 in
theorem rmCAL3 (l : Launch) (Z : State) (a0 : Array Value) (hw : ∀ d ∈ tables_1, d.before a0 Z = true) (ws : List Jvm.Cond) (a1 a2 : Addr) (k2 : ClassId) (c0 c1 c2 c3 : Int32) (sf : Value) (hr_sf : sf.isRef = true) (S_sf : Sta Z Z.heap "jdk/internal/util/Preconditions" "SIOOBE_FORMATTER" "Ljava/util/function/BiFunction;" sf) (S_ad : Sta Z Z.heap "java/lang/StringUTF16" "$assertionsDisabled" "Z" (.int (1 : Int32))) (S_hi : Sta Z Z.heap "java/lang/StringUTF16" "HI_BYTE_SHIFT" "I" (.int (0 : Int32))) (S_lo : Sta Z Z.heap "java/lang/StringUTF16" "LO_BYTE_SHIFT" "I" (.int (8 : Int32))) (h0 : Heap) (n0 : Nat) (O : Old Z n0 h0) (zc : Int32) (S_cs : Sta Z Z.heap "java/lang/String" "COMPACT_STRINGS" "Z" (.int zc)) (hzc : ¬ zc = (0 : Int32)) (E_a1 : Exa Z h0 a1 "java/lang/String") (F_c1 : Fld Z h0 a1 "java/lang/String" "coder" "B" (.int (0 : Int32))) (F_v1 : Fld Z h0 a1 "java/lang/String" "value" "[B" (.ref a2)) (V_a2 : Arv Z h0 a2 k2 .byte (4 : Int32) [(.int (nar .byte (c0.toInt8.toInt32))), (.int (nar .byte (c1.toInt8.toInt32))), (.int (nar .byte (c2.toInt8.toInt32))), (.int (nar .byte (c3.toInt8.toInt32)))] (.int (0 : Int32))) (hg0 : ¬ c0 < (0 : Int32)) (hg1 : ¬ c1 < (0 : Int32)) (hg2 : ¬ c2 < (0 : Int32)) (hg3 : ¬ c3 < (0 : Int32)) (hb0 : ¬ (255 : Int32) < c0) (hb1 : ¬ (255 : Int32) < c1) (hb2 : ¬ (255 : Int32) < c2) (hb3 : ¬ (255 : Int32) < c3) :
    MetFree l (⟨"java/lang/String", "charAt", "(I)C"⟩ : MethodName) (head1 (Jvm.Cond.code (⟨"java/lang/String", "charAt", "(I)C"⟩ : MethodName) jdk_42_method_56_code 2 (some .char) :: ws) ({ frames := 3, cells := 0, slots := 0, locals := 40 } : Room)) (fun a U => a = #[(.ref a1), (.int (3 : Int32))] ∧ Z.Warmed39 U.vm ∧ U.heap = h0) (fun _ _ _ _ _ => True) (fun _ U o U' => ∃ v L, o = .returned v ∧ (Q_rmCAL3 Z a1 a2 k2 c0 c1 c2 c3 sf h0 n0 zc) v U'.heap L ∧ FrameEnd U o U' L ({ frames := 3, cells := 0, slots := 0, locals := 40 } : Room).cells ({ frames := 3, cells := 0, slots := 0, locals := 40 } : Room).slots) := by
  refine MetFree.of_bodySF (plainFor_of_name pn_1) hisR ?_
  intro p e s m args below meth c s₁ Bd hml0 hP hK
  obtain ⟨rfl, hZ, hh⟩ := hP
  have hx := Bd.exec
  have hby := Bd.bytes
  have hml : c.maxLocals = 2 := hml0
  have hown : s.vm.findClass "java/lang/String" = some m.cls := findClass_of_methodNamed Bd.named
  have hnm := (name_of_methodNamed Bd.named Bd.method).1
  have hlk := BodyLoose.notSynchronized Bd
  have X0 : Stand p l e ({ frames := 3, cells := 0, slots := 0, locals := 40 } : Room) s m #[(.ref a1), (.int (3 : Int32))] below meth c s₁ [] 0 0 := Stand.of_body Bd
  have e0 : s₁.heap = h0 := by rw [← hh, Bd.state]; rfl
  have N := Fr.nil n0
  obtain ⟨G, hG⟩ : ∃ G : State → JFrame → Prop, G = OwnG p e below s ({ frames := 3, cells := 0, slots := 0, locals := 40 } : Room).cells ({ frames := 3, cells := 0, slots := 0, locals := 40 } : Room).slots (Q_rmCAL3 Z a1 a2 k2 c0 c1 c2 c3 sf h0 n0 zc) := ⟨_, rfl⟩
  have gb : ∀ {T T' : State} {g g' : JFrame}, (∀ t, Steps p.tables e below (T'.setTop g') t → Steps p.tables e below (T.setTop g) t) → G T' g' → G T g := by subst hG; exact fun k h => own_by k h
  have go : ∀ {T : State} {locs : List Loc} {cells slots : Nat} {g : JFrame} {v : Option Value}, Stand p l e ({ frames := 3, cells := 0, slots := 0, locals := 40 } : Room) s m #[(.ref a1), (.int (3 : Int32))] below meth c T locs cells slots → (meth.sig.returnType = none → v = none) → (∀ fs, (∀ (f : JFrame) (acts : List Action), f.method = m → f.locked = none → f.entered = [] → (doReturn e (T.setTop f) acts v).1 = T.setFrames fs) → Steps p.tables e below (T.setTop g) (T.setFrames fs)) → (Q_rmCAL3 Z a1 a2 k2 c0 c1 c2 c3 sf h0 n0 zc) v T.heap locs → cells ≤ ({ frames := 3, cells := 0, slots := 0, locals := 40 } : Room).cells → slots ≤ ({ frames := 3, cells := 0, slots := 0, locals := 40 } : Room).slots → G T g := by subst hG; exact fun X h1 h2 h3 h4 h5 => own_out X hlk h1 h2 h3 h4 h5
  show OwnG p e below s ({ frames := 3, cells := 0, slots := 0, locals := 40 } : Room).cells ({ frames := 3, cells := 0, slots := 0, locals := 40 } : Room).slots (Q_rmCAL3 Z a1 a2 k2 c0 c1 c2 c3 sf h0 n0 zc) s₁ (entryFrame m #[(.ref a1), (.int (3 : Int32))] 2)
  rw [← hG, ef_rmCAL3 m a1 (3 : Int32)]
  clear hG
  show G s₁ (mkF m 0 #[.val (.ref a1), .val (.int (3 : Int32))] [])
  refine gb (fun _ k => XS.aloadN X0.here hx rfl (hb hby d15_0) rfl rfl k) ?_
  show G s₁ (mkF m 1 #[rv a1, iv 3] [.ref a1])
  obtain ⟨cq1, kq1, q1a, q1b, q1c⟩ := isOf hZ e0 E_a1
  obtain ⟨_, _, ⟨T1, Lz1, kz1, nz1⟩, -, X1, ⟨Lc1, hQ1, lq1, yq1, zq1⟩, st1⟩ := X0.virtualBack hx (y := (⟨"java/lang/String", "isLatin1", "()Z"⟩ : MethodName)) (z := (⟨"java/lang/String", "isLatin1", "()Z"⟩ : MethodName)) hown (mvT hZ (ow hw 67 rfl)) (mvT hZ (ow hw 68 rfl)) (notFace_of_selects (args := #[]) (mvT hZ (ow hw 70 rfl))) (mvT hZ (ow hw 70 rfl)) (mvT hZ (ow hw 69 rfl)) (by decide) (backOf (W := 0) (rmIL0 l Z a0 hw [] a1 h0 n0 O zc S_cs hzc F_c1) hZ (ow hw 71 rfl) (ow hw 4 rfl) (by decide) (by decide)) q1a q1c (g := (mkF m 1 #[rv a1, iv 3] [.ref a1])) rfl (by rw [hml]; rfl) (Steps.refl _) (argsL := []) (rest := []) (lenOf pd_12 rfl) rfl (by show 2 * 0 + _ ≤ _; exact Nat.le_of_eq rfl) (hb hby d15_1) (fun _ _ => ⟨rfl, e0, (by decide : 0 + 0 ≤ _), (by decide : 0 + 0 ≤ _)⟩)
  dsimp only [Pt.U, Pt.locs, Pt.cells, Pt.slots] at X1 lq1 yq1 zq1 st1 hQ1
  subst lq1 yq1 zq1
  obtain ⟨rfl, rfl, e1⟩ := hQ1
  try rw [List.append_nil] at X1
  refine gb (fun _ k => st1.trans k) ?_
  show G T1 (mkF m 4 #[rv a1, iv 3] [.int 1])
  refine gb (fun _ k => XS.ifNo X1.here hx rfl (hb hby d15_4) rfl ((if0 _ _).trans (feq (by decide : ¬ ((1 : Int32) = (0 : Int32)))).1) (XS.aloadN X1.here hx rfl (hb hby d15_7) rfl rfl k)) ?_
  show G T1 (mkF m 8 #[rv a1, iv 3] [.ref a1])
  obtain ⟨T2, X2, e2, st2⟩ := getF X1 hx hZ hown (host := "") (Or.inl (ow hw 29 rfl)) Via.refl e1 F_v1 (g := (mkF m 8 #[rv a1, iv 3] [.ref a1])) rfl rfl (hb hby d15_8)
  refine gb st2 ?_
  show G T2 (mkF m 11 #[rv a1, iv 3] [.ref a2])
  refine gb (fun _ k => XS.iloadN X2.here hx rfl (hb hby d15_11) rfl k) ?_
  show G T2 (mkF m 12 #[rv a1, iv 3] [.int 3, .ref a2])
  obtain ⟨_, _, ⟨T3, Lz3, kz3, nz3⟩, -, X3, ⟨Lc3, hQ3, lq3, yq3, zq3⟩, st3⟩ := Jvm.LawKit.callS X2 hx (y := (⟨"java/lang/StringLatin1", "charAt", "([BI)C"⟩ : MethodName)) hown (mvT hZ (ow hw 72 rfl)) (mvT hZ (ow hw 73 rfl)) (mvT hZ (ow hw 74 rfl)) (mvT hZ (ow hw 75 rfl)) (by decide) (backOf (W := 0) (rmLC3 l Z a0 hw [] a2 k2 c0 c1 c2 c3 sf hr_sf S_sf h0 n0 O V_a2 hg0 hg1 hg2 hg3 hb0 hb1 hb2 hb3) hZ (ow hw 75 rfl) (ow hw 74 rfl) (by decide) (by decide)) (g := (mkF m 12 #[rv a1, iv 3] [.int 3, .ref a2])) rfl (by rw [hml]; rfl) (argsL := [(.ref a2), (.int (3 : Int32))]) (rest := []) (lenOf pd_7 rfl) rfl (by show 2 * 0 + _ ≤ _; exact Nat.le_of_eq rfl) (hb hby d15_12) (fun _ _ => ⟨rfl, e2, (by decide : 0 + 0 ≤ _), (by decide : 0 + 0 ≤ _)⟩)
  dsimp only [Pt.U, Pt.locs, Pt.cells, Pt.slots] at X3 lq3 yq3 zq3 st3 hQ3
  subst lq3 yq3 zq3
  obtain ⟨rfl, rfl, e3⟩ := hQ3
  try rw [List.append_nil] at X3
  refine gb st3 ?_
  show G T3 (mkF m 15 #[rv a1, iv 3] [.int c3])
  exact go X3 (v := (some (.int c3))) (fun h => by rw [Bd.returns] at h; cases h) (fun fs hr => retOut X3 hx Bd.returns (show narrow .char (.int c3) = .int c3 from congrArg Value.int (own_nc hg3 hb3)) (Or.inl ⟨rfl, by simp, _, rfl⟩) (hb hby d15_15) hr) (⟨rfl, rfl, e3⟩) (by decide) (by decide)
def Q_rmCAL (c0 c1 c2 c3 : Int32) (i : Nat) (h0 : Heap) : Option Value → Heap → List Loc → Prop := fun v h L => v = some (.int (own_an c0 c1 c2 c3 i)) ∧ L = [] ∧ h = h0
theorem rmCAL (l : Launch) (Z : State) (a0 : Array Value) (hw : ∀ d ∈ tables_1, d.before a0 Z = true) (ws : List Jvm.Cond) (i : Nat) (hi : i < 4) (a1 a2 : Addr) (k2 : ClassId) (c0 c1 c2 c3 : Int32) (sf : Value) (hr_sf : sf.isRef = true) (S_sf : Sta Z Z.heap "jdk/internal/util/Preconditions" "SIOOBE_FORMATTER" "Ljava/util/function/BiFunction;" sf) (S_ad : Sta Z Z.heap "java/lang/StringUTF16" "$assertionsDisabled" "Z" (.int (1 : Int32))) (S_hi : Sta Z Z.heap "java/lang/StringUTF16" "HI_BYTE_SHIFT" "I" (.int (0 : Int32))) (S_lo : Sta Z Z.heap "java/lang/StringUTF16" "LO_BYTE_SHIFT" "I" (.int (8 : Int32))) (h0 : Heap) (n0 : Nat) (O : Old Z n0 h0) (zc : Int32) (S_cs : Sta Z Z.heap "java/lang/String" "COMPACT_STRINGS" "Z" (.int zc)) (hzc : ¬ zc = (0 : Int32)) (E_a1 : Exa Z h0 a1 "java/lang/String") (F_c1 : Fld Z h0 a1 "java/lang/String" "coder" "B" (.int (0 : Int32))) (F_v1 : Fld Z h0 a1 "java/lang/String" "value" "[B" (.ref a2)) (V_a2 : Arv Z h0 a2 k2 .byte (4 : Int32) [(.int (nar .byte (c0.toInt8.toInt32))), (.int (nar .byte (c1.toInt8.toInt32))), (.int (nar .byte (c2.toInt8.toInt32))), (.int (nar .byte (c3.toInt8.toInt32)))] (.int (0 : Int32))) (hg0 : ¬ c0 < (0 : Int32)) (hg1 : ¬ c1 < (0 : Int32)) (hg2 : ¬ c2 < (0 : Int32)) (hg3 : ¬ c3 < (0 : Int32)) (hb0 : ¬ (255 : Int32) < c0) (hb1 : ¬ (255 : Int32) < c1) (hb2 : ¬ (255 : Int32) < c2) (hb3 : ¬ (255 : Int32) < c3) :
    MetFree l (⟨"java/lang/String", "charAt", "(I)C"⟩ : MethodName) (head1 (Jvm.Cond.code (⟨"java/lang/String", "charAt", "(I)C"⟩ : MethodName) jdk_42_method_56_code 2 (some .char) :: ws) ({ frames := 3, cells := 0, slots := 0, locals := 40 } : Room)) (fun a U => a = #[.ref a1, .int (Int32.ofNat i)] ∧ Z.Warmed39 U.vm ∧ U.heap = h0) (fun _ _ _ _ _ => True) (fun _ U o U' => ∃ v L, o = .returned v ∧ (Q_rmCAL c0 c1 c2 c3 i h0) v U'.heap L ∧ FrameEnd U o U' L ({ frames := 3, cells := 0, slots := 0, locals := 40 } : Room).cells ({ frames := 3, cells := 0, slots := 0, locals := 40 } : Room).slots) := by
  rcases (by omega : i = 0 ∨ i = 1 ∨ i = 2 ∨ i = 3) with rfl | rfl | rfl | rfl
  · exact rmCAL0 l Z a0 hw ws a1 a2 k2 c0 c1 c2 c3 sf hr_sf S_sf S_ad S_hi S_lo h0 n0 O zc S_cs hzc E_a1 F_c1 F_v1 V_a2 hg0 hg1 hg2 hg3 hb0 hb1 hb2 hb3
  · exact rmCAL1 l Z a0 hw ws a1 a2 k2 c0 c1 c2 c3 sf hr_sf S_sf S_ad S_hi S_lo h0 n0 O zc S_cs hzc E_a1 F_c1 F_v1 V_a2 hg0 hg1 hg2 hg3 hb0 hb1 hb2 hb3
  · exact rmCAL2 l Z a0 hw ws a1 a2 k2 c0 c1 c2 c3 sf hr_sf S_sf S_ad S_hi S_lo h0 n0 O zc S_cs hzc E_a1 F_c1 F_v1 V_a2 hg0 hg1 hg2 hg3 hb0 hb1 hb2 hb3
  · exact rmCAL3 l Z a0 hw ws a1 a2 k2 c0 c1 c2 c3 sf hr_sf S_sf S_ad S_hi S_lo h0 n0 O zc S_cs hzc E_a1 F_c1 F_v1 V_a2 hg0 hg1 hg2 hg3 hb0 hb1 hb2 hb3
def Q_rmDIL (Z : State) (a1 a2 : Addr) (f0 t0 : Int32) (k2 : ClassId) (c0 c1 c2 c3 : Int32) (sf : Value) (h0 : Heap) (n0 : Nat) (zc : Int32) (k9 : Int32) : Option Value → Heap → List Loc → Prop := fun v h L => v = some (.int k9) ∧ L = [] ∧ h = h0
set_option maxRecDepth 65536 in
set_option maxHeartbeats 40000000 in
theorem rmDIL (l : Launch) (Z : State) (a0 : Array Value) (hw : ∀ d ∈ tables_1, d.before a0 Z = true) (ws : List Jvm.Cond) (a1 a2 : Addr) (f0 t0 : Int32) (k2 : ClassId) (c0 c1 c2 c3 : Int32) (sf : Value) (hr_sf : sf.isRef = true) (S_sf : Sta Z Z.heap "jdk/internal/util/Preconditions" "SIOOBE_FORMATTER" "Ljava/util/function/BiFunction;" sf) (S_ad : Sta Z Z.heap "java/lang/StringUTF16" "$assertionsDisabled" "Z" (.int (1 : Int32))) (S_hi : Sta Z Z.heap "java/lang/StringUTF16" "HI_BYTE_SHIFT" "I" (.int (0 : Int32))) (S_lo : Sta Z Z.heap "java/lang/StringUTF16" "LO_BYTE_SHIFT" "I" (.int (8 : Int32))) (h0 : Heap) (n0 : Nat) (O : Old Z n0 h0) (zc : Int32) (S_cs : Sta Z Z.heap "java/lang/String" "COMPACT_STRINGS" "Z" (.int zc)) (hzc : ¬ zc = (0 : Int32)) (E_a1 : Exa Z h0 a1 "java/lang/String") (F_c1 : Fld Z h0 a1 "java/lang/String" "coder" "B" (.int (0 : Int32))) (F_v1 : Fld Z h0 a1 "java/lang/String" "value" "[B" (.ref a2)) (V_a2 : Arv Z h0 a2 k2 .byte (4 : Int32) [(.int (nar .byte (c0.toInt8.toInt32))), (.int (nar .byte (c1.toInt8.toInt32))), (.int (nar .byte (c2.toInt8.toInt32))), (.int (nar .byte (c3.toInt8.toInt32)))] (.int (0 : Int32))) (hg0 : ¬ c0 < (0 : Int32)) (hg1 : ¬ c1 < (0 : Int32)) (hg2 : ¬ c2 < (0 : Int32)) (hg3 : ¬ c3 < (0 : Int32)) (hb0 : ¬ (255 : Int32) < c0) (hb1 : ¬ (255 : Int32) < c1) (hb2 : ¬ (255 : Int32) < c2) (hb3 : ¬ (255 : Int32) < c3) (hf : 0 ≤ f0.toInt ∧ f0.toInt ≤ 4) (ht : 0 ≤ t0.toInt ∧ t0.toInt ≤ 4) (dA : Decidable (own_all c0 c1 c2 c3 f0 t0)) (k9 : Int32) (hk9 : (if own_all c0 c1 c2 c3 f0 t0 then (1 : Int32) else (0 : Int32)) = k9) :
    MetFree l (⟨"com/example/vestry/vestry/input/ValueChecks", "digits", "(Ljava/lang/String;II)Z"⟩ : MethodName) (head1 (Jvm.Cond.code (⟨"com/example/vestry/vestry/input/ValueChecks", "digits", "(Ljava/lang/String;II)Z"⟩ : MethodName) prog_53_method_2_code 6 (some .boolean) :: ws) ({ frames := 4, cells := 0, slots := 0, locals := 53 } : Room)) (fun a U => a = #[(.ref a1), (.int f0), (.int t0)] ∧ Z.Warmed39 U.vm ∧ U.heap = h0) (fun _ _ _ _ _ => True) (fun _ U o U' => ∃ v L, o = .returned v ∧ (Q_rmDIL Z a1 a2 f0 t0 k2 c0 c1 c2 c3 sf h0 n0 zc k9) v U'.heap L ∧ FrameEnd U o U' L ({ frames := 4, cells := 0, slots := 0, locals := 53 } : Room).cells ({ frames := 4, cells := 0, slots := 0, locals := 53 } : Room).slots) := by
  refine MetFree.of_bodySF (plainFor_of_name pn_4) hisR ?_
  intro p e s m args below meth c s₁ Bd hml0 hP hK
  obtain ⟨rfl, hZ, hh⟩ := hP
  have hx := Bd.exec
  have hby := Bd.bytes
  have hml : c.maxLocals = 6 := hml0
  have hown : s.vm.findClass "com/example/vestry/vestry/input/ValueChecks" = some m.cls := findClass_of_methodNamed Bd.named
  have hnm := (name_of_methodNamed Bd.named Bd.method).1
  have hlk := BodyLoose.notSynchronized Bd
  have X0 : Stand p l e ({ frames := 4, cells := 0, slots := 0, locals := 53 } : Room) s m #[(.ref a1), (.int f0), (.int t0)] below meth c s₁ [] 0 0 := Stand.of_body Bd
  have e0 : s₁.heap = h0 := by rw [← hh, Bd.state]; rfl
  have N := Fr.nil n0
  obtain ⟨G, hG⟩ : ∃ G : State → JFrame → Prop, G = OwnG p e below s ({ frames := 4, cells := 0, slots := 0, locals := 53 } : Room).cells ({ frames := 4, cells := 0, slots := 0, locals := 53 } : Room).slots (Q_rmDIL Z a1 a2 f0 t0 k2 c0 c1 c2 c3 sf h0 n0 zc k9) := ⟨_, rfl⟩
  have gb : ∀ {T T' : State} {g g' : JFrame}, (∀ t, Steps p.tables e below (T'.setTop g') t → Steps p.tables e below (T.setTop g) t) → G T' g' → G T g := by subst hG; exact fun k h => own_by k h
  have go : ∀ {T : State} {locs : List Loc} {cells slots : Nat} {g : JFrame} {v : Option Value}, Stand p l e ({ frames := 4, cells := 0, slots := 0, locals := 53 } : Room) s m #[(.ref a1), (.int f0), (.int t0)] below meth c T locs cells slots → (meth.sig.returnType = none → v = none) → (∀ fs, (∀ (f : JFrame) (acts : List Action), f.method = m → f.locked = none → f.entered = [] → (doReturn e (T.setTop f) acts v).1 = T.setFrames fs) → Steps p.tables e below (T.setTop g) (T.setFrames fs)) → (Q_rmDIL Z a1 a2 f0 t0 k2 c0 c1 c2 c3 sf h0 n0 zc k9) v T.heap locs → cells ≤ ({ frames := 4, cells := 0, slots := 0, locals := 53 } : Room).cells → slots ≤ ({ frames := 4, cells := 0, slots := 0, locals := 53 } : Room).slots → G T g := by subst hG; exact fun X h1 h2 h3 h4 h5 => own_out X hlk h1 h2 h3 h4 h5
  show OwnG p e below s ({ frames := 4, cells := 0, slots := 0, locals := 53 } : Room).cells ({ frames := 4, cells := 0, slots := 0, locals := 53 } : Room).slots (Q_rmDIL Z a1 a2 f0 t0 k2 c0 c1 c2 c3 sf h0 n0 zc k9) s₁ (entryFrame m #[(.ref a1), (.int f0), (.int t0)] 6)
  rw [← hG, ef_rmDIL m a1 f0 t0]
  clear hG
  show G s₁ (mkF m 0 #[.val (.ref a1), .val (.int f0), .val (.int t0), .unset, .unset, .unset] [])
  refine gb (fun _ k => XS.iloadN X0.here hx rfl (hb hby d7_0) rfl (XS.iloadN X0.here hx rfl (hb hby d7_1) rfl k)) ?_
  show G s₁ (mkF m 2 #[rv a1, iv f0, iv t0, .unset, .unset, .unset] [.int t0, .int f0])
  by_cases hc2 : f0 < t0
  · skip
    refine gb (fun _ k => XS.icmpNo X0.here hx rfl (hb hby d7_2) rfl (tlt hc2).2.1 (XS.iconst X0.here hx rfl (hb hby d7_5) (XS.goto X0.here hx rfl (pc0 := 6) (pc' := 10) rfl (hb hby d7_6) (by decide) (by decide) (XS.istoreN X0.here hx rfl (hb hby d7_10) rfl (l' := #[rv a1, iv f0, iv t0, iv 1, .unset, .unset]) rfl (XS.iloadN X0.here hx rfl (hb hby d7_11) rfl (XS.istore X0.here hx rfl (hb hby d7_12) rfl (l' := #[rv a1, iv f0, iv t0, iv 1, iv f0, .unset]) rfl k)))))) ?_
    show G s₁ (mkF m 14 #[rv a1, iv f0, iv t0, iv 1, iv f0, .unset] [])
    have Z14 : ∀ (Tq : State) (Xq : Stand p l e ({ frames := 4, cells := 0, slots := 0, locals := 53 } : Room) s m #[(.ref a1), (.int f0), (.int t0)] below meth c Tq [] 0 0) (eq_ : Tq.heap = h0) (x : Int32) (s5 : Slot), ¬ own_all c0 c1 c2 c3 f0 t0 → G Tq (mkF m 14 #[rv a1, iv f0, iv t0, iv 0, iv x, s5] []) := by
      intro Tq Xq eq_ x s5 hno
      show G Tq (mkF m 14 #[rv a1, iv f0, iv t0, iv 0, iv x, s5] [])
      refine gb (fun _ k => XS.iload Xq.here hx rfl (hb hby d7_14) rfl (XS.iloadN Xq.here hx rfl (hb hby d7_16) rfl k)) ?_
      show G Tq (mkF m 17 #[rv a1, iv f0, iv t0, iv 0, iv x, s5] [.int t0, .int x])
      by_cases hc17 : x < t0
      · skip
        refine gb (fun _ k => XS.icmpNo Xq.here hx rfl (hb hby d7_17) rfl (tlt hc17).2.1 (XS.iloadN Xq.here hx rfl (hb hby d7_20) rfl (XS.ifYes Xq.here hx rfl (pc0 := 21) (pc' := 58) rfl (hb hby d7_21) rfl ((if0 _ _).trans (teq (by decide : (0 : Int32) = (0 : Int32))).1) (by decide) (by decide) (XS.iloadN Xq.here hx rfl (hb hby d7_58) rfl k)))) ?_
        show G Tq (mkF m 59 #[rv a1, iv f0, iv t0, iv 0, iv x, s5] [.int 0])
        exact go Xq (v := (some (.int (0 : Int32)))) (fun h => by rw [Bd.returns] at h; cases h) (fun fs hr => retOut Xq hx Bd.returns rfl (Or.inl ⟨rfl, by simp, _, rfl⟩) (hb hby d7_59) hr) (⟨by rw [← hk9, if_neg hno], rfl, eq_⟩) (by decide) (by decide)
      · skip
        refine gb (fun _ k => XS.icmpYes Xq.here hx rfl (pc0 := 17) (pc' := 58) rfl (hb hby d7_17) rfl (flt hc17).2.1 (by decide) (by decide) (XS.iloadN Xq.here hx rfl (hb hby d7_58) rfl k)) ?_
        show G Tq (mkF m 59 #[rv a1, iv f0, iv t0, iv 0, iv x, s5] [.int 0])
        exact go Xq (v := (some (.int (0 : Int32)))) (fun h => by rw [Bd.returns] at h; cases h) (fun fs hr => retOut Xq hx Bd.returns rfl (Or.inl ⟨rfl, by simp, _, rfl⟩) (hb hby d7_59) hr) (⟨by rw [← hk9, if_neg hno], rfl, eq_⟩) (by decide) (by decide)
    have L14 : ∀ (k i : Nat) (Tq : State) (Xq : Stand p l e ({ frames := 4, cells := 0, slots := 0, locals := 53 } : Room) s m #[(.ref a1), (.int f0), (.int t0)] below meth c Tq [] 0 0) (eq_ : Tq.heap = h0) (s5 : Slot), (s5 = .unset ∨ ∃ x : Int32, s5 = iv x) → i + k = t0.toNatClampNeg → f0.toNatClampNeg ≤ i → (∀ j, f0.toNatClampNeg ≤ j → j < i → own_dg (own_an c0 c1 c2 c3 j)) → G Tq (mkF m 14 #[rv a1, iv f0, iv t0, iv 1, iv (Int32.ofNat i), s5] []) := by
      intro k
      induction k with
      | zero =>
        intro i Tq Xq eq_ s5 hs5 hi hfi hp
        have hT := own_toN ht.1
        have hlt := own_ltN (i := i) ht (by omega)
        show G Tq (mkF m 14 #[rv a1, iv f0, iv t0, iv 1, iv (Int32.ofNat i), s5] [])
        refine gb (fun _ k => XS.iload Xq.here hx rfl (hb hby d7_14) rfl (XS.iloadN Xq.here hx rfl (hb hby d7_16) rfl (XS.icmpYes Xq.here hx rfl (pc0 := 17) (pc' := 58) rfl (hb hby d7_17) rfl (flt (fun q => absurd (hlt.mp q) (by omega))).2.1 (by decide) (by decide) (XS.iloadN Xq.here hx rfl (hb hby d7_58) rfl k)))) ?_
        show G Tq (mkF m 59 #[rv a1, iv f0, iv t0, iv 1, iv (Int32.ofNat i), s5] [.int 1])
        exact go Xq (v := (some (.int (1 : Int32)))) (fun h => by rw [Bd.returns] at h; cases h) (fun fs hr => retOut Xq hx Bd.returns rfl (Or.inl ⟨rfl, by simp, _, rfl⟩) (hb hby d7_59) hr) (⟨by rw [← hk9, if_pos ⟨hc2, fun j j1 j2 => hp j j1 (by omega)⟩], rfl, eq_⟩) (by decide) (by decide)
      | succ k ih =>
        intro i Tq Xq eq_ s5 hs5 hi hfi hp
        have hT := own_toN ht.1
        have hlt := own_ltN (i := i) ht (by omega)
        have hi4 : i < 4 := by omega
        rcases hs5 with rfl | ⟨x5, rfl⟩
        · skip
          show G Tq (mkF m 14 #[rv a1, iv f0, iv t0, iv 1, iv (Int32.ofNat i), .unset] [])
          refine gb (fun _ k => XS.iload Xq.here hx rfl (hb hby d7_14) rfl (XS.iloadN Xq.here hx rfl (hb hby d7_16) rfl (XS.icmpNo Xq.here hx rfl (hb hby d7_17) rfl (tlt (hlt.mpr (by omega))).2.1 (XS.iloadN Xq.here hx rfl (hb hby d7_20) rfl (XS.ifNo Xq.here hx rfl (hb hby d7_21) rfl ((if0 _ _).trans (feq (by decide : ¬ ((1 : Int32) = (0 : Int32)))).1) (XS.aloadN Xq.here hx rfl (hb hby d7_24) rfl rfl k)))))) ?_
          show G Tq (mkF m 25 #[rv a1, iv f0, iv t0, iv 1, iv (Int32.ofNat i), .unset] [.ref a1])
          refine gb (fun _ k => XS.iload Xq.here hx rfl (hb hby d7_25) rfl k) ?_
          show G Tq (mkF m 27 #[rv a1, iv f0, iv t0, iv 1, iv (Int32.ofNat i), .unset] [.int (Int32.ofNat i), .ref a1])
          obtain ⟨cq1, kq1, q1a, q1b, q1c⟩ := isOf hZ eq_ E_a1
          obtain ⟨_, _, ⟨T1, Lz1, kz1, nz1⟩, -, X1, ⟨Lc1, hQ1, lq1, yq1, zq1⟩, st1⟩ := Xq.virtualBack hx (y := (⟨"java/lang/String", "charAt", "(I)C"⟩ : MethodName)) (z := (⟨"java/lang/String", "charAt", "(I)C"⟩ : MethodName)) hown (mvT hZ (ow hw 62 rfl)) (mvT hZ (ow hw 63 rfl)) (notFace_of_selects (args := #[]) (mvT hZ (ow hw 65 rfl))) (mvT hZ (ow hw 65 rfl)) (mvT hZ (ow hw 64 rfl)) (by decide) (backOf (W := 0) (rmCAL l Z a0 hw [] i hi4 a1 a2 k2 c0 c1 c2 c3 sf hr_sf S_sf S_ad S_hi S_lo h0 n0 O zc S_cs hzc E_a1 F_c1 F_v1 V_a2 hg0 hg1 hg2 hg3 hb0 hb1 hb2 hb3) hZ (ow hw 66 rfl) (ow hw 4 rfl) (by decide) (by decide)) q1a q1c (g := (mkF m 27 #[rv a1, iv f0, iv t0, iv 1, iv (Int32.ofNat i), .unset] [.int (Int32.ofNat i), .ref a1])) rfl (by rw [hml]; rfl) (Steps.refl _) (argsL := [(.int (Int32.ofNat i))]) (rest := []) (lenOf pd_13 rfl) rfl (by show 2 * 0 + _ ≤ _; exact Nat.le_of_eq rfl) (hb hby d7_27) (fun _ _ => ⟨rfl, eq_, (by decide : 0 + 0 ≤ _), (by decide : 0 + 0 ≤ _)⟩)
          dsimp only [Pt.U, Pt.locs, Pt.cells, Pt.slots] at X1 lq1 yq1 zq1 st1 hQ1
          subst lq1 yq1 zq1
          obtain ⟨rfl, rfl, e1⟩ := hQ1
          try rw [List.append_nil] at X1
          refine gb (fun _ k => st1.trans k) ?_
          show G T1 (mkF m 30 #[rv a1, iv f0, iv t0, iv 1, iv (Int32.ofNat i), .unset] [.int (own_an c0 c1 c2 c3 i)])
          refine gb (fun _ k => XS.istore X1.here hx rfl (hb hby d7_30) rfl (l' := #[rv a1, iv f0, iv t0, iv 1, iv (Int32.ofNat i), iv (own_an c0 c1 c2 c3 i)]) rfl (XS.iload X1.here hx rfl (hb hby d7_32) rfl (XS.bipush X1.here hx rfl (hb hby d7_34) k))) ?_
          show G T1 (mkF m 36 #[rv a1, iv f0, iv t0, iv 1, iv (Int32.ofNat i), iv (own_an c0 c1 c2 c3 i)] [.int 48, .int (own_an c0 c1 c2 c3 i)])
          by_cases hc36 : (own_an c0 c1 c2 c3 i) < (48 : Int32)
          · skip
            refine gb (fun _ k => XS.icmpYes X1.here hx rfl (pc0 := 36) (pc' := 50) rfl (hb hby d7_36) rfl (tlt hc36).1 (by decide) (by decide) (XS.iconst X1.here hx rfl (hb hby d7_50) (XS.istoreN X1.here hx rfl (hb hby d7_51) rfl (l' := #[rv a1, iv f0, iv t0, iv 0, iv (Int32.ofNat i), iv (own_an c0 c1 c2 c3 i)]) rfl (XS.iinc X1.here hx rfl (hb hby d7_52) rfl (l' := #[rv a1, iv f0, iv t0, iv 0, iv ((Int32.ofNat i) + (1 : Int32)), iv (own_an c0 c1 c2 c3 i)]) rfl k)))) ?_
            show G T1 (mkF m 55 #[rv a1, iv f0, iv t0, iv 0, iv ((Int32.ofNat i) + (1 : Int32)), iv (own_an c0 c1 c2 c3 i)] [])
            rw [own_succ32]
            show G T1 (mkF m 55 #[rv a1, iv f0, iv t0, iv 0, iv (Int32.ofNat (i + 1)), iv (own_an c0 c1 c2 c3 i)] [])
            refine gb (fun _ k => XS.goto X1.here hx rfl (pc0 := 55) (pc' := 14) rfl (hb hby d7_55) (by decide) (by decide) k) ?_
            show G T1 (mkF m 14 #[rv a1, iv f0, iv t0, iv 0, iv (Int32.ofNat (i + 1)), iv (own_an c0 c1 c2 c3 i)] [])
            exact Z14 _ X1 e1 _ _ (fun q => (q.2 i (by omega) (by omega)).1 hc36)
          · skip
            refine gb (fun _ k => XS.icmpNo X1.here hx rfl (hb hby d7_36) rfl (flt hc36).1 (XS.iload X1.here hx rfl (hb hby d7_39) rfl (XS.bipush X1.here hx rfl (hb hby d7_41) k))) ?_
            show G T1 (mkF m 43 #[rv a1, iv f0, iv t0, iv 1, iv (Int32.ofNat i), iv (own_an c0 c1 c2 c3 i)] [.int 57, .int (own_an c0 c1 c2 c3 i)])
            by_cases hc43 : (57 : Int32) < (own_an c0 c1 c2 c3 i)
            · skip
              refine gb (fun _ k => XS.icmpYes X1.here hx rfl (pc0 := 43) (pc' := 50) rfl (hb hby d7_43) rfl (tlt hc43).2.2.1 (by decide) (by decide) (XS.iconst X1.here hx rfl (hb hby d7_50) (XS.istoreN X1.here hx rfl (hb hby d7_51) rfl (l' := #[rv a1, iv f0, iv t0, iv 0, iv (Int32.ofNat i), iv (own_an c0 c1 c2 c3 i)]) rfl (XS.iinc X1.here hx rfl (hb hby d7_52) rfl (l' := #[rv a1, iv f0, iv t0, iv 0, iv ((Int32.ofNat i) + (1 : Int32)), iv (own_an c0 c1 c2 c3 i)]) rfl k)))) ?_
              show G T1 (mkF m 55 #[rv a1, iv f0, iv t0, iv 0, iv ((Int32.ofNat i) + (1 : Int32)), iv (own_an c0 c1 c2 c3 i)] [])
              rw [own_succ32]
              show G T1 (mkF m 55 #[rv a1, iv f0, iv t0, iv 0, iv (Int32.ofNat (i + 1)), iv (own_an c0 c1 c2 c3 i)] [])
              refine gb (fun _ k => XS.goto X1.here hx rfl (pc0 := 55) (pc' := 14) rfl (hb hby d7_55) (by decide) (by decide) k) ?_
              show G T1 (mkF m 14 #[rv a1, iv f0, iv t0, iv 0, iv (Int32.ofNat (i + 1)), iv (own_an c0 c1 c2 c3 i)] [])
              exact Z14 _ X1 e1 _ _ (fun q => (q.2 i (by omega) (by omega)).2 hc43)
            · skip
              refine gb (fun _ k => XS.icmpNo X1.here hx rfl (hb hby d7_43) rfl (flt hc43).2.2.1 (XS.iconst X1.here hx rfl (hb hby d7_46) (XS.goto X1.here hx rfl (pc0 := 47) (pc' := 51) rfl (hb hby d7_47) (by decide) (by decide) (XS.istoreN X1.here hx rfl (hb hby d7_51) rfl (l' := #[rv a1, iv f0, iv t0, iv 1, iv (Int32.ofNat i), iv (own_an c0 c1 c2 c3 i)]) rfl (XS.iinc X1.here hx rfl (hb hby d7_52) rfl (l' := #[rv a1, iv f0, iv t0, iv 1, iv ((Int32.ofNat i) + (1 : Int32)), iv (own_an c0 c1 c2 c3 i)]) rfl k))))) ?_
              show G T1 (mkF m 55 #[rv a1, iv f0, iv t0, iv 1, iv ((Int32.ofNat i) + (1 : Int32)), iv (own_an c0 c1 c2 c3 i)] [])
              rw [own_succ32]
              show G T1 (mkF m 55 #[rv a1, iv f0, iv t0, iv 1, iv (Int32.ofNat (i + 1)), iv (own_an c0 c1 c2 c3 i)] [])
              refine gb (fun _ k => XS.goto X1.here hx rfl (pc0 := 55) (pc' := 14) rfl (hb hby d7_55) (by decide) (by decide) k) ?_
              show G T1 (mkF m 14 #[rv a1, iv f0, iv t0, iv 1, iv (Int32.ofNat (i + 1)), iv (own_an c0 c1 c2 c3 i)] [])
              exact ih (i + 1) _ X1 e1 _ (Or.inr ⟨_, rfl⟩) (by omega) (by omega) (fun j j1 j2 => by rcases Nat.lt_succ_iff_lt_or_eq.mp j2 with q | q; exact hp j j1 q; rw [q]; exact ⟨hc36, hc43⟩)
        · skip
          show G Tq (mkF m 14 #[rv a1, iv f0, iv t0, iv 1, iv (Int32.ofNat i), iv x5] [])
          refine gb (fun _ k => XS.iload Xq.here hx rfl (hb hby d7_14) rfl (XS.iloadN Xq.here hx rfl (hb hby d7_16) rfl (XS.icmpNo Xq.here hx rfl (hb hby d7_17) rfl (tlt (hlt.mpr (by omega))).2.1 (XS.iloadN Xq.here hx rfl (hb hby d7_20) rfl (XS.ifNo Xq.here hx rfl (hb hby d7_21) rfl ((if0 _ _).trans (feq (by decide : ¬ ((1 : Int32) = (0 : Int32)))).1) (XS.aloadN Xq.here hx rfl (hb hby d7_24) rfl rfl k)))))) ?_
          show G Tq (mkF m 25 #[rv a1, iv f0, iv t0, iv 1, iv (Int32.ofNat i), iv x5] [.ref a1])
          refine gb (fun _ k => XS.iload Xq.here hx rfl (hb hby d7_25) rfl k) ?_
          show G Tq (mkF m 27 #[rv a1, iv f0, iv t0, iv 1, iv (Int32.ofNat i), iv x5] [.int (Int32.ofNat i), .ref a1])
          obtain ⟨cq2, kq2, q2a, q2b, q2c⟩ := isOf hZ eq_ E_a1
          obtain ⟨_, _, ⟨T2, Lz2, kz2, nz2⟩, -, X2, ⟨Lc2, hQ2, lq2, yq2, zq2⟩, st2⟩ := Xq.virtualBack hx (y := (⟨"java/lang/String", "charAt", "(I)C"⟩ : MethodName)) (z := (⟨"java/lang/String", "charAt", "(I)C"⟩ : MethodName)) hown (mvT hZ (ow hw 62 rfl)) (mvT hZ (ow hw 63 rfl)) (notFace_of_selects (args := #[]) (mvT hZ (ow hw 65 rfl))) (mvT hZ (ow hw 65 rfl)) (mvT hZ (ow hw 64 rfl)) (by decide) (backOf (W := 0) (rmCAL l Z a0 hw [] i hi4 a1 a2 k2 c0 c1 c2 c3 sf hr_sf S_sf S_ad S_hi S_lo h0 n0 O zc S_cs hzc E_a1 F_c1 F_v1 V_a2 hg0 hg1 hg2 hg3 hb0 hb1 hb2 hb3) hZ (ow hw 66 rfl) (ow hw 4 rfl) (by decide) (by decide)) q2a q2c (g := (mkF m 27 #[rv a1, iv f0, iv t0, iv 1, iv (Int32.ofNat i), iv x5] [.int (Int32.ofNat i), .ref a1])) rfl (by rw [hml]; rfl) (Steps.refl _) (argsL := [(.int (Int32.ofNat i))]) (rest := []) (lenOf pd_13 rfl) rfl (by show 2 * 0 + _ ≤ _; exact Nat.le_of_eq rfl) (hb hby d7_27) (fun _ _ => ⟨rfl, eq_, (by decide : 0 + 0 ≤ _), (by decide : 0 + 0 ≤ _)⟩)
          dsimp only [Pt.U, Pt.locs, Pt.cells, Pt.slots] at X2 lq2 yq2 zq2 st2 hQ2
          subst lq2 yq2 zq2
          obtain ⟨rfl, rfl, e2⟩ := hQ2
          try rw [List.append_nil] at X2
          refine gb (fun _ k => st2.trans k) ?_
          show G T2 (mkF m 30 #[rv a1, iv f0, iv t0, iv 1, iv (Int32.ofNat i), iv x5] [.int (own_an c0 c1 c2 c3 i)])
          refine gb (fun _ k => XS.istore X2.here hx rfl (hb hby d7_30) rfl (l' := #[rv a1, iv f0, iv t0, iv 1, iv (Int32.ofNat i), iv (own_an c0 c1 c2 c3 i)]) rfl (XS.iload X2.here hx rfl (hb hby d7_32) rfl (XS.bipush X2.here hx rfl (hb hby d7_34) k))) ?_
          show G T2 (mkF m 36 #[rv a1, iv f0, iv t0, iv 1, iv (Int32.ofNat i), iv (own_an c0 c1 c2 c3 i)] [.int 48, .int (own_an c0 c1 c2 c3 i)])
          by_cases hc36 : (own_an c0 c1 c2 c3 i) < (48 : Int32)
          · skip
            refine gb (fun _ k => XS.icmpYes X2.here hx rfl (pc0 := 36) (pc' := 50) rfl (hb hby d7_36) rfl (tlt hc36).1 (by decide) (by decide) (XS.iconst X2.here hx rfl (hb hby d7_50) (XS.istoreN X2.here hx rfl (hb hby d7_51) rfl (l' := #[rv a1, iv f0, iv t0, iv 0, iv (Int32.ofNat i), iv (own_an c0 c1 c2 c3 i)]) rfl (XS.iinc X2.here hx rfl (hb hby d7_52) rfl (l' := #[rv a1, iv f0, iv t0, iv 0, iv ((Int32.ofNat i) + (1 : Int32)), iv (own_an c0 c1 c2 c3 i)]) rfl k)))) ?_
            show G T2 (mkF m 55 #[rv a1, iv f0, iv t0, iv 0, iv ((Int32.ofNat i) + (1 : Int32)), iv (own_an c0 c1 c2 c3 i)] [])
            rw [own_succ32]
            show G T2 (mkF m 55 #[rv a1, iv f0, iv t0, iv 0, iv (Int32.ofNat (i + 1)), iv (own_an c0 c1 c2 c3 i)] [])
            refine gb (fun _ k => XS.goto X2.here hx rfl (pc0 := 55) (pc' := 14) rfl (hb hby d7_55) (by decide) (by decide) k) ?_
            show G T2 (mkF m 14 #[rv a1, iv f0, iv t0, iv 0, iv (Int32.ofNat (i + 1)), iv (own_an c0 c1 c2 c3 i)] [])
            exact Z14 _ X2 e2 _ _ (fun q => (q.2 i (by omega) (by omega)).1 hc36)
          · skip
            refine gb (fun _ k => XS.icmpNo X2.here hx rfl (hb hby d7_36) rfl (flt hc36).1 (XS.iload X2.here hx rfl (hb hby d7_39) rfl (XS.bipush X2.here hx rfl (hb hby d7_41) k))) ?_
            show G T2 (mkF m 43 #[rv a1, iv f0, iv t0, iv 1, iv (Int32.ofNat i), iv (own_an c0 c1 c2 c3 i)] [.int 57, .int (own_an c0 c1 c2 c3 i)])
            by_cases hc43 : (57 : Int32) < (own_an c0 c1 c2 c3 i)
            · skip
              refine gb (fun _ k => XS.icmpYes X2.here hx rfl (pc0 := 43) (pc' := 50) rfl (hb hby d7_43) rfl (tlt hc43).2.2.1 (by decide) (by decide) (XS.iconst X2.here hx rfl (hb hby d7_50) (XS.istoreN X2.here hx rfl (hb hby d7_51) rfl (l' := #[rv a1, iv f0, iv t0, iv 0, iv (Int32.ofNat i), iv (own_an c0 c1 c2 c3 i)]) rfl (XS.iinc X2.here hx rfl (hb hby d7_52) rfl (l' := #[rv a1, iv f0, iv t0, iv 0, iv ((Int32.ofNat i) + (1 : Int32)), iv (own_an c0 c1 c2 c3 i)]) rfl k)))) ?_
              show G T2 (mkF m 55 #[rv a1, iv f0, iv t0, iv 0, iv ((Int32.ofNat i) + (1 : Int32)), iv (own_an c0 c1 c2 c3 i)] [])
              rw [own_succ32]
              show G T2 (mkF m 55 #[rv a1, iv f0, iv t0, iv 0, iv (Int32.ofNat (i + 1)), iv (own_an c0 c1 c2 c3 i)] [])
              refine gb (fun _ k => XS.goto X2.here hx rfl (pc0 := 55) (pc' := 14) rfl (hb hby d7_55) (by decide) (by decide) k) ?_
              show G T2 (mkF m 14 #[rv a1, iv f0, iv t0, iv 0, iv (Int32.ofNat (i + 1)), iv (own_an c0 c1 c2 c3 i)] [])
              exact Z14 _ X2 e2 _ _ (fun q => (q.2 i (by omega) (by omega)).2 hc43)
            · skip
              refine gb (fun _ k => XS.icmpNo X2.here hx rfl (hb hby d7_43) rfl (flt hc43).2.2.1 (XS.iconst X2.here hx rfl (hb hby d7_46) (XS.goto X2.here hx rfl (pc0 := 47) (pc' := 51) rfl (hb hby d7_47) (by decide) (by decide) (XS.istoreN X2.here hx rfl (hb hby d7_51) rfl (l' := #[rv a1, iv f0, iv t0, iv 1, iv (Int32.ofNat i), iv (own_an c0 c1 c2 c3 i)]) rfl (XS.iinc X2.here hx rfl (hb hby d7_52) rfl (l' := #[rv a1, iv f0, iv t0, iv 1, iv ((Int32.ofNat i) + (1 : Int32)), iv (own_an c0 c1 c2 c3 i)]) rfl k))))) ?_
              show G T2 (mkF m 55 #[rv a1, iv f0, iv t0, iv 1, iv ((Int32.ofNat i) + (1 : Int32)), iv (own_an c0 c1 c2 c3 i)] [])
              rw [own_succ32]
              show G T2 (mkF m 55 #[rv a1, iv f0, iv t0, iv 1, iv (Int32.ofNat (i + 1)), iv (own_an c0 c1 c2 c3 i)] [])
              refine gb (fun _ k => XS.goto X2.here hx rfl (pc0 := 55) (pc' := 14) rfl (hb hby d7_55) (by decide) (by decide) k) ?_
              show G T2 (mkF m 14 #[rv a1, iv f0, iv t0, iv 1, iv (Int32.ofNat (i + 1)), iv (own_an c0 c1 c2 c3 i)] [])
              exact ih (i + 1) _ X2 e2 _ (Or.inr ⟨_, rfl⟩) (by omega) (by omega) (fun j j1 j2 => by rcases Nat.lt_succ_iff_lt_or_eq.mp j2 with q | q; exact hp j j1 q; rw [q]; exact ⟨hc36, hc43⟩)
    have hF := own_toN hf.1
    have hT := own_toN ht.1
    have hft := (Int32.lt_iff_toInt_lt).mp hc2
    have q := L14 (t0.toNatClampNeg - f0.toNatClampNeg) f0.toNatClampNeg _ X0 e0 .unset (Or.inl rfl) (by omega) (Nat.le_refl _) (fun j j1 j2 => absurd j2 (by omega))
    rw [own_ofN hf.1] at q
    exact q
  · skip
    refine gb (fun _ k => XS.icmpYes X0.here hx rfl (pc0 := 2) (pc' := 9) rfl (hb hby d7_2) rfl (flt hc2).2.1 (by decide) (by decide) (XS.iconst X0.here hx rfl (hb hby d7_9) (XS.istoreN X0.here hx rfl (hb hby d7_10) rfl (l' := #[rv a1, iv f0, iv t0, iv 0, .unset, .unset]) rfl (XS.iloadN X0.here hx rfl (hb hby d7_11) rfl (XS.istore X0.here hx rfl (hb hby d7_12) rfl (l' := #[rv a1, iv f0, iv t0, iv 0, iv f0, .unset]) rfl k))))) ?_
    show G s₁ (mkF m 14 #[rv a1, iv f0, iv t0, iv 0, iv f0, .unset] [])
    have Z14 : ∀ (Tq : State) (Xq : Stand p l e ({ frames := 4, cells := 0, slots := 0, locals := 53 } : Room) s m #[(.ref a1), (.int f0), (.int t0)] below meth c Tq [] 0 0) (eq_ : Tq.heap = h0) (x : Int32) (s5 : Slot), ¬ own_all c0 c1 c2 c3 f0 t0 → G Tq (mkF m 14 #[rv a1, iv f0, iv t0, iv 0, iv x, s5] []) := by
      intro Tq Xq eq_ x s5 hno
      show G Tq (mkF m 14 #[rv a1, iv f0, iv t0, iv 0, iv x, s5] [])
      refine gb (fun _ k => XS.iload Xq.here hx rfl (hb hby d7_14) rfl (XS.iloadN Xq.here hx rfl (hb hby d7_16) rfl k)) ?_
      show G Tq (mkF m 17 #[rv a1, iv f0, iv t0, iv 0, iv x, s5] [.int t0, .int x])
      by_cases hc17 : x < t0
      · skip
        refine gb (fun _ k => XS.icmpNo Xq.here hx rfl (hb hby d7_17) rfl (tlt hc17).2.1 (XS.iloadN Xq.here hx rfl (hb hby d7_20) rfl (XS.ifYes Xq.here hx rfl (pc0 := 21) (pc' := 58) rfl (hb hby d7_21) rfl ((if0 _ _).trans (teq (by decide : (0 : Int32) = (0 : Int32))).1) (by decide) (by decide) (XS.iloadN Xq.here hx rfl (hb hby d7_58) rfl k)))) ?_
        show G Tq (mkF m 59 #[rv a1, iv f0, iv t0, iv 0, iv x, s5] [.int 0])
        exact go Xq (v := (some (.int (0 : Int32)))) (fun h => by rw [Bd.returns] at h; cases h) (fun fs hr => retOut Xq hx Bd.returns rfl (Or.inl ⟨rfl, by simp, _, rfl⟩) (hb hby d7_59) hr) (⟨by rw [← hk9, if_neg hno], rfl, eq_⟩) (by decide) (by decide)
      · skip
        refine gb (fun _ k => XS.icmpYes Xq.here hx rfl (pc0 := 17) (pc' := 58) rfl (hb hby d7_17) rfl (flt hc17).2.1 (by decide) (by decide) (XS.iloadN Xq.here hx rfl (hb hby d7_58) rfl k)) ?_
        show G Tq (mkF m 59 #[rv a1, iv f0, iv t0, iv 0, iv x, s5] [.int 0])
        exact go Xq (v := (some (.int (0 : Int32)))) (fun h => by rw [Bd.returns] at h; cases h) (fun fs hr => retOut Xq hx Bd.returns rfl (Or.inl ⟨rfl, by simp, _, rfl⟩) (hb hby d7_59) hr) (⟨by rw [← hk9, if_neg hno], rfl, eq_⟩) (by decide) (by decide)
    exact Z14 _ X0 e0 f0 .unset (fun q => hc2 q.1)
def Q_rmCAU0 (Z : State) (a1 a2 : Addr) (k2 : ClassId) (c0 c1 c2 c3 : Int32) (sf : Value) (h0 : Heap) (n0 : Nat) (zc : Int32) : Option Value → Heap → List Loc → Prop := fun v h L => v = some (.int c0) ∧ L = [] ∧ h = h0
set_option maxRecDepth 65536 in
set_option maxHeartbeats 40000000 in
theorem rmCAU0 (l : Launch) (Z : State) (a0 : Array Value) (hw : ∀ d ∈ tables_1, d.before a0 Z = true) (ws : List Jvm.Cond) (a1 a2 : Addr) (k2 : ClassId) (c0 c1 c2 c3 : Int32) (sf : Value) (hr_sf : sf.isRef = true) (S_sf : Sta Z Z.heap "jdk/internal/util/Preconditions" "SIOOBE_FORMATTER" "Ljava/util/function/BiFunction;" sf) (S_ad : Sta Z Z.heap "java/lang/StringUTF16" "$assertionsDisabled" "Z" (.int (1 : Int32))) (S_hi : Sta Z Z.heap "java/lang/StringUTF16" "HI_BYTE_SHIFT" "I" (.int (0 : Int32))) (S_lo : Sta Z Z.heap "java/lang/StringUTF16" "LO_BYTE_SHIFT" "I" (.int (8 : Int32))) (h0 : Heap) (n0 : Nat) (O : Old Z n0 h0) (zc : Int32) (S_cs : Sta Z Z.heap "java/lang/String" "COMPACT_STRINGS" "Z" (.int zc)) (hzc : ¬ zc = (0 : Int32)) (E_a1 : Exa Z h0 a1 "java/lang/String") (F_c1 : Fld Z h0 a1 "java/lang/String" "coder" "B" (.int (1 : Int32))) (F_v1 : Fld Z h0 a1 "java/lang/String" "value" "[B" (.ref a2)) (V_a2 : Arv Z h0 a2 k2 .byte (8 : Int32) [(.int (nar .byte ((c0 >>> ((0 : Int32) &&& 31)).toInt8.toInt32))), (.int (nar .byte ((c0 >>> ((8 : Int32) &&& 31)).toInt8.toInt32))), (.int (nar .byte ((c1 >>> ((0 : Int32) &&& 31)).toInt8.toInt32))), (.int (nar .byte ((c1 >>> ((8 : Int32) &&& 31)).toInt8.toInt32))), (.int (nar .byte ((c2 >>> ((0 : Int32) &&& 31)).toInt8.toInt32))), (.int (nar .byte ((c2 >>> ((8 : Int32) &&& 31)).toInt8.toInt32))), (.int (nar .byte ((c3 >>> ((0 : Int32) &&& 31)).toInt8.toInt32))), (.int (nar .byte ((c3 >>> ((8 : Int32) &&& 31)).toInt8.toInt32)))] (.int (0 : Int32))) (hg0 : ¬ c0 < (0 : Int32)) (hh0 : ¬ (65535 : Int32) < c0) (hg1 : ¬ c1 < (0 : Int32)) (hh1 : ¬ (65535 : Int32) < c1) (hg2 : ¬ c2 < (0 : Int32)) (hh2 : ¬ (65535 : Int32) < c2) (hg3 : ¬ c3 < (0 : Int32)) (hh3 : ¬ (65535 : Int32) < c3) :
    MetFree l (⟨"java/lang/String", "charAt", "(I)C"⟩ : MethodName) (head1 (Jvm.Cond.code (⟨"java/lang/String", "charAt", "(I)C"⟩ : MethodName) jdk_42_method_56_code 2 (some .char) :: ws) ({ frames := 4, cells := 0, slots := 0, locals := 53 } : Room)) (fun a U => a = #[(.ref a1), (.int (0 : Int32))] ∧ Z.Warmed39 U.vm ∧ U.heap = h0) (fun _ _ _ _ _ => True) (fun _ U o U' => ∃ v L, o = .returned v ∧ (Q_rmCAU0 Z a1 a2 k2 c0 c1 c2 c3 sf h0 n0 zc) v U'.heap L ∧ FrameEnd U o U' L ({ frames := 4, cells := 0, slots := 0, locals := 53 } : Room).cells ({ frames := 4, cells := 0, slots := 0, locals := 53 } : Room).slots) := by
  refine MetFree.of_bodySF (plainFor_of_name pn_1) hisR ?_
  intro p e s m args below meth c s₁ Bd hml0 hP hK
  obtain ⟨rfl, hZ, hh⟩ := hP
  have hx := Bd.exec
  have hby := Bd.bytes
  have hml : c.maxLocals = 2 := hml0
  have hown : s.vm.findClass "java/lang/String" = some m.cls := findClass_of_methodNamed Bd.named
  have hnm := (name_of_methodNamed Bd.named Bd.method).1
  have hlk := BodyLoose.notSynchronized Bd
  have X0 : Stand p l e ({ frames := 4, cells := 0, slots := 0, locals := 53 } : Room) s m #[(.ref a1), (.int (0 : Int32))] below meth c s₁ [] 0 0 := Stand.of_body Bd
  have e0 : s₁.heap = h0 := by rw [← hh, Bd.state]; rfl
  have N := Fr.nil n0
  obtain ⟨G, hG⟩ : ∃ G : State → JFrame → Prop, G = OwnG p e below s ({ frames := 4, cells := 0, slots := 0, locals := 53 } : Room).cells ({ frames := 4, cells := 0, slots := 0, locals := 53 } : Room).slots (Q_rmCAU0 Z a1 a2 k2 c0 c1 c2 c3 sf h0 n0 zc) := ⟨_, rfl⟩
  have gb : ∀ {T T' : State} {g g' : JFrame}, (∀ t, Steps p.tables e below (T'.setTop g') t → Steps p.tables e below (T.setTop g) t) → G T' g' → G T g := by subst hG; exact fun k h => own_by k h
  have go : ∀ {T : State} {locs : List Loc} {cells slots : Nat} {g : JFrame} {v : Option Value}, Stand p l e ({ frames := 4, cells := 0, slots := 0, locals := 53 } : Room) s m #[(.ref a1), (.int (0 : Int32))] below meth c T locs cells slots → (meth.sig.returnType = none → v = none) → (∀ fs, (∀ (f : JFrame) (acts : List Action), f.method = m → f.locked = none → f.entered = [] → (doReturn e (T.setTop f) acts v).1 = T.setFrames fs) → Steps p.tables e below (T.setTop g) (T.setFrames fs)) → (Q_rmCAU0 Z a1 a2 k2 c0 c1 c2 c3 sf h0 n0 zc) v T.heap locs → cells ≤ ({ frames := 4, cells := 0, slots := 0, locals := 53 } : Room).cells → slots ≤ ({ frames := 4, cells := 0, slots := 0, locals := 53 } : Room).slots → G T g := by subst hG; exact fun X h1 h2 h3 h4 h5 => own_out X hlk h1 h2 h3 h4 h5
  show OwnG p e below s ({ frames := 4, cells := 0, slots := 0, locals := 53 } : Room).cells ({ frames := 4, cells := 0, slots := 0, locals := 53 } : Room).slots (Q_rmCAU0 Z a1 a2 k2 c0 c1 c2 c3 sf h0 n0 zc) s₁ (entryFrame m #[(.ref a1), (.int (0 : Int32))] 2)
  rw [← hG, ef_rmCAU0 m a1 (0 : Int32)]
  clear hG
  show G s₁ (mkF m 0 #[.val (.ref a1), .val (.int (0 : Int32))] [])
  refine gb (fun _ k => XS.aloadN X0.here hx rfl (hb hby d15_0) rfl rfl k) ?_
  show G s₁ (mkF m 1 #[rv a1, iv 0] [.ref a1])
  obtain ⟨cq1, kq1, q1a, q1b, q1c⟩ := isOf hZ e0 E_a1
  obtain ⟨_, _, ⟨T1, Lz1, kz1, nz1⟩, -, X1, ⟨Lc1, hQ1, lq1, yq1, zq1⟩, st1⟩ := X0.virtualBack hx (y := (⟨"java/lang/String", "isLatin1", "()Z"⟩ : MethodName)) (z := (⟨"java/lang/String", "isLatin1", "()Z"⟩ : MethodName)) hown (mvT hZ (ow hw 67 rfl)) (mvT hZ (ow hw 68 rfl)) (notFace_of_selects (args := #[]) (mvT hZ (ow hw 70 rfl))) (mvT hZ (ow hw 70 rfl)) (mvT hZ (ow hw 69 rfl)) (by decide) (backOf (W := 0) (rmIL1 l Z a0 hw [] a1 h0 n0 O zc S_cs hzc F_c1) hZ (ow hw 71 rfl) (ow hw 4 rfl) (by decide) (by decide)) q1a q1c (g := (mkF m 1 #[rv a1, iv 0] [.ref a1])) rfl (by rw [hml]; rfl) (Steps.refl _) (argsL := []) (rest := []) (lenOf pd_12 rfl) rfl (by show 2 * 0 + _ ≤ _; exact Nat.le_of_eq rfl) (hb hby d15_1) (fun _ _ => ⟨rfl, e0, (by decide : 0 + 0 ≤ _), (by decide : 0 + 0 ≤ _)⟩)
  dsimp only [Pt.U, Pt.locs, Pt.cells, Pt.slots] at X1 lq1 yq1 zq1 st1 hQ1
  subst lq1 yq1 zq1
  obtain ⟨rfl, rfl, e1⟩ := hQ1
  try rw [List.append_nil] at X1
  refine gb (fun _ k => st1.trans k) ?_
  show G T1 (mkF m 4 #[rv a1, iv 0] [.int 0])
  refine gb (fun _ k => XS.ifYes X1.here hx rfl (pc0 := 4) (pc' := 16) rfl (hb hby d15_4) rfl ((if0 _ _).trans (teq (by decide : (0 : Int32) = (0 : Int32))).1) (by decide) (by decide) (XS.aloadN X1.here hx rfl (hb hby d15_16) rfl rfl k)) ?_
  show G T1 (mkF m 17 #[rv a1, iv 0] [.ref a1])
  obtain ⟨T2, X2, e2, st2⟩ := getF X1 hx hZ hown (host := "") (Or.inl (ow hw 29 rfl)) Via.refl e1 F_v1 (g := (mkF m 17 #[rv a1, iv 0] [.ref a1])) rfl rfl (hb hby d15_17)
  refine gb st2 ?_
  show G T2 (mkF m 20 #[rv a1, iv 0] [.ref a2])
  refine gb (fun _ k => XS.iloadN X2.here hx rfl (hb hby d15_20) rfl k) ?_
  show G T2 (mkF m 21 #[rv a1, iv 0] [.int 0, .ref a2])
  obtain ⟨_, _, ⟨T3, Lz3, kz3, nz3⟩, -, X3, ⟨Lc3, hQ3, lq3, yq3, zq3⟩, st3⟩ := Jvm.LawKit.callS X2 hx (y := (⟨"java/lang/StringUTF16", "charAt", "([BI)C"⟩ : MethodName)) hown (mvT hZ (ow hw 84 rfl)) (mvT hZ (ow hw 85 rfl)) (mvT hZ (ow hw 18 rfl)) (mvT hZ (ow hw 86 rfl)) (by decide) (backOf (W := 0) (rmUC0 l Z a0 hw [] a2 k2 c0 c1 c2 c3 sf hr_sf S_sf S_ad S_hi S_lo h0 n0 O V_a2 hg0 hh0 hg1 hh1 hg2 hh2 hg3 hh3) hZ (ow hw 86 rfl) (ow hw 18 rfl) (by decide) (by decide)) (g := (mkF m 21 #[rv a1, iv 0] [.int 0, .ref a2])) rfl (by rw [hml]; rfl) (argsL := [(.ref a2), (.int (0 : Int32))]) (rest := []) (lenOf pd_7 rfl) rfl (by show 2 * 0 + _ ≤ _; exact Nat.le_of_eq rfl) (hb hby d15_21) (fun _ _ => ⟨rfl, e2, (by decide : 0 + 0 ≤ _), (by decide : 0 + 0 ≤ _)⟩)
  dsimp only [Pt.U, Pt.locs, Pt.cells, Pt.slots] at X3 lq3 yq3 zq3 st3 hQ3
  subst lq3 yq3 zq3
  obtain ⟨rfl, rfl, e3⟩ := hQ3
  try rw [List.append_nil] at X3
  refine gb st3 ?_
  show G T3 (mkF m 24 #[rv a1, iv 0] [.int c0])
  exact go X3 (v := (some (.int c0))) (fun h => by rw [Bd.returns] at h; cases h) (fun fs hr => retOut X3 hx Bd.returns (show narrow .char (.int c0) = .int c0 from congrArg Value.int (own_nc16 hg0 hh0)) (Or.inl ⟨rfl, by simp, _, rfl⟩) (hb hby d15_24) hr) (⟨rfl, rfl, e3⟩) (by decide) (by decide)
def Q_rmCAU1 (Z : State) (a1 a2 : Addr) (k2 : ClassId) (c0 c1 c2 c3 : Int32) (sf : Value) (h0 : Heap) (n0 : Nat) (zc : Int32) : Option Value → Heap → List Loc → Prop := fun v h L => v = some (.int c1) ∧ L = [] ∧ h = h0
set_option maxRecDepth 65536 in
set_option maxHeartbeats 40000000 in
theorem rmCAU1 (l : Launch) (Z : State) (a0 : Array Value) (hw : ∀ d ∈ tables_1, d.before a0 Z = true) (ws : List Jvm.Cond) (a1 a2 : Addr) (k2 : ClassId) (c0 c1 c2 c3 : Int32) (sf : Value) (hr_sf : sf.isRef = true) (S_sf : Sta Z Z.heap "jdk/internal/util/Preconditions" "SIOOBE_FORMATTER" "Ljava/util/function/BiFunction;" sf) (S_ad : Sta Z Z.heap "java/lang/StringUTF16" "$assertionsDisabled" "Z" (.int (1 : Int32))) (S_hi : Sta Z Z.heap "java/lang/StringUTF16" "HI_BYTE_SHIFT" "I" (.int (0 : Int32))) (S_lo : Sta Z Z.heap "java/lang/StringUTF16" "LO_BYTE_SHIFT" "I" (.int (8 : Int32))) (h0 : Heap) (n0 : Nat) (O : Old Z n0 h0) (zc : Int32) (S_cs : Sta Z Z.heap "java/lang/String" "COMPACT_STRINGS" "Z" (.int zc)) (hzc : ¬ zc = (0 : Int32)) (E_a1 : Exa Z h0 a1 "java/lang/String") (F_c1 : Fld Z h0 a1 "java/lang/String" "coder" "B" (.int (1 : Int32))) (F_v1 : Fld Z h0 a1 "java/lang/String" "value" "[B" (.ref a2)) (V_a2 : Arv Z h0 a2 k2 .byte (8 : Int32) [(.int (nar .byte ((c0 >>> ((0 : Int32) &&& 31)).toInt8.toInt32))), (.int (nar .byte ((c0 >>> ((8 : Int32) &&& 31)).toInt8.toInt32))), (.int (nar .byte ((c1 >>> ((0 : Int32) &&& 31)).toInt8.toInt32))), (.int (nar .byte ((c1 >>> ((8 : Int32) &&& 31)).toInt8.toInt32))), (.int (nar .byte ((c2 >>> ((0 : Int32) &&& 31)).toInt8.toInt32))), (.int (nar .byte ((c2 >>> ((8 : Int32) &&& 31)).toInt8.toInt32))), (.int (nar .byte ((c3 >>> ((0 : Int32) &&& 31)).toInt8.toInt32))), (.int (nar .byte ((c3 >>> ((8 : Int32) &&& 31)).toInt8.toInt32)))] (.int (0 : Int32))) (hg0 : ¬ c0 < (0 : Int32)) (hh0 : ¬ (65535 : Int32) < c0) (hg1 : ¬ c1 < (0 : Int32)) (hh1 : ¬ (65535 : Int32) < c1) (hg2 : ¬ c2 < (0 : Int32)) (hh2 : ¬ (65535 : Int32) < c2) (hg3 : ¬ c3 < (0 : Int32)) (hh3 : ¬ (65535 : Int32) < c3) :
    MetFree l (⟨"java/lang/String", "charAt", "(I)C"⟩ : MethodName) (head1 (Jvm.Cond.code (⟨"java/lang/String", "charAt", "(I)C"⟩ : MethodName) jdk_42_method_56_code 2 (some .char) :: ws) ({ frames := 4, cells := 0, slots := 0, locals := 53 } : Room)) (fun a U => a = #[(.ref a1), (.int (1 : Int32))] ∧ Z.Warmed39 U.vm ∧ U.heap = h0) (fun _ _ _ _ _ => True) (fun _ U o U' => ∃ v L, o = .returned v ∧ (Q_rmCAU1 Z a1 a2 k2 c0 c1 c2 c3 sf h0 n0 zc) v U'.heap L ∧ FrameEnd U o U' L ({ frames := 4, cells := 0, slots := 0, locals := 53 } : Room).cells ({ frames := 4, cells := 0, slots := 0, locals := 53 } : Room).slots) := by
  refine MetFree.of_bodySF (plainFor_of_name pn_1) hisR ?_
  intro p e s m args below meth c s₁ Bd hml0 hP hK
  obtain ⟨rfl, hZ, hh⟩ := hP
  have hx := Bd.exec
  have hby := Bd.bytes
  have hml : c.maxLocals = 2 := hml0
  have hown : s.vm.findClass "java/lang/String" = some m.cls := findClass_of_methodNamed Bd.named
  have hnm := (name_of_methodNamed Bd.named Bd.method).1
  have hlk := BodyLoose.notSynchronized Bd
  have X0 : Stand p l e ({ frames := 4, cells := 0, slots := 0, locals := 53 } : Room) s m #[(.ref a1), (.int (1 : Int32))] below meth c s₁ [] 0 0 := Stand.of_body Bd
  have e0 : s₁.heap = h0 := by rw [← hh, Bd.state]; rfl
  have N := Fr.nil n0
  obtain ⟨G, hG⟩ : ∃ G : State → JFrame → Prop, G = OwnG p e below s ({ frames := 4, cells := 0, slots := 0, locals := 53 } : Room).cells ({ frames := 4, cells := 0, slots := 0, locals := 53 } : Room).slots (Q_rmCAU1 Z a1 a2 k2 c0 c1 c2 c3 sf h0 n0 zc) := ⟨_, rfl⟩
  have gb : ∀ {T T' : State} {g g' : JFrame}, (∀ t, Steps p.tables e below (T'.setTop g') t → Steps p.tables e below (T.setTop g) t) → G T' g' → G T g := by subst hG; exact fun k h => own_by k h
  have go : ∀ {T : State} {locs : List Loc} {cells slots : Nat} {g : JFrame} {v : Option Value}, Stand p l e ({ frames := 4, cells := 0, slots := 0, locals := 53 } : Room) s m #[(.ref a1), (.int (1 : Int32))] below meth c T locs cells slots → (meth.sig.returnType = none → v = none) → (∀ fs, (∀ (f : JFrame) (acts : List Action), f.method = m → f.locked = none → f.entered = [] → (doReturn e (T.setTop f) acts v).1 = T.setFrames fs) → Steps p.tables e below (T.setTop g) (T.setFrames fs)) → (Q_rmCAU1 Z a1 a2 k2 c0 c1 c2 c3 sf h0 n0 zc) v T.heap locs → cells ≤ ({ frames := 4, cells := 0, slots := 0, locals := 53 } : Room).cells → slots ≤ ({ frames := 4, cells := 0, slots := 0, locals := 53 } : Room).slots → G T g := by subst hG; exact fun X h1 h2 h3 h4 h5 => own_out X hlk h1 h2 h3 h4 h5
  show OwnG p e below s ({ frames := 4, cells := 0, slots := 0, locals := 53 } : Room).cells ({ frames := 4, cells := 0, slots := 0, locals := 53 } : Room).slots (Q_rmCAU1 Z a1 a2 k2 c0 c1 c2 c3 sf h0 n0 zc) s₁ (entryFrame m #[(.ref a1), (.int (1 : Int32))] 2)
  rw [← hG, ef_rmCAU1 m a1 (1 : Int32)]
  clear hG
  show G s₁ (mkF m 0 #[.val (.ref a1), .val (.int (1 : Int32))] [])
  refine gb (fun _ k => XS.aloadN X0.here hx rfl (hb hby d15_0) rfl rfl k) ?_
  show G s₁ (mkF m 1 #[rv a1, iv 1] [.ref a1])
  obtain ⟨cq1, kq1, q1a, q1b, q1c⟩ := isOf hZ e0 E_a1
  obtain ⟨_, _, ⟨T1, Lz1, kz1, nz1⟩, -, X1, ⟨Lc1, hQ1, lq1, yq1, zq1⟩, st1⟩ := X0.virtualBack hx (y := (⟨"java/lang/String", "isLatin1", "()Z"⟩ : MethodName)) (z := (⟨"java/lang/String", "isLatin1", "()Z"⟩ : MethodName)) hown (mvT hZ (ow hw 67 rfl)) (mvT hZ (ow hw 68 rfl)) (notFace_of_selects (args := #[]) (mvT hZ (ow hw 70 rfl))) (mvT hZ (ow hw 70 rfl)) (mvT hZ (ow hw 69 rfl)) (by decide) (backOf (W := 0) (rmIL1 l Z a0 hw [] a1 h0 n0 O zc S_cs hzc F_c1) hZ (ow hw 71 rfl) (ow hw 4 rfl) (by decide) (by decide)) q1a q1c (g := (mkF m 1 #[rv a1, iv 1] [.ref a1])) rfl (by rw [hml]; rfl) (Steps.refl _) (argsL := []) (rest := []) (lenOf pd_12 rfl) rfl (by show 2 * 0 + _ ≤ _; exact Nat.le_of_eq rfl) (hb hby d15_1) (fun _ _ => ⟨rfl, e0, (by decide : 0 + 0 ≤ _), (by decide : 0 + 0 ≤ _)⟩)
  dsimp only [Pt.U, Pt.locs, Pt.cells, Pt.slots] at X1 lq1 yq1 zq1 st1 hQ1
  subst lq1 yq1 zq1
  obtain ⟨rfl, rfl, e1⟩ := hQ1
  try rw [List.append_nil] at X1
  refine gb (fun _ k => st1.trans k) ?_
  show G T1 (mkF m 4 #[rv a1, iv 1] [.int 0])
  refine gb (fun _ k => XS.ifYes X1.here hx rfl (pc0 := 4) (pc' := 16) rfl (hb hby d15_4) rfl ((if0 _ _).trans (teq (by decide : (0 : Int32) = (0 : Int32))).1) (by decide) (by decide) (XS.aloadN X1.here hx rfl (hb hby d15_16) rfl rfl k)) ?_
  show G T1 (mkF m 17 #[rv a1, iv 1] [.ref a1])
  obtain ⟨T2, X2, e2, st2⟩ := getF X1 hx hZ hown (host := "") (Or.inl (ow hw 29 rfl)) Via.refl e1 F_v1 (g := (mkF m 17 #[rv a1, iv 1] [.ref a1])) rfl rfl (hb hby d15_17)
  refine gb st2 ?_
  show G T2 (mkF m 20 #[rv a1, iv 1] [.ref a2])
  refine gb (fun _ k => XS.iloadN X2.here hx rfl (hb hby d15_20) rfl k) ?_
  show G T2 (mkF m 21 #[rv a1, iv 1] [.int 1, .ref a2])
  obtain ⟨_, _, ⟨T3, Lz3, kz3, nz3⟩, -, X3, ⟨Lc3, hQ3, lq3, yq3, zq3⟩, st3⟩ := Jvm.LawKit.callS X2 hx (y := (⟨"java/lang/StringUTF16", "charAt", "([BI)C"⟩ : MethodName)) hown (mvT hZ (ow hw 84 rfl)) (mvT hZ (ow hw 85 rfl)) (mvT hZ (ow hw 18 rfl)) (mvT hZ (ow hw 86 rfl)) (by decide) (backOf (W := 0) (rmUC1 l Z a0 hw [] a2 k2 c0 c1 c2 c3 sf hr_sf S_sf S_ad S_hi S_lo h0 n0 O V_a2 hg0 hh0 hg1 hh1 hg2 hh2 hg3 hh3) hZ (ow hw 86 rfl) (ow hw 18 rfl) (by decide) (by decide)) (g := (mkF m 21 #[rv a1, iv 1] [.int 1, .ref a2])) rfl (by rw [hml]; rfl) (argsL := [(.ref a2), (.int (1 : Int32))]) (rest := []) (lenOf pd_7 rfl) rfl (by show 2 * 0 + _ ≤ _; exact Nat.le_of_eq rfl) (hb hby d15_21) (fun _ _ => ⟨rfl, e2, (by decide : 0 + 0 ≤ _), (by decide : 0 + 0 ≤ _)⟩)
  dsimp only [Pt.U, Pt.locs, Pt.cells, Pt.slots] at X3 lq3 yq3 zq3 st3 hQ3
  subst lq3 yq3 zq3
  obtain ⟨rfl, rfl, e3⟩ := hQ3
  try rw [List.append_nil] at X3
  refine gb st3 ?_
  show G T3 (mkF m 24 #[rv a1, iv 1] [.int c1])
  exact go X3 (v := (some (.int c1))) (fun h => by rw [Bd.returns] at h; cases h) (fun fs hr => retOut X3 hx Bd.returns (show narrow .char (.int c1) = .int c1 from congrArg Value.int (own_nc16 hg1 hh1)) (Or.inl ⟨rfl, by simp, _, rfl⟩) (hb hby d15_24) hr) (⟨rfl, rfl, e3⟩) (by decide) (by decide)
def Q_rmCAU2 (Z : State) (a1 a2 : Addr) (k2 : ClassId) (c0 c1 c2 c3 : Int32) (sf : Value) (h0 : Heap) (n0 : Nat) (zc : Int32) : Option Value → Heap → List Loc → Prop := fun v h L => v = some (.int c2) ∧ L = [] ∧ h = h0
set_option maxRecDepth 65536 in
set_option maxHeartbeats 40000000 in
theorem rmCAU2 (l : Launch) (Z : State) (a0 : Array Value) (hw : ∀ d ∈ tables_1, d.before a0 Z = true) (ws : List Jvm.Cond) (a1 a2 : Addr) (k2 : ClassId) (c0 c1 c2 c3 : Int32) (sf : Value) (hr_sf : sf.isRef = true) (S_sf : Sta Z Z.heap "jdk/internal/util/Preconditions" "SIOOBE_FORMATTER" "Ljava/util/function/BiFunction;" sf) (S_ad : Sta Z Z.heap "java/lang/StringUTF16" "$assertionsDisabled" "Z" (.int (1 : Int32))) (S_hi : Sta Z Z.heap "java/lang/StringUTF16" "HI_BYTE_SHIFT" "I" (.int (0 : Int32))) (S_lo : Sta Z Z.heap "java/lang/StringUTF16" "LO_BYTE_SHIFT" "I" (.int (8 : Int32))) (h0 : Heap) (n0 : Nat) (O : Old Z n0 h0) (zc : Int32) (S_cs : Sta Z Z.heap "java/lang/String" "COMPACT_STRINGS" "Z" (.int zc)) (hzc : ¬ zc = (0 : Int32)) (E_a1 : Exa Z h0 a1 "java/lang/String") (F_c1 : Fld Z h0 a1 "java/lang/String" "coder" "B" (.int (1 : Int32))) (F_v1 : Fld Z h0 a1 "java/lang/String" "value" "[B" (.ref a2)) (V_a2 : Arv Z h0 a2 k2 .byte (8 : Int32) [(.int (nar .byte ((c0 >>> ((0 : Int32) &&& 31)).toInt8.toInt32))), (.int (nar .byte ((c0 >>> ((8 : Int32) &&& 31)).toInt8.toInt32))), (.int (nar .byte ((c1 >>> ((0 : Int32) &&& 31)).toInt8.toInt32))), (.int (nar .byte ((c1 >>> ((8 : Int32) &&& 31)).toInt8.toInt32))), (.int (nar .byte ((c2 >>> ((0 : Int32) &&& 31)).toInt8.toInt32))), (.int (nar .byte ((c2 >>> ((8 : Int32) &&& 31)).toInt8.toInt32))), (.int (nar .byte ((c3 >>> ((0 : Int32) &&& 31)).toInt8.toInt32))), (.int (nar .byte ((c3 >>> ((8 : Int32) &&& 31)).toInt8.toInt32)))] (.int (0 : Int32))) (hg0 : ¬ c0 < (0 : Int32)) (hh0 : ¬ (65535 : Int32) < c0) (hg1 : ¬ c1 < (0 : Int32)) (hh1 : ¬ (65535 : Int32) < c1) (hg2 : ¬ c2 < (0 : Int32)) (hh2 : ¬ (65535 : Int32) < c2) (hg3 : ¬ c3 < (0 : Int32)) (hh3 : ¬ (65535 : Int32) < c3) :
    MetFree l (⟨"java/lang/String", "charAt", "(I)C"⟩ : MethodName) (head1 (Jvm.Cond.code (⟨"java/lang/String", "charAt", "(I)C"⟩ : MethodName) jdk_42_method_56_code 2 (some .char) :: ws) ({ frames := 4, cells := 0, slots := 0, locals := 53 } : Room)) (fun a U => a = #[(.ref a1), (.int (2 : Int32))] ∧ Z.Warmed39 U.vm ∧ U.heap = h0) (fun _ _ _ _ _ => True) (fun _ U o U' => ∃ v L, o = .returned v ∧ (Q_rmCAU2 Z a1 a2 k2 c0 c1 c2 c3 sf h0 n0 zc) v U'.heap L ∧ FrameEnd U o U' L ({ frames := 4, cells := 0, slots := 0, locals := 53 } : Room).cells ({ frames := 4, cells := 0, slots := 0, locals := 53 } : Room).slots) := by
  refine MetFree.of_bodySF (plainFor_of_name pn_1) hisR ?_
  intro p e s m args below meth c s₁ Bd hml0 hP hK
  obtain ⟨rfl, hZ, hh⟩ := hP
  have hx := Bd.exec
  have hby := Bd.bytes
  have hml : c.maxLocals = 2 := hml0
  have hown : s.vm.findClass "java/lang/String" = some m.cls := findClass_of_methodNamed Bd.named
  have hnm := (name_of_methodNamed Bd.named Bd.method).1
  have hlk := BodyLoose.notSynchronized Bd
  have X0 : Stand p l e ({ frames := 4, cells := 0, slots := 0, locals := 53 } : Room) s m #[(.ref a1), (.int (2 : Int32))] below meth c s₁ [] 0 0 := Stand.of_body Bd
  have e0 : s₁.heap = h0 := by rw [← hh, Bd.state]; rfl
  have N := Fr.nil n0
  obtain ⟨G, hG⟩ : ∃ G : State → JFrame → Prop, G = OwnG p e below s ({ frames := 4, cells := 0, slots := 0, locals := 53 } : Room).cells ({ frames := 4, cells := 0, slots := 0, locals := 53 } : Room).slots (Q_rmCAU2 Z a1 a2 k2 c0 c1 c2 c3 sf h0 n0 zc) := ⟨_, rfl⟩
  have gb : ∀ {T T' : State} {g g' : JFrame}, (∀ t, Steps p.tables e below (T'.setTop g') t → Steps p.tables e below (T.setTop g) t) → G T' g' → G T g := by subst hG; exact fun k h => own_by k h
  have go : ∀ {T : State} {locs : List Loc} {cells slots : Nat} {g : JFrame} {v : Option Value}, Stand p l e ({ frames := 4, cells := 0, slots := 0, locals := 53 } : Room) s m #[(.ref a1), (.int (2 : Int32))] below meth c T locs cells slots → (meth.sig.returnType = none → v = none) → (∀ fs, (∀ (f : JFrame) (acts : List Action), f.method = m → f.locked = none → f.entered = [] → (doReturn e (T.setTop f) acts v).1 = T.setFrames fs) → Steps p.tables e below (T.setTop g) (T.setFrames fs)) → (Q_rmCAU2 Z a1 a2 k2 c0 c1 c2 c3 sf h0 n0 zc) v T.heap locs → cells ≤ ({ frames := 4, cells := 0, slots := 0, locals := 53 } : Room).cells → slots ≤ ({ frames := 4, cells := 0, slots := 0, locals := 53 } : Room).slots → G T g := by subst hG; exact fun X h1 h2 h3 h4 h5 => own_out X hlk h1 h2 h3 h4 h5
  show OwnG p e below s ({ frames := 4, cells := 0, slots := 0, locals := 53 } : Room).cells ({ frames := 4, cells := 0, slots := 0, locals := 53 } : Room).slots (Q_rmCAU2 Z a1 a2 k2 c0 c1 c2 c3 sf h0 n0 zc) s₁ (entryFrame m #[(.ref a1), (.int (2 : Int32))] 2)
  rw [← hG, ef_rmCAU2 m a1 (2 : Int32)]
  clear hG
  show G s₁ (mkF m 0 #[.val (.ref a1), .val (.int (2 : Int32))] [])
  refine gb (fun _ k => XS.aloadN X0.here hx rfl (hb hby d15_0) rfl rfl k) ?_
  show G s₁ (mkF m 1 #[rv a1, iv 2] [.ref a1])
  obtain ⟨cq1, kq1, q1a, q1b, q1c⟩ := isOf hZ e0 E_a1
  obtain ⟨_, _, ⟨T1, Lz1, kz1, nz1⟩, -, X1, ⟨Lc1, hQ1, lq1, yq1, zq1⟩, st1⟩ := X0.virtualBack hx (y := (⟨"java/lang/String", "isLatin1", "()Z"⟩ : MethodName)) (z := (⟨"java/lang/String", "isLatin1", "()Z"⟩ : MethodName)) hown (mvT hZ (ow hw 67 rfl)) (mvT hZ (ow hw 68 rfl)) (notFace_of_selects (args := #[]) (mvT hZ (ow hw 70 rfl))) (mvT hZ (ow hw 70 rfl)) (mvT hZ (ow hw 69 rfl)) (by decide) (backOf (W := 0) (rmIL1 l Z a0 hw [] a1 h0 n0 O zc S_cs hzc F_c1) hZ (ow hw 71 rfl) (ow hw 4 rfl) (by decide) (by decide)) q1a q1c (g := (mkF m 1 #[rv a1, iv 2] [.ref a1])) rfl (by rw [hml]; rfl) (Steps.refl _) (argsL := []) (rest := []) (lenOf pd_12 rfl) rfl (by show 2 * 0 + _ ≤ _; exact Nat.le_of_eq rfl) (hb hby d15_1) (fun _ _ => ⟨rfl, e0, (by decide : 0 + 0 ≤ _), (by decide : 0 + 0 ≤ _)⟩)
  dsimp only [Pt.U, Pt.locs, Pt.cells, Pt.slots] at X1 lq1 yq1 zq1 st1 hQ1
  subst lq1 yq1 zq1
  obtain ⟨rfl, rfl, e1⟩ := hQ1
  try rw [List.append_nil] at X1
  refine gb (fun _ k => st1.trans k) ?_
  show G T1 (mkF m 4 #[rv a1, iv 2] [.int 0])
  refine gb (fun _ k => XS.ifYes X1.here hx rfl (pc0 := 4) (pc' := 16) rfl (hb hby d15_4) rfl ((if0 _ _).trans (teq (by decide : (0 : Int32) = (0 : Int32))).1) (by decide) (by decide) (XS.aloadN X1.here hx rfl (hb hby d15_16) rfl rfl k)) ?_
  show G T1 (mkF m 17 #[rv a1, iv 2] [.ref a1])
  obtain ⟨T2, X2, e2, st2⟩ := getF X1 hx hZ hown (host := "") (Or.inl (ow hw 29 rfl)) Via.refl e1 F_v1 (g := (mkF m 17 #[rv a1, iv 2] [.ref a1])) rfl rfl (hb hby d15_17)
  refine gb st2 ?_
  show G T2 (mkF m 20 #[rv a1, iv 2] [.ref a2])
  refine gb (fun _ k => XS.iloadN X2.here hx rfl (hb hby d15_20) rfl k) ?_
  show G T2 (mkF m 21 #[rv a1, iv 2] [.int 2, .ref a2])
  obtain ⟨_, _, ⟨T3, Lz3, kz3, nz3⟩, -, X3, ⟨Lc3, hQ3, lq3, yq3, zq3⟩, st3⟩ := Jvm.LawKit.callS X2 hx (y := (⟨"java/lang/StringUTF16", "charAt", "([BI)C"⟩ : MethodName)) hown (mvT hZ (ow hw 84 rfl)) (mvT hZ (ow hw 85 rfl)) (mvT hZ (ow hw 18 rfl)) (mvT hZ (ow hw 86 rfl)) (by decide) (backOf (W := 0) (rmUC2 l Z a0 hw [] a2 k2 c0 c1 c2 c3 sf hr_sf S_sf S_ad S_hi S_lo h0 n0 O V_a2 hg0 hh0 hg1 hh1 hg2 hh2 hg3 hh3) hZ (ow hw 86 rfl) (ow hw 18 rfl) (by decide) (by decide)) (g := (mkF m 21 #[rv a1, iv 2] [.int 2, .ref a2])) rfl (by rw [hml]; rfl) (argsL := [(.ref a2), (.int (2 : Int32))]) (rest := []) (lenOf pd_7 rfl) rfl (by show 2 * 0 + _ ≤ _; exact Nat.le_of_eq rfl) (hb hby d15_21) (fun _ _ => ⟨rfl, e2, (by decide : 0 + 0 ≤ _), (by decide : 0 + 0 ≤ _)⟩)
  dsimp only [Pt.U, Pt.locs, Pt.cells, Pt.slots] at X3 lq3 yq3 zq3 st3 hQ3
  subst lq3 yq3 zq3
  obtain ⟨rfl, rfl, e3⟩ := hQ3
  try rw [List.append_nil] at X3
  refine gb st3 ?_
  show G T3 (mkF m 24 #[rv a1, iv 2] [.int c2])
  exact go X3 (v := (some (.int c2))) (fun h => by rw [Bd.returns] at h; cases h) (fun fs hr => retOut X3 hx Bd.returns (show narrow .char (.int c2) = .int c2 from congrArg Value.int (own_nc16 hg2 hh2)) (Or.inl ⟨rfl, by simp, _, rfl⟩) (hb hby d15_24) hr) (⟨rfl, rfl, e3⟩) (by decide) (by decide)
def Q_rmCAU3 (Z : State) (a1 a2 : Addr) (k2 : ClassId) (c0 c1 c2 c3 : Int32) (sf : Value) (h0 : Heap) (n0 : Nat) (zc : Int32) : Option Value → Heap → List Loc → Prop := fun v h L => v = some (.int c3) ∧ L = [] ∧ h = h0
set_option maxRecDepth 65536 in
set_option maxHeartbeats 40000000 in
theorem rmCAU3 (l : Launch) (Z : State) (a0 : Array Value) (hw : ∀ d ∈ tables_1, d.before a0 Z = true) (ws : List Jvm.Cond) (a1 a2 : Addr) (k2 : ClassId) (c0 c1 c2 c3 : Int32) (sf : Value) (hr_sf : sf.isRef = true) (S_sf : Sta Z Z.heap "jdk/internal/util/Preconditions" "SIOOBE_FORMATTER" "Ljava/util/function/BiFunction;" sf) (S_ad : Sta Z Z.heap "java/lang/StringUTF16" "$assertionsDisabled" "Z" (.int (1 : Int32))) (S_hi : Sta Z Z.heap "java/lang/StringUTF16" "HI_BYTE_SHIFT" "I" (.int (0 : Int32))) (S_lo : Sta Z Z.heap "java/lang/StringUTF16" "LO_BYTE_SHIFT" "I" (.int (8 : Int32))) (h0 : Heap) (n0 : Nat) (O : Old Z n0 h0) (zc : Int32) (S_cs : Sta Z Z.heap "java/lang/String" "COMPACT_STRINGS" "Z" (.int zc)) (hzc : ¬ zc = (0 : Int32)) (E_a1 : Exa Z h0 a1 "java/lang/String") (F_c1 : Fld Z h0 a1 "java/lang/String" "coder" "B" (.int (1 : Int32))) (F_v1 : Fld Z h0 a1 "java/lang/String" "value" "[B" (.ref a2)) (V_a2 : Arv Z h0 a2 k2 .byte (8 : Int32) [(.int (nar .byte ((c0 >>> ((0 : Int32) &&& 31)).toInt8.toInt32))), (.int (nar .byte ((c0 >>> ((8 : Int32) &&& 31)).toInt8.toInt32))), (.int (nar .byte ((c1 >>> ((0 : Int32) &&& 31)).toInt8.toInt32))), (.int (nar .byte ((c1 >>> ((8 : Int32) &&& 31)).toInt8.toInt32))), (.int (nar .byte ((c2 >>> ((0 : Int32) &&& 31)).toInt8.toInt32))), (.int (nar .byte ((c2 >>> ((8 : Int32) &&& 31)).toInt8.toInt32))), (.int (nar .byte ((c3 >>> ((0 : Int32) &&& 31)).toInt8.toInt32))), (.int (nar .byte ((c3 >>> ((8 : Int32) &&& 31)).toInt8.toInt32)))] (.int (0 : Int32))) (hg0 : ¬ c0 < (0 : Int32)) (hh0 : ¬ (65535 : Int32) < c0) (hg1 : ¬ c1 < (0 : Int32)) (hh1 : ¬ (65535 : Int32) < c1) (hg2 : ¬ c2 < (0 : Int32)) (hh2 : ¬ (65535 : Int32) < c2) (hg3 : ¬ c3 < (0 : Int32)) (hh3 : ¬ (65535 : Int32) < c3) :
    MetFree l (⟨"java/lang/String", "charAt", "(I)C"⟩ : MethodName) (head1 (Jvm.Cond.code (⟨"java/lang/String", "charAt", "(I)C"⟩ : MethodName) jdk_42_method_56_code 2 (some .char) :: ws) ({ frames := 4, cells := 0, slots := 0, locals := 53 } : Room)) (fun a U => a = #[(.ref a1), (.int (3 : Int32))] ∧ Z.Warmed39 U.vm ∧ U.heap = h0) (fun _ _ _ _ _ => True) (fun _ U o U' => ∃ v L, o = .returned v ∧ (Q_rmCAU3 Z a1 a2 k2 c0 c1 c2 c3 sf h0 n0 zc) v U'.heap L ∧ FrameEnd U o U' L ({ frames := 4, cells := 0, slots := 0, locals := 53 } : Room).cells ({ frames := 4, cells := 0, slots := 0, locals := 53 } : Room).slots) := by
  refine MetFree.of_bodySF (plainFor_of_name pn_1) hisR ?_
  intro p e s m args below meth c s₁ Bd hml0 hP hK
  obtain ⟨rfl, hZ, hh⟩ := hP
  have hx := Bd.exec
  have hby := Bd.bytes
  have hml : c.maxLocals = 2 := hml0
  have hown : s.vm.findClass "java/lang/String" = some m.cls := findClass_of_methodNamed Bd.named
  have hnm := (name_of_methodNamed Bd.named Bd.method).1
  have hlk := BodyLoose.notSynchronized Bd
  have X0 : Stand p l e ({ frames := 4, cells := 0, slots := 0, locals := 53 } : Room) s m #[(.ref a1), (.int (3 : Int32))] below meth c s₁ [] 0 0 := Stand.of_body Bd
  have e0 : s₁.heap = h0 := by rw [← hh, Bd.state]; rfl
  have N := Fr.nil n0
  obtain ⟨G, hG⟩ : ∃ G : State → JFrame → Prop, G = OwnG p e below s ({ frames := 4, cells := 0, slots := 0, locals := 53 } : Room).cells ({ frames := 4, cells := 0, slots := 0, locals := 53 } : Room).slots (Q_rmCAU3 Z a1 a2 k2 c0 c1 c2 c3 sf h0 n0 zc) := ⟨_, rfl⟩
  have gb : ∀ {T T' : State} {g g' : JFrame}, (∀ t, Steps p.tables e below (T'.setTop g') t → Steps p.tables e below (T.setTop g) t) → G T' g' → G T g := by subst hG; exact fun k h => own_by k h
  have go : ∀ {T : State} {locs : List Loc} {cells slots : Nat} {g : JFrame} {v : Option Value}, Stand p l e ({ frames := 4, cells := 0, slots := 0, locals := 53 } : Room) s m #[(.ref a1), (.int (3 : Int32))] below meth c T locs cells slots → (meth.sig.returnType = none → v = none) → (∀ fs, (∀ (f : JFrame) (acts : List Action), f.method = m → f.locked = none → f.entered = [] → (doReturn e (T.setTop f) acts v).1 = T.setFrames fs) → Steps p.tables e below (T.setTop g) (T.setFrames fs)) → (Q_rmCAU3 Z a1 a2 k2 c0 c1 c2 c3 sf h0 n0 zc) v T.heap locs → cells ≤ ({ frames := 4, cells := 0, slots := 0, locals := 53 } : Room).cells → slots ≤ ({ frames := 4, cells := 0, slots := 0, locals := 53 } : Room).slots → G T g := by subst hG; exact fun X h1 h2 h3 h4 h5 => own_out X hlk h1 h2 h3 h4 h5
  show OwnG p e below s ({ frames := 4, cells := 0, slots := 0, locals := 53 } : Room).cells ({ frames := 4, cells := 0, slots := 0, locals := 53 } : Room).slots (Q_rmCAU3 Z a1 a2 k2 c0 c1 c2 c3 sf h0 n0 zc) s₁ (entryFrame m #[(.ref a1), (.int (3 : Int32))] 2)
  rw [← hG, ef_rmCAU3 m a1 (3 : Int32)]
  clear hG
  show G s₁ (mkF m 0 #[.val (.ref a1), .val (.int (3 : Int32))] [])
  refine gb (fun _ k => XS.aloadN X0.here hx rfl (hb hby d15_0) rfl rfl k) ?_
  show G s₁ (mkF m 1 #[rv a1, iv 3] [.ref a1])
  obtain ⟨cq1, kq1, q1a, q1b, q1c⟩ := isOf hZ e0 E_a1
  obtain ⟨_, _, ⟨T1, Lz1, kz1, nz1⟩, -, X1, ⟨Lc1, hQ1, lq1, yq1, zq1⟩, st1⟩ := X0.virtualBack hx (y := (⟨"java/lang/String", "isLatin1", "()Z"⟩ : MethodName)) (z := (⟨"java/lang/String", "isLatin1", "()Z"⟩ : MethodName)) hown (mvT hZ (ow hw 67 rfl)) (mvT hZ (ow hw 68 rfl)) (notFace_of_selects (args := #[]) (mvT hZ (ow hw 70 rfl))) (mvT hZ (ow hw 70 rfl)) (mvT hZ (ow hw 69 rfl)) (by decide) (backOf (W := 0) (rmIL1 l Z a0 hw [] a1 h0 n0 O zc S_cs hzc F_c1) hZ (ow hw 71 rfl) (ow hw 4 rfl) (by decide) (by decide)) q1a q1c (g := (mkF m 1 #[rv a1, iv 3] [.ref a1])) rfl (by rw [hml]; rfl) (Steps.refl _) (argsL := []) (rest := []) (lenOf pd_12 rfl) rfl (by show 2 * 0 + _ ≤ _; exact Nat.le_of_eq rfl) (hb hby d15_1) (fun _ _ => ⟨rfl, e0, (by decide : 0 + 0 ≤ _), (by decide : 0 + 0 ≤ _)⟩)
  dsimp only [Pt.U, Pt.locs, Pt.cells, Pt.slots] at X1 lq1 yq1 zq1 st1 hQ1
  subst lq1 yq1 zq1
  obtain ⟨rfl, rfl, e1⟩ := hQ1
  try rw [List.append_nil] at X1
  refine gb (fun _ k => st1.trans k) ?_
  show G T1 (mkF m 4 #[rv a1, iv 3] [.int 0])
  refine gb (fun _ k => XS.ifYes X1.here hx rfl (pc0 := 4) (pc' := 16) rfl (hb hby d15_4) rfl ((if0 _ _).trans (teq (by decide : (0 : Int32) = (0 : Int32))).1) (by decide) (by decide) (XS.aloadN X1.here hx rfl (hb hby d15_16) rfl rfl k)) ?_
  show G T1 (mkF m 17 #[rv a1, iv 3] [.ref a1])
  obtain ⟨T2, X2, e2, st2⟩ := getF X1 hx hZ hown (host := "") (Or.inl (ow hw 29 rfl)) Via.refl e1 F_v1 (g := (mkF m 17 #[rv a1, iv 3] [.ref a1])) rfl rfl (hb hby d15_17)
  refine gb st2 ?_
  show G T2 (mkF m 20 #[rv a1, iv 3] [.ref a2])
  refine gb (fun _ k => XS.iloadN X2.here hx rfl (hb hby d15_20) rfl k) ?_
  show G T2 (mkF m 21 #[rv a1, iv 3] [.int 3, .ref a2])
  obtain ⟨_, _, ⟨T3, Lz3, kz3, nz3⟩, -, X3, ⟨Lc3, hQ3, lq3, yq3, zq3⟩, st3⟩ := Jvm.LawKit.callS X2 hx (y := (⟨"java/lang/StringUTF16", "charAt", "([BI)C"⟩ : MethodName)) hown (mvT hZ (ow hw 84 rfl)) (mvT hZ (ow hw 85 rfl)) (mvT hZ (ow hw 18 rfl)) (mvT hZ (ow hw 86 rfl)) (by decide) (backOf (W := 0) (rmUC3 l Z a0 hw [] a2 k2 c0 c1 c2 c3 sf hr_sf S_sf S_ad S_hi S_lo h0 n0 O V_a2 hg0 hh0 hg1 hh1 hg2 hh2 hg3 hh3) hZ (ow hw 86 rfl) (ow hw 18 rfl) (by decide) (by decide)) (g := (mkF m 21 #[rv a1, iv 3] [.int 3, .ref a2])) rfl (by rw [hml]; rfl) (argsL := [(.ref a2), (.int (3 : Int32))]) (rest := []) (lenOf pd_7 rfl) rfl (by show 2 * 0 + _ ≤ _; exact Nat.le_of_eq rfl) (hb hby d15_21) (fun _ _ => ⟨rfl, e2, (by decide : 0 + 0 ≤ _), (by decide : 0 + 0 ≤ _)⟩)
  dsimp only [Pt.U, Pt.locs, Pt.cells, Pt.slots] at X3 lq3 yq3 zq3 st3 hQ3
  subst lq3 yq3 zq3
  obtain ⟨rfl, rfl, e3⟩ := hQ3
  try rw [List.append_nil] at X3
  refine gb st3 ?_
  show G T3 (mkF m 24 #[rv a1, iv 3] [.int c3])
  exact go X3 (v := (some (.int c3))) (fun h => by rw [Bd.returns] at h; cases h) (fun fs hr => retOut X3 hx Bd.returns (show narrow .char (.int c3) = .int c3 from congrArg Value.int (own_nc16 hg3 hh3)) (Or.inl ⟨rfl, by simp, _, rfl⟩) (hb hby d15_24) hr) (⟨rfl, rfl, e3⟩) (by decide) (by decide)
def Q_rmCAU (c0 c1 c2 c3 : Int32) (i : Nat) (h0 : Heap) : Option Value → Heap → List Loc → Prop := fun v h L => v = some (.int (own_an c0 c1 c2 c3 i)) ∧ L = [] ∧ h = h0
theorem rmCAU (l : Launch) (Z : State) (a0 : Array Value) (hw : ∀ d ∈ tables_1, d.before a0 Z = true) (ws : List Jvm.Cond) (i : Nat) (hi : i < 4) (a1 a2 : Addr) (k2 : ClassId) (c0 c1 c2 c3 : Int32) (sf : Value) (hr_sf : sf.isRef = true) (S_sf : Sta Z Z.heap "jdk/internal/util/Preconditions" "SIOOBE_FORMATTER" "Ljava/util/function/BiFunction;" sf) (S_ad : Sta Z Z.heap "java/lang/StringUTF16" "$assertionsDisabled" "Z" (.int (1 : Int32))) (S_hi : Sta Z Z.heap "java/lang/StringUTF16" "HI_BYTE_SHIFT" "I" (.int (0 : Int32))) (S_lo : Sta Z Z.heap "java/lang/StringUTF16" "LO_BYTE_SHIFT" "I" (.int (8 : Int32))) (h0 : Heap) (n0 : Nat) (O : Old Z n0 h0) (zc : Int32) (S_cs : Sta Z Z.heap "java/lang/String" "COMPACT_STRINGS" "Z" (.int zc)) (hzc : ¬ zc = (0 : Int32)) (E_a1 : Exa Z h0 a1 "java/lang/String") (F_c1 : Fld Z h0 a1 "java/lang/String" "coder" "B" (.int (1 : Int32))) (F_v1 : Fld Z h0 a1 "java/lang/String" "value" "[B" (.ref a2)) (V_a2 : Arv Z h0 a2 k2 .byte (8 : Int32) [(.int (nar .byte ((c0 >>> ((0 : Int32) &&& 31)).toInt8.toInt32))), (.int (nar .byte ((c0 >>> ((8 : Int32) &&& 31)).toInt8.toInt32))), (.int (nar .byte ((c1 >>> ((0 : Int32) &&& 31)).toInt8.toInt32))), (.int (nar .byte ((c1 >>> ((8 : Int32) &&& 31)).toInt8.toInt32))), (.int (nar .byte ((c2 >>> ((0 : Int32) &&& 31)).toInt8.toInt32))), (.int (nar .byte ((c2 >>> ((8 : Int32) &&& 31)).toInt8.toInt32))), (.int (nar .byte ((c3 >>> ((0 : Int32) &&& 31)).toInt8.toInt32))), (.int (nar .byte ((c3 >>> ((8 : Int32) &&& 31)).toInt8.toInt32)))] (.int (0 : Int32))) (hg0 : ¬ c0 < (0 : Int32)) (hh0 : ¬ (65535 : Int32) < c0) (hg1 : ¬ c1 < (0 : Int32)) (hh1 : ¬ (65535 : Int32) < c1) (hg2 : ¬ c2 < (0 : Int32)) (hh2 : ¬ (65535 : Int32) < c2) (hg3 : ¬ c3 < (0 : Int32)) (hh3 : ¬ (65535 : Int32) < c3) :
    MetFree l (⟨"java/lang/String", "charAt", "(I)C"⟩ : MethodName) (head1 (Jvm.Cond.code (⟨"java/lang/String", "charAt", "(I)C"⟩ : MethodName) jdk_42_method_56_code 2 (some .char) :: ws) ({ frames := 4, cells := 0, slots := 0, locals := 53 } : Room)) (fun a U => a = #[.ref a1, .int (Int32.ofNat i)] ∧ Z.Warmed39 U.vm ∧ U.heap = h0) (fun _ _ _ _ _ => True) (fun _ U o U' => ∃ v L, o = .returned v ∧ (Q_rmCAU c0 c1 c2 c3 i h0) v U'.heap L ∧ FrameEnd U o U' L ({ frames := 4, cells := 0, slots := 0, locals := 53 } : Room).cells ({ frames := 4, cells := 0, slots := 0, locals := 53 } : Room).slots) := by
  rcases (by omega : i = 0 ∨ i = 1 ∨ i = 2 ∨ i = 3) with rfl | rfl | rfl | rfl
  · exact rmCAU0 l Z a0 hw ws a1 a2 k2 c0 c1 c2 c3 sf hr_sf S_sf S_ad S_hi S_lo h0 n0 O zc S_cs hzc E_a1 F_c1 F_v1 V_a2 hg0 hh0 hg1 hh1 hg2 hh2 hg3 hh3
  · exact rmCAU1 l Z a0 hw ws a1 a2 k2 c0 c1 c2 c3 sf hr_sf S_sf S_ad S_hi S_lo h0 n0 O zc S_cs hzc E_a1 F_c1 F_v1 V_a2 hg0 hh0 hg1 hh1 hg2 hh2 hg3 hh3
  · exact rmCAU2 l Z a0 hw ws a1 a2 k2 c0 c1 c2 c3 sf hr_sf S_sf S_ad S_hi S_lo h0 n0 O zc S_cs hzc E_a1 F_c1 F_v1 V_a2 hg0 hh0 hg1 hh1 hg2 hh2 hg3 hh3
  · exact rmCAU3 l Z a0 hw ws a1 a2 k2 c0 c1 c2 c3 sf hr_sf S_sf S_ad S_hi S_lo h0 n0 O zc S_cs hzc E_a1 F_c1 F_v1 V_a2 hg0 hh0 hg1 hh1 hg2 hh2 hg3 hh3
def Q_rmDIU (Z : State) (a1 a2 : Addr) (f0 t0 : Int32) (k2 : ClassId) (c0 c1 c2 c3 : Int32) (sf : Value) (h0 : Heap) (n0 : Nat) (zc : Int32) (k9 : Int32) : Option Value → Heap → List Loc → Prop := fun v h L => v = some (.int k9) ∧ L = [] ∧ h = h0
set_option maxRecDepth 65536 in
set_option maxHeartbeats 40000000 in
theorem rmDIU (l : Launch) (Z : State) (a0 : Array Value) (hw : ∀ d ∈ tables_1, d.before a0 Z = true) (ws : List Jvm.Cond) (a1 a2 : Addr) (f0 t0 : Int32) (k2 : ClassId) (c0 c1 c2 c3 : Int32) (sf : Value) (hr_sf : sf.isRef = true) (S_sf : Sta Z Z.heap "jdk/internal/util/Preconditions" "SIOOBE_FORMATTER" "Ljava/util/function/BiFunction;" sf) (S_ad : Sta Z Z.heap "java/lang/StringUTF16" "$assertionsDisabled" "Z" (.int (1 : Int32))) (S_hi : Sta Z Z.heap "java/lang/StringUTF16" "HI_BYTE_SHIFT" "I" (.int (0 : Int32))) (S_lo : Sta Z Z.heap "java/lang/StringUTF16" "LO_BYTE_SHIFT" "I" (.int (8 : Int32))) (h0 : Heap) (n0 : Nat) (O : Old Z n0 h0) (zc : Int32) (S_cs : Sta Z Z.heap "java/lang/String" "COMPACT_STRINGS" "Z" (.int zc)) (hzc : ¬ zc = (0 : Int32)) (E_a1 : Exa Z h0 a1 "java/lang/String") (F_c1 : Fld Z h0 a1 "java/lang/String" "coder" "B" (.int (1 : Int32))) (F_v1 : Fld Z h0 a1 "java/lang/String" "value" "[B" (.ref a2)) (V_a2 : Arv Z h0 a2 k2 .byte (8 : Int32) [(.int (nar .byte ((c0 >>> ((0 : Int32) &&& 31)).toInt8.toInt32))), (.int (nar .byte ((c0 >>> ((8 : Int32) &&& 31)).toInt8.toInt32))), (.int (nar .byte ((c1 >>> ((0 : Int32) &&& 31)).toInt8.toInt32))), (.int (nar .byte ((c1 >>> ((8 : Int32) &&& 31)).toInt8.toInt32))), (.int (nar .byte ((c2 >>> ((0 : Int32) &&& 31)).toInt8.toInt32))), (.int (nar .byte ((c2 >>> ((8 : Int32) &&& 31)).toInt8.toInt32))), (.int (nar .byte ((c3 >>> ((0 : Int32) &&& 31)).toInt8.toInt32))), (.int (nar .byte ((c3 >>> ((8 : Int32) &&& 31)).toInt8.toInt32)))] (.int (0 : Int32))) (hg0 : ¬ c0 < (0 : Int32)) (hh0 : ¬ (65535 : Int32) < c0) (hg1 : ¬ c1 < (0 : Int32)) (hh1 : ¬ (65535 : Int32) < c1) (hg2 : ¬ c2 < (0 : Int32)) (hh2 : ¬ (65535 : Int32) < c2) (hg3 : ¬ c3 < (0 : Int32)) (hh3 : ¬ (65535 : Int32) < c3) (hf : 0 ≤ f0.toInt ∧ f0.toInt ≤ 4) (ht : 0 ≤ t0.toInt ∧ t0.toInt ≤ 4) (dA : Decidable (own_all c0 c1 c2 c3 f0 t0)) (k9 : Int32) (hk9 : (if own_all c0 c1 c2 c3 f0 t0 then (1 : Int32) else (0 : Int32)) = k9) :
    MetFree l (⟨"com/example/vestry/vestry/input/ValueChecks", "digits", "(Ljava/lang/String;II)Z"⟩ : MethodName) (head1 (Jvm.Cond.code (⟨"com/example/vestry/vestry/input/ValueChecks", "digits", "(Ljava/lang/String;II)Z"⟩ : MethodName) prog_53_method_2_code 6 (some .boolean) :: ws) ({ frames := 5, cells := 0, slots := 0, locals := 66 } : Room)) (fun a U => a = #[(.ref a1), (.int f0), (.int t0)] ∧ Z.Warmed39 U.vm ∧ U.heap = h0) (fun _ _ _ _ _ => True) (fun _ U o U' => ∃ v L, o = .returned v ∧ (Q_rmDIU Z a1 a2 f0 t0 k2 c0 c1 c2 c3 sf h0 n0 zc k9) v U'.heap L ∧ FrameEnd U o U' L ({ frames := 5, cells := 0, slots := 0, locals := 66 } : Room).cells ({ frames := 5, cells := 0, slots := 0, locals := 66 } : Room).slots) := by
  refine MetFree.of_bodySF (plainFor_of_name pn_4) hisR ?_
  intro p e s m args below meth c s₁ Bd hml0 hP hK
  obtain ⟨rfl, hZ, hh⟩ := hP
  have hx := Bd.exec
  have hby := Bd.bytes
  have hml : c.maxLocals = 6 := hml0
  have hown : s.vm.findClass "com/example/vestry/vestry/input/ValueChecks" = some m.cls := findClass_of_methodNamed Bd.named
  have hnm := (name_of_methodNamed Bd.named Bd.method).1
  have hlk := BodyLoose.notSynchronized Bd
  have X0 : Stand p l e ({ frames := 5, cells := 0, slots := 0, locals := 66 } : Room) s m #[(.ref a1), (.int f0), (.int t0)] below meth c s₁ [] 0 0 := Stand.of_body Bd
  have e0 : s₁.heap = h0 := by rw [← hh, Bd.state]; rfl
  have N := Fr.nil n0
  obtain ⟨G, hG⟩ : ∃ G : State → JFrame → Prop, G = OwnG p e below s ({ frames := 5, cells := 0, slots := 0, locals := 66 } : Room).cells ({ frames := 5, cells := 0, slots := 0, locals := 66 } : Room).slots (Q_rmDIU Z a1 a2 f0 t0 k2 c0 c1 c2 c3 sf h0 n0 zc k9) := ⟨_, rfl⟩
  have gb : ∀ {T T' : State} {g g' : JFrame}, (∀ t, Steps p.tables e below (T'.setTop g') t → Steps p.tables e below (T.setTop g) t) → G T' g' → G T g := by subst hG; exact fun k h => own_by k h
  have go : ∀ {T : State} {locs : List Loc} {cells slots : Nat} {g : JFrame} {v : Option Value}, Stand p l e ({ frames := 5, cells := 0, slots := 0, locals := 66 } : Room) s m #[(.ref a1), (.int f0), (.int t0)] below meth c T locs cells slots → (meth.sig.returnType = none → v = none) → (∀ fs, (∀ (f : JFrame) (acts : List Action), f.method = m → f.locked = none → f.entered = [] → (doReturn e (T.setTop f) acts v).1 = T.setFrames fs) → Steps p.tables e below (T.setTop g) (T.setFrames fs)) → (Q_rmDIU Z a1 a2 f0 t0 k2 c0 c1 c2 c3 sf h0 n0 zc k9) v T.heap locs → cells ≤ ({ frames := 5, cells := 0, slots := 0, locals := 66 } : Room).cells → slots ≤ ({ frames := 5, cells := 0, slots := 0, locals := 66 } : Room).slots → G T g := by subst hG; exact fun X h1 h2 h3 h4 h5 => own_out X hlk h1 h2 h3 h4 h5
  show OwnG p e below s ({ frames := 5, cells := 0, slots := 0, locals := 66 } : Room).cells ({ frames := 5, cells := 0, slots := 0, locals := 66 } : Room).slots (Q_rmDIU Z a1 a2 f0 t0 k2 c0 c1 c2 c3 sf h0 n0 zc k9) s₁ (entryFrame m #[(.ref a1), (.int f0), (.int t0)] 6)
  rw [← hG, ef_rmDIU m a1 f0 t0]
  clear hG
  show G s₁ (mkF m 0 #[.val (.ref a1), .val (.int f0), .val (.int t0), .unset, .unset, .unset] [])
  refine gb (fun _ k => XS.iloadN X0.here hx rfl (hb hby d7_0) rfl (XS.iloadN X0.here hx rfl (hb hby d7_1) rfl k)) ?_
  show G s₁ (mkF m 2 #[rv a1, iv f0, iv t0, .unset, .unset, .unset] [.int t0, .int f0])
  by_cases hc2 : f0 < t0
  · skip
    refine gb (fun _ k => XS.icmpNo X0.here hx rfl (hb hby d7_2) rfl (tlt hc2).2.1 (XS.iconst X0.here hx rfl (hb hby d7_5) (XS.goto X0.here hx rfl (pc0 := 6) (pc' := 10) rfl (hb hby d7_6) (by decide) (by decide) (XS.istoreN X0.here hx rfl (hb hby d7_10) rfl (l' := #[rv a1, iv f0, iv t0, iv 1, .unset, .unset]) rfl (XS.iloadN X0.here hx rfl (hb hby d7_11) rfl (XS.istore X0.here hx rfl (hb hby d7_12) rfl (l' := #[rv a1, iv f0, iv t0, iv 1, iv f0, .unset]) rfl k)))))) ?_
    show G s₁ (mkF m 14 #[rv a1, iv f0, iv t0, iv 1, iv f0, .unset] [])
    have Z14 : ∀ (Tq : State) (Xq : Stand p l e ({ frames := 5, cells := 0, slots := 0, locals := 66 } : Room) s m #[(.ref a1), (.int f0), (.int t0)] below meth c Tq [] 0 0) (eq_ : Tq.heap = h0) (x : Int32) (s5 : Slot), ¬ own_all c0 c1 c2 c3 f0 t0 → G Tq (mkF m 14 #[rv a1, iv f0, iv t0, iv 0, iv x, s5] []) := by
      intro Tq Xq eq_ x s5 hno
      show G Tq (mkF m 14 #[rv a1, iv f0, iv t0, iv 0, iv x, s5] [])
      refine gb (fun _ k => XS.iload Xq.here hx rfl (hb hby d7_14) rfl (XS.iloadN Xq.here hx rfl (hb hby d7_16) rfl k)) ?_
      show G Tq (mkF m 17 #[rv a1, iv f0, iv t0, iv 0, iv x, s5] [.int t0, .int x])
      by_cases hc17 : x < t0
      · skip
        refine gb (fun _ k => XS.icmpNo Xq.here hx rfl (hb hby d7_17) rfl (tlt hc17).2.1 (XS.iloadN Xq.here hx rfl (hb hby d7_20) rfl (XS.ifYes Xq.here hx rfl (pc0 := 21) (pc' := 58) rfl (hb hby d7_21) rfl ((if0 _ _).trans (teq (by decide : (0 : Int32) = (0 : Int32))).1) (by decide) (by decide) (XS.iloadN Xq.here hx rfl (hb hby d7_58) rfl k)))) ?_
        show G Tq (mkF m 59 #[rv a1, iv f0, iv t0, iv 0, iv x, s5] [.int 0])
        exact go Xq (v := (some (.int (0 : Int32)))) (fun h => by rw [Bd.returns] at h; cases h) (fun fs hr => retOut Xq hx Bd.returns rfl (Or.inl ⟨rfl, by simp, _, rfl⟩) (hb hby d7_59) hr) (⟨by rw [← hk9, if_neg hno], rfl, eq_⟩) (by decide) (by decide)
      · skip
        refine gb (fun _ k => XS.icmpYes Xq.here hx rfl (pc0 := 17) (pc' := 58) rfl (hb hby d7_17) rfl (flt hc17).2.1 (by decide) (by decide) (XS.iloadN Xq.here hx rfl (hb hby d7_58) rfl k)) ?_
        show G Tq (mkF m 59 #[rv a1, iv f0, iv t0, iv 0, iv x, s5] [.int 0])
        exact go Xq (v := (some (.int (0 : Int32)))) (fun h => by rw [Bd.returns] at h; cases h) (fun fs hr => retOut Xq hx Bd.returns rfl (Or.inl ⟨rfl, by simp, _, rfl⟩) (hb hby d7_59) hr) (⟨by rw [← hk9, if_neg hno], rfl, eq_⟩) (by decide) (by decide)
    have L14 : ∀ (k i : Nat) (Tq : State) (Xq : Stand p l e ({ frames := 5, cells := 0, slots := 0, locals := 66 } : Room) s m #[(.ref a1), (.int f0), (.int t0)] below meth c Tq [] 0 0) (eq_ : Tq.heap = h0) (s5 : Slot), (s5 = .unset ∨ ∃ x : Int32, s5 = iv x) → i + k = t0.toNatClampNeg → f0.toNatClampNeg ≤ i → (∀ j, f0.toNatClampNeg ≤ j → j < i → own_dg (own_an c0 c1 c2 c3 j)) → G Tq (mkF m 14 #[rv a1, iv f0, iv t0, iv 1, iv (Int32.ofNat i), s5] []) := by
      intro k
      induction k with
      | zero =>
        intro i Tq Xq eq_ s5 hs5 hi hfi hp
        have hT := own_toN ht.1
        have hlt := own_ltN (i := i) ht (by omega)
        show G Tq (mkF m 14 #[rv a1, iv f0, iv t0, iv 1, iv (Int32.ofNat i), s5] [])
        refine gb (fun _ k => XS.iload Xq.here hx rfl (hb hby d7_14) rfl (XS.iloadN Xq.here hx rfl (hb hby d7_16) rfl (XS.icmpYes Xq.here hx rfl (pc0 := 17) (pc' := 58) rfl (hb hby d7_17) rfl (flt (fun q => absurd (hlt.mp q) (by omega))).2.1 (by decide) (by decide) (XS.iloadN Xq.here hx rfl (hb hby d7_58) rfl k)))) ?_
        show G Tq (mkF m 59 #[rv a1, iv f0, iv t0, iv 1, iv (Int32.ofNat i), s5] [.int 1])
        exact go Xq (v := (some (.int (1 : Int32)))) (fun h => by rw [Bd.returns] at h; cases h) (fun fs hr => retOut Xq hx Bd.returns rfl (Or.inl ⟨rfl, by simp, _, rfl⟩) (hb hby d7_59) hr) (⟨by rw [← hk9, if_pos ⟨hc2, fun j j1 j2 => hp j j1 (by omega)⟩], rfl, eq_⟩) (by decide) (by decide)
      | succ k ih =>
        intro i Tq Xq eq_ s5 hs5 hi hfi hp
        have hT := own_toN ht.1
        have hlt := own_ltN (i := i) ht (by omega)
        have hi4 : i < 4 := by omega
        rcases hs5 with rfl | ⟨x5, rfl⟩
        · skip
          show G Tq (mkF m 14 #[rv a1, iv f0, iv t0, iv 1, iv (Int32.ofNat i), .unset] [])
          refine gb (fun _ k => XS.iload Xq.here hx rfl (hb hby d7_14) rfl (XS.iloadN Xq.here hx rfl (hb hby d7_16) rfl (XS.icmpNo Xq.here hx rfl (hb hby d7_17) rfl (tlt (hlt.mpr (by omega))).2.1 (XS.iloadN Xq.here hx rfl (hb hby d7_20) rfl (XS.ifNo Xq.here hx rfl (hb hby d7_21) rfl ((if0 _ _).trans (feq (by decide : ¬ ((1 : Int32) = (0 : Int32)))).1) (XS.aloadN Xq.here hx rfl (hb hby d7_24) rfl rfl k)))))) ?_
          show G Tq (mkF m 25 #[rv a1, iv f0, iv t0, iv 1, iv (Int32.ofNat i), .unset] [.ref a1])
          refine gb (fun _ k => XS.iload Xq.here hx rfl (hb hby d7_25) rfl k) ?_
          show G Tq (mkF m 27 #[rv a1, iv f0, iv t0, iv 1, iv (Int32.ofNat i), .unset] [.int (Int32.ofNat i), .ref a1])
          obtain ⟨cq1, kq1, q1a, q1b, q1c⟩ := isOf hZ eq_ E_a1
          obtain ⟨_, _, ⟨T1, Lz1, kz1, nz1⟩, -, X1, ⟨Lc1, hQ1, lq1, yq1, zq1⟩, st1⟩ := Xq.virtualBack hx (y := (⟨"java/lang/String", "charAt", "(I)C"⟩ : MethodName)) (z := (⟨"java/lang/String", "charAt", "(I)C"⟩ : MethodName)) hown (mvT hZ (ow hw 62 rfl)) (mvT hZ (ow hw 63 rfl)) (notFace_of_selects (args := #[]) (mvT hZ (ow hw 65 rfl))) (mvT hZ (ow hw 65 rfl)) (mvT hZ (ow hw 64 rfl)) (by decide) (backOf (W := 0) (rmCAU l Z a0 hw [] i hi4 a1 a2 k2 c0 c1 c2 c3 sf hr_sf S_sf S_ad S_hi S_lo h0 n0 O zc S_cs hzc E_a1 F_c1 F_v1 V_a2 hg0 hh0 hg1 hh1 hg2 hh2 hg3 hh3) hZ (ow hw 66 rfl) (ow hw 4 rfl) (by decide) (by decide)) q1a q1c (g := (mkF m 27 #[rv a1, iv f0, iv t0, iv 1, iv (Int32.ofNat i), .unset] [.int (Int32.ofNat i), .ref a1])) rfl (by rw [hml]; rfl) (Steps.refl _) (argsL := [(.int (Int32.ofNat i))]) (rest := []) (lenOf pd_13 rfl) rfl (by show 2 * 0 + _ ≤ _; exact Nat.le_of_eq rfl) (hb hby d7_27) (fun _ _ => ⟨rfl, eq_, (by decide : 0 + 0 ≤ _), (by decide : 0 + 0 ≤ _)⟩)
          dsimp only [Pt.U, Pt.locs, Pt.cells, Pt.slots] at X1 lq1 yq1 zq1 st1 hQ1
          subst lq1 yq1 zq1
          obtain ⟨rfl, rfl, e1⟩ := hQ1
          try rw [List.append_nil] at X1
          refine gb (fun _ k => st1.trans k) ?_
          show G T1 (mkF m 30 #[rv a1, iv f0, iv t0, iv 1, iv (Int32.ofNat i), .unset] [.int (own_an c0 c1 c2 c3 i)])
          refine gb (fun _ k => XS.istore X1.here hx rfl (hb hby d7_30) rfl (l' := #[rv a1, iv f0, iv t0, iv 1, iv (Int32.ofNat i), iv (own_an c0 c1 c2 c3 i)]) rfl (XS.iload X1.here hx rfl (hb hby d7_32) rfl (XS.bipush X1.here hx rfl (hb hby d7_34) k))) ?_
          show G T1 (mkF m 36 #[rv a1, iv f0, iv t0, iv 1, iv (Int32.ofNat i), iv (own_an c0 c1 c2 c3 i)] [.int 48, .int (own_an c0 c1 c2 c3 i)])
          by_cases hc36 : (own_an c0 c1 c2 c3 i) < (48 : Int32)
          · skip
            refine gb (fun _ k => XS.icmpYes X1.here hx rfl (pc0 := 36) (pc' := 50) rfl (hb hby d7_36) rfl (tlt hc36).1 (by decide) (by decide) (XS.iconst X1.here hx rfl (hb hby d7_50) (XS.istoreN X1.here hx rfl (hb hby d7_51) rfl (l' := #[rv a1, iv f0, iv t0, iv 0, iv (Int32.ofNat i), iv (own_an c0 c1 c2 c3 i)]) rfl (XS.iinc X1.here hx rfl (hb hby d7_52) rfl (l' := #[rv a1, iv f0, iv t0, iv 0, iv ((Int32.ofNat i) + (1 : Int32)), iv (own_an c0 c1 c2 c3 i)]) rfl k)))) ?_
            show G T1 (mkF m 55 #[rv a1, iv f0, iv t0, iv 0, iv ((Int32.ofNat i) + (1 : Int32)), iv (own_an c0 c1 c2 c3 i)] [])
            rw [own_succ32]
            show G T1 (mkF m 55 #[rv a1, iv f0, iv t0, iv 0, iv (Int32.ofNat (i + 1)), iv (own_an c0 c1 c2 c3 i)] [])
            refine gb (fun _ k => XS.goto X1.here hx rfl (pc0 := 55) (pc' := 14) rfl (hb hby d7_55) (by decide) (by decide) k) ?_
            show G T1 (mkF m 14 #[rv a1, iv f0, iv t0, iv 0, iv (Int32.ofNat (i + 1)), iv (own_an c0 c1 c2 c3 i)] [])
            exact Z14 _ X1 e1 _ _ (fun q => (q.2 i (by omega) (by omega)).1 hc36)
          · skip
            refine gb (fun _ k => XS.icmpNo X1.here hx rfl (hb hby d7_36) rfl (flt hc36).1 (XS.iload X1.here hx rfl (hb hby d7_39) rfl (XS.bipush X1.here hx rfl (hb hby d7_41) k))) ?_
            show G T1 (mkF m 43 #[rv a1, iv f0, iv t0, iv 1, iv (Int32.ofNat i), iv (own_an c0 c1 c2 c3 i)] [.int 57, .int (own_an c0 c1 c2 c3 i)])
            by_cases hc43 : (57 : Int32) < (own_an c0 c1 c2 c3 i)
            · skip
              refine gb (fun _ k => XS.icmpYes X1.here hx rfl (pc0 := 43) (pc' := 50) rfl (hb hby d7_43) rfl (tlt hc43).2.2.1 (by decide) (by decide) (XS.iconst X1.here hx rfl (hb hby d7_50) (XS.istoreN X1.here hx rfl (hb hby d7_51) rfl (l' := #[rv a1, iv f0, iv t0, iv 0, iv (Int32.ofNat i), iv (own_an c0 c1 c2 c3 i)]) rfl (XS.iinc X1.here hx rfl (hb hby d7_52) rfl (l' := #[rv a1, iv f0, iv t0, iv 0, iv ((Int32.ofNat i) + (1 : Int32)), iv (own_an c0 c1 c2 c3 i)]) rfl k)))) ?_
              show G T1 (mkF m 55 #[rv a1, iv f0, iv t0, iv 0, iv ((Int32.ofNat i) + (1 : Int32)), iv (own_an c0 c1 c2 c3 i)] [])
              rw [own_succ32]
              show G T1 (mkF m 55 #[rv a1, iv f0, iv t0, iv 0, iv (Int32.ofNat (i + 1)), iv (own_an c0 c1 c2 c3 i)] [])
              refine gb (fun _ k => XS.goto X1.here hx rfl (pc0 := 55) (pc' := 14) rfl (hb hby d7_55) (by decide) (by decide) k) ?_
              show G T1 (mkF m 14 #[rv a1, iv f0, iv t0, iv 0, iv (Int32.ofNat (i + 1)), iv (own_an c0 c1 c2 c3 i)] [])
              exact Z14 _ X1 e1 _ _ (fun q => (q.2 i (by omega) (by omega)).2 hc43)
            · skip
              refine gb (fun _ k => XS.icmpNo X1.here hx rfl (hb hby d7_43) rfl (flt hc43).2.2.1 (XS.iconst X1.here hx rfl (hb hby d7_46) (XS.goto X1.here hx rfl (pc0 := 47) (pc' := 51) rfl (hb hby d7_47) (by decide) (by decide) (XS.istoreN X1.here hx rfl (hb hby d7_51) rfl (l' := #[rv a1, iv f0, iv t0, iv 1, iv (Int32.ofNat i), iv (own_an c0 c1 c2 c3 i)]) rfl (XS.iinc X1.here hx rfl (hb hby d7_52) rfl (l' := #[rv a1, iv f0, iv t0, iv 1, iv ((Int32.ofNat i) + (1 : Int32)), iv (own_an c0 c1 c2 c3 i)]) rfl k))))) ?_
              show G T1 (mkF m 55 #[rv a1, iv f0, iv t0, iv 1, iv ((Int32.ofNat i) + (1 : Int32)), iv (own_an c0 c1 c2 c3 i)] [])
              rw [own_succ32]
              show G T1 (mkF m 55 #[rv a1, iv f0, iv t0, iv 1, iv (Int32.ofNat (i + 1)), iv (own_an c0 c1 c2 c3 i)] [])
              refine gb (fun _ k => XS.goto X1.here hx rfl (pc0 := 55) (pc' := 14) rfl (hb hby d7_55) (by decide) (by decide) k) ?_
              show G T1 (mkF m 14 #[rv a1, iv f0, iv t0, iv 1, iv (Int32.ofNat (i + 1)), iv (own_an c0 c1 c2 c3 i)] [])
              exact ih (i + 1) _ X1 e1 _ (Or.inr ⟨_, rfl⟩) (by omega) (by omega) (fun j j1 j2 => by rcases Nat.lt_succ_iff_lt_or_eq.mp j2 with q | q; exact hp j j1 q; rw [q]; exact ⟨hc36, hc43⟩)
        · skip
          show G Tq (mkF m 14 #[rv a1, iv f0, iv t0, iv 1, iv (Int32.ofNat i), iv x5] [])
          refine gb (fun _ k => XS.iload Xq.here hx rfl (hb hby d7_14) rfl (XS.iloadN Xq.here hx rfl (hb hby d7_16) rfl (XS.icmpNo Xq.here hx rfl (hb hby d7_17) rfl (tlt (hlt.mpr (by omega))).2.1 (XS.iloadN Xq.here hx rfl (hb hby d7_20) rfl (XS.ifNo Xq.here hx rfl (hb hby d7_21) rfl ((if0 _ _).trans (feq (by decide : ¬ ((1 : Int32) = (0 : Int32)))).1) (XS.aloadN Xq.here hx rfl (hb hby d7_24) rfl rfl k)))))) ?_
          show G Tq (mkF m 25 #[rv a1, iv f0, iv t0, iv 1, iv (Int32.ofNat i), iv x5] [.ref a1])
          refine gb (fun _ k => XS.iload Xq.here hx rfl (hb hby d7_25) rfl k) ?_
          show G Tq (mkF m 27 #[rv a1, iv f0, iv t0, iv 1, iv (Int32.ofNat i), iv x5] [.int (Int32.ofNat i), .ref a1])
          obtain ⟨cq2, kq2, q2a, q2b, q2c⟩ := isOf hZ eq_ E_a1
          obtain ⟨_, _, ⟨T2, Lz2, kz2, nz2⟩, -, X2, ⟨Lc2, hQ2, lq2, yq2, zq2⟩, st2⟩ := Xq.virtualBack hx (y := (⟨"java/lang/String", "charAt", "(I)C"⟩ : MethodName)) (z := (⟨"java/lang/String", "charAt", "(I)C"⟩ : MethodName)) hown (mvT hZ (ow hw 62 rfl)) (mvT hZ (ow hw 63 rfl)) (notFace_of_selects (args := #[]) (mvT hZ (ow hw 65 rfl))) (mvT hZ (ow hw 65 rfl)) (mvT hZ (ow hw 64 rfl)) (by decide) (backOf (W := 0) (rmCAU l Z a0 hw [] i hi4 a1 a2 k2 c0 c1 c2 c3 sf hr_sf S_sf S_ad S_hi S_lo h0 n0 O zc S_cs hzc E_a1 F_c1 F_v1 V_a2 hg0 hh0 hg1 hh1 hg2 hh2 hg3 hh3) hZ (ow hw 66 rfl) (ow hw 4 rfl) (by decide) (by decide)) q2a q2c (g := (mkF m 27 #[rv a1, iv f0, iv t0, iv 1, iv (Int32.ofNat i), iv x5] [.int (Int32.ofNat i), .ref a1])) rfl (by rw [hml]; rfl) (Steps.refl _) (argsL := [(.int (Int32.ofNat i))]) (rest := []) (lenOf pd_13 rfl) rfl (by show 2 * 0 + _ ≤ _; exact Nat.le_of_eq rfl) (hb hby d7_27) (fun _ _ => ⟨rfl, eq_, (by decide : 0 + 0 ≤ _), (by decide : 0 + 0 ≤ _)⟩)
          dsimp only [Pt.U, Pt.locs, Pt.cells, Pt.slots] at X2 lq2 yq2 zq2 st2 hQ2
          subst lq2 yq2 zq2
          obtain ⟨rfl, rfl, e2⟩ := hQ2
          try rw [List.append_nil] at X2
          refine gb (fun _ k => st2.trans k) ?_
          show G T2 (mkF m 30 #[rv a1, iv f0, iv t0, iv 1, iv (Int32.ofNat i), iv x5] [.int (own_an c0 c1 c2 c3 i)])
          refine gb (fun _ k => XS.istore X2.here hx rfl (hb hby d7_30) rfl (l' := #[rv a1, iv f0, iv t0, iv 1, iv (Int32.ofNat i), iv (own_an c0 c1 c2 c3 i)]) rfl (XS.iload X2.here hx rfl (hb hby d7_32) rfl (XS.bipush X2.here hx rfl (hb hby d7_34) k))) ?_
          show G T2 (mkF m 36 #[rv a1, iv f0, iv t0, iv 1, iv (Int32.ofNat i), iv (own_an c0 c1 c2 c3 i)] [.int 48, .int (own_an c0 c1 c2 c3 i)])
          by_cases hc36 : (own_an c0 c1 c2 c3 i) < (48 : Int32)
          · skip
            refine gb (fun _ k => XS.icmpYes X2.here hx rfl (pc0 := 36) (pc' := 50) rfl (hb hby d7_36) rfl (tlt hc36).1 (by decide) (by decide) (XS.iconst X2.here hx rfl (hb hby d7_50) (XS.istoreN X2.here hx rfl (hb hby d7_51) rfl (l' := #[rv a1, iv f0, iv t0, iv 0, iv (Int32.ofNat i), iv (own_an c0 c1 c2 c3 i)]) rfl (XS.iinc X2.here hx rfl (hb hby d7_52) rfl (l' := #[rv a1, iv f0, iv t0, iv 0, iv ((Int32.ofNat i) + (1 : Int32)), iv (own_an c0 c1 c2 c3 i)]) rfl k)))) ?_
            show G T2 (mkF m 55 #[rv a1, iv f0, iv t0, iv 0, iv ((Int32.ofNat i) + (1 : Int32)), iv (own_an c0 c1 c2 c3 i)] [])
            rw [own_succ32]
            show G T2 (mkF m 55 #[rv a1, iv f0, iv t0, iv 0, iv (Int32.ofNat (i + 1)), iv (own_an c0 c1 c2 c3 i)] [])
            refine gb (fun _ k => XS.goto X2.here hx rfl (pc0 := 55) (pc' := 14) rfl (hb hby d7_55) (by decide) (by decide) k) ?_
            show G T2 (mkF m 14 #[rv a1, iv f0, iv t0, iv 0, iv (Int32.ofNat (i + 1)), iv (own_an c0 c1 c2 c3 i)] [])
            exact Z14 _ X2 e2 _ _ (fun q => (q.2 i (by omega) (by omega)).1 hc36)
          · skip
            refine gb (fun _ k => XS.icmpNo X2.here hx rfl (hb hby d7_36) rfl (flt hc36).1 (XS.iload X2.here hx rfl (hb hby d7_39) rfl (XS.bipush X2.here hx rfl (hb hby d7_41) k))) ?_
            show G T2 (mkF m 43 #[rv a1, iv f0, iv t0, iv 1, iv (Int32.ofNat i), iv (own_an c0 c1 c2 c3 i)] [.int 57, .int (own_an c0 c1 c2 c3 i)])
            by_cases hc43 : (57 : Int32) < (own_an c0 c1 c2 c3 i)
            · skip
              refine gb (fun _ k => XS.icmpYes X2.here hx rfl (pc0 := 43) (pc' := 50) rfl (hb hby d7_43) rfl (tlt hc43).2.2.1 (by decide) (by decide) (XS.iconst X2.here hx rfl (hb hby d7_50) (XS.istoreN X2.here hx rfl (hb hby d7_51) rfl (l' := #[rv a1, iv f0, iv t0, iv 0, iv (Int32.ofNat i), iv (own_an c0 c1 c2 c3 i)]) rfl (XS.iinc X2.here hx rfl (hb hby d7_52) rfl (l' := #[rv a1, iv f0, iv t0, iv 0, iv ((Int32.ofNat i) + (1 : Int32)), iv (own_an c0 c1 c2 c3 i)]) rfl k)))) ?_
              show G T2 (mkF m 55 #[rv a1, iv f0, iv t0, iv 0, iv ((Int32.ofNat i) + (1 : Int32)), iv (own_an c0 c1 c2 c3 i)] [])
              rw [own_succ32]
              show G T2 (mkF m 55 #[rv a1, iv f0, iv t0, iv 0, iv (Int32.ofNat (i + 1)), iv (own_an c0 c1 c2 c3 i)] [])
              refine gb (fun _ k => XS.goto X2.here hx rfl (pc0 := 55) (pc' := 14) rfl (hb hby d7_55) (by decide) (by decide) k) ?_
              show G T2 (mkF m 14 #[rv a1, iv f0, iv t0, iv 0, iv (Int32.ofNat (i + 1)), iv (own_an c0 c1 c2 c3 i)] [])
              exact Z14 _ X2 e2 _ _ (fun q => (q.2 i (by omega) (by omega)).2 hc43)
            · skip
              refine gb (fun _ k => XS.icmpNo X2.here hx rfl (hb hby d7_43) rfl (flt hc43).2.2.1 (XS.iconst X2.here hx rfl (hb hby d7_46) (XS.goto X2.here hx rfl (pc0 := 47) (pc' := 51) rfl (hb hby d7_47) (by decide) (by decide) (XS.istoreN X2.here hx rfl (hb hby d7_51) rfl (l' := #[rv a1, iv f0, iv t0, iv 1, iv (Int32.ofNat i), iv (own_an c0 c1 c2 c3 i)]) rfl (XS.iinc X2.here hx rfl (hb hby d7_52) rfl (l' := #[rv a1, iv f0, iv t0, iv 1, iv ((Int32.ofNat i) + (1 : Int32)), iv (own_an c0 c1 c2 c3 i)]) rfl k))))) ?_
              show G T2 (mkF m 55 #[rv a1, iv f0, iv t0, iv 1, iv ((Int32.ofNat i) + (1 : Int32)), iv (own_an c0 c1 c2 c3 i)] [])
              rw [own_succ32]
              show G T2 (mkF m 55 #[rv a1, iv f0, iv t0, iv 1, iv (Int32.ofNat (i + 1)), iv (own_an c0 c1 c2 c3 i)] [])
              refine gb (fun _ k => XS.goto X2.here hx rfl (pc0 := 55) (pc' := 14) rfl (hb hby d7_55) (by decide) (by decide) k) ?_
              show G T2 (mkF m 14 #[rv a1, iv f0, iv t0, iv 1, iv (Int32.ofNat (i + 1)), iv (own_an c0 c1 c2 c3 i)] [])
              exact ih (i + 1) _ X2 e2 _ (Or.inr ⟨_, rfl⟩) (by omega) (by omega) (fun j j1 j2 => by rcases Nat.lt_succ_iff_lt_or_eq.mp j2 with q | q; exact hp j j1 q; rw [q]; exact ⟨hc36, hc43⟩)
    have hF := own_toN hf.1
    have hT := own_toN ht.1
    have hft := (Int32.lt_iff_toInt_lt).mp hc2
    have q := L14 (t0.toNatClampNeg - f0.toNatClampNeg) f0.toNatClampNeg _ X0 e0 .unset (Or.inl rfl) (by omega) (Nat.le_refl _) (fun j j1 j2 => absurd j2 (by omega))
    rw [own_ofN hf.1] at q
    exact q
  · skip
    refine gb (fun _ k => XS.icmpYes X0.here hx rfl (pc0 := 2) (pc' := 9) rfl (hb hby d7_2) rfl (flt hc2).2.1 (by decide) (by decide) (XS.iconst X0.here hx rfl (hb hby d7_9) (XS.istoreN X0.here hx rfl (hb hby d7_10) rfl (l' := #[rv a1, iv f0, iv t0, iv 0, .unset, .unset]) rfl (XS.iloadN X0.here hx rfl (hb hby d7_11) rfl (XS.istore X0.here hx rfl (hb hby d7_12) rfl (l' := #[rv a1, iv f0, iv t0, iv 0, iv f0, .unset]) rfl k))))) ?_
    show G s₁ (mkF m 14 #[rv a1, iv f0, iv t0, iv 0, iv f0, .unset] [])
    have Z14 : ∀ (Tq : State) (Xq : Stand p l e ({ frames := 5, cells := 0, slots := 0, locals := 66 } : Room) s m #[(.ref a1), (.int f0), (.int t0)] below meth c Tq [] 0 0) (eq_ : Tq.heap = h0) (x : Int32) (s5 : Slot), ¬ own_all c0 c1 c2 c3 f0 t0 → G Tq (mkF m 14 #[rv a1, iv f0, iv t0, iv 0, iv x, s5] []) := by
      intro Tq Xq eq_ x s5 hno
      show G Tq (mkF m 14 #[rv a1, iv f0, iv t0, iv 0, iv x, s5] [])
      refine gb (fun _ k => XS.iload Xq.here hx rfl (hb hby d7_14) rfl (XS.iloadN Xq.here hx rfl (hb hby d7_16) rfl k)) ?_
      show G Tq (mkF m 17 #[rv a1, iv f0, iv t0, iv 0, iv x, s5] [.int t0, .int x])
      by_cases hc17 : x < t0
      · skip
        refine gb (fun _ k => XS.icmpNo Xq.here hx rfl (hb hby d7_17) rfl (tlt hc17).2.1 (XS.iloadN Xq.here hx rfl (hb hby d7_20) rfl (XS.ifYes Xq.here hx rfl (pc0 := 21) (pc' := 58) rfl (hb hby d7_21) rfl ((if0 _ _).trans (teq (by decide : (0 : Int32) = (0 : Int32))).1) (by decide) (by decide) (XS.iloadN Xq.here hx rfl (hb hby d7_58) rfl k)))) ?_
        show G Tq (mkF m 59 #[rv a1, iv f0, iv t0, iv 0, iv x, s5] [.int 0])
        exact go Xq (v := (some (.int (0 : Int32)))) (fun h => by rw [Bd.returns] at h; cases h) (fun fs hr => retOut Xq hx Bd.returns rfl (Or.inl ⟨rfl, by simp, _, rfl⟩) (hb hby d7_59) hr) (⟨by rw [← hk9, if_neg hno], rfl, eq_⟩) (by decide) (by decide)
      · skip
        refine gb (fun _ k => XS.icmpYes Xq.here hx rfl (pc0 := 17) (pc' := 58) rfl (hb hby d7_17) rfl (flt hc17).2.1 (by decide) (by decide) (XS.iloadN Xq.here hx rfl (hb hby d7_58) rfl k)) ?_
        show G Tq (mkF m 59 #[rv a1, iv f0, iv t0, iv 0, iv x, s5] [.int 0])
        exact go Xq (v := (some (.int (0 : Int32)))) (fun h => by rw [Bd.returns] at h; cases h) (fun fs hr => retOut Xq hx Bd.returns rfl (Or.inl ⟨rfl, by simp, _, rfl⟩) (hb hby d7_59) hr) (⟨by rw [← hk9, if_neg hno], rfl, eq_⟩) (by decide) (by decide)
    exact Z14 _ X0 e0 f0 .unset (fun q => hc2 q.1)
def Q_rmAD (Z : State) (c0 : Int32) (h0 : Heap) (n0 : Nat) : Option Value → Heap → List Loc → Prop := fun v h L => v = some (.int (if own_dg c0 then (1 : Int32) else (0 : Int32))) ∧ L = [] ∧ h = h0
set_option maxRecDepth 65536 in
set_option maxHeartbeats 40000000 in
theorem rmAD (l : Launch) (Z : State) (a0 : Array Value) (hw : ∀ d ∈ tables_1, d.before a0 Z = true) (ws : List Jvm.Cond) (c0 : Int32) (h0 : Heap) (n0 : Nat) (O : Old Z n0 h0) :
    MetFree l (⟨"com/example/vestry/vestry/input/ValueChecksDigitsPinLaw", "isAsciiDigit", "(C)Z"⟩ : MethodName) (head1 (Jvm.Cond.code (⟨"com/example/vestry/vestry/input/ValueChecksDigitsPinLaw", "isAsciiDigit", "(C)Z"⟩ : MethodName) method_2_code 2 (some .boolean) :: ws) ({ frames := 0, cells := 0, slots := 0, locals := 0 } : Room)) (fun a U => a = #[(.int c0)] ∧ Z.Warmed39 U.vm ∧ U.heap = h0) (fun _ _ _ _ _ => True) (fun _ U o U' => ∃ v L, o = .returned v ∧ (Q_rmAD Z c0 h0 n0) v U'.heap L ∧ FrameEnd U o U' L ({ frames := 0, cells := 0, slots := 0, locals := 0 } : Room).cells ({ frames := 0, cells := 0, slots := 0, locals := 0 } : Room).slots) := by
  refine MetFree.of_bodySF (plainFor_of_name pn_5) hisR ?_
  intro p e s m args below meth c s₁ Bd hml0 hP hK
  obtain ⟨rfl, hZ, hh⟩ := hP
  have hx := Bd.exec
  have hby := Bd.bytes
  have hml : c.maxLocals = 2 := hml0
  have hown : s.vm.findClass "com/example/vestry/vestry/input/ValueChecksDigitsPinLaw" = some m.cls := findClass_of_methodNamed Bd.named
  have hnm := (name_of_methodNamed Bd.named Bd.method).1
  have hlk := BodyLoose.notSynchronized Bd
  have X0 : Stand p l e ({ frames := 0, cells := 0, slots := 0, locals := 0 } : Room) s m #[(.int c0)] below meth c s₁ [] 0 0 := Stand.of_body Bd
  have e0 : s₁.heap = h0 := by rw [← hh, Bd.state]; rfl
  have N := Fr.nil n0
  obtain ⟨G, hG⟩ : ∃ G : State → JFrame → Prop, G = OwnG p e below s ({ frames := 0, cells := 0, slots := 0, locals := 0 } : Room).cells ({ frames := 0, cells := 0, slots := 0, locals := 0 } : Room).slots (Q_rmAD Z c0 h0 n0) := ⟨_, rfl⟩
  have gb : ∀ {T T' : State} {g g' : JFrame}, (∀ t, Steps p.tables e below (T'.setTop g') t → Steps p.tables e below (T.setTop g) t) → G T' g' → G T g := by subst hG; exact fun k h => own_by k h
  have go : ∀ {T : State} {locs : List Loc} {cells slots : Nat} {g : JFrame} {v : Option Value}, Stand p l e ({ frames := 0, cells := 0, slots := 0, locals := 0 } : Room) s m #[(.int c0)] below meth c T locs cells slots → (meth.sig.returnType = none → v = none) → (∀ fs, (∀ (f : JFrame) (acts : List Action), f.method = m → f.locked = none → f.entered = [] → (doReturn e (T.setTop f) acts v).1 = T.setFrames fs) → Steps p.tables e below (T.setTop g) (T.setFrames fs)) → (Q_rmAD Z c0 h0 n0) v T.heap locs → cells ≤ ({ frames := 0, cells := 0, slots := 0, locals := 0 } : Room).cells → slots ≤ ({ frames := 0, cells := 0, slots := 0, locals := 0 } : Room).slots → G T g := by subst hG; exact fun X h1 h2 h3 h4 h5 => own_out X hlk h1 h2 h3 h4 h5
  show OwnG p e below s ({ frames := 0, cells := 0, slots := 0, locals := 0 } : Room).cells ({ frames := 0, cells := 0, slots := 0, locals := 0 } : Room).slots (Q_rmAD Z c0 h0 n0) s₁ (entryFrame m #[(.int c0)] 2)
  rw [← hG, ef_rmAD m c0]
  clear hG
  show G s₁ (mkF m 0 #[.val (.int c0), .unset] [])
  refine gb (fun _ k => XS.iloadN X0.here hx rfl (hb hby d14_0) rfl (XS.istoreN X0.here hx rfl (hb hby d14_1) rfl (l' := #[iv c0, iv c0]) rfl (XS.iloadN X0.here hx rfl (hb hby d14_2) rfl (XS.bipush X0.here hx rfl (hb hby d14_3) k)))) ?_
  show G s₁ (mkF m 5 #[iv c0, iv c0] [.int 48, .int c0])
  by_cases hc5 : c0 < (48 : Int32)
  · skip
    refine gb (fun _ k => XS.icmpYes X0.here hx rfl (pc0 := 5) (pc' := 18) rfl (hb hby d14_5) rfl (tlt hc5).1 (by decide) (by decide) (XS.iconst X0.here hx rfl (hb hby d14_18) k)) ?_
    show G s₁ (mkF m 19 #[iv c0, iv c0] [.int 0])
    exact go X0 (v := (some (.int (0 : Int32)))) (fun h => by rw [Bd.returns] at h; cases h) (fun fs hr => retOut X0 hx Bd.returns rfl (Or.inl ⟨rfl, by simp, _, rfl⟩) (hb hby d14_19) hr) (⟨by rw [if_neg (fun q => q.1 hc5)], rfl, e0⟩) (by decide) (by decide)
  · skip
    refine gb (fun _ k => XS.icmpNo X0.here hx rfl (hb hby d14_5) rfl (flt hc5).1 (XS.iloadN X0.here hx rfl (hb hby d14_8) rfl (XS.bipush X0.here hx rfl (hb hby d14_9) k))) ?_
    show G s₁ (mkF m 11 #[iv c0, iv c0] [.int 57, .int c0])
    by_cases hc11 : (57 : Int32) < c0
    · skip
      refine gb (fun _ k => XS.icmpYes X0.here hx rfl (pc0 := 11) (pc' := 18) rfl (hb hby d14_11) rfl (tlt hc11).2.2.1 (by decide) (by decide) (XS.iconst X0.here hx rfl (hb hby d14_18) k)) ?_
      show G s₁ (mkF m 19 #[iv c0, iv c0] [.int 0])
      exact go X0 (v := (some (.int (0 : Int32)))) (fun h => by rw [Bd.returns] at h; cases h) (fun fs hr => retOut X0 hx Bd.returns rfl (Or.inl ⟨rfl, by simp, _, rfl⟩) (hb hby d14_19) hr) (⟨by rw [if_neg (fun q => q.2 hc11)], rfl, e0⟩) (by decide) (by decide)
    · skip
      refine gb (fun _ k => XS.icmpNo X0.here hx rfl (hb hby d14_11) rfl (flt hc11).2.2.1 (XS.iconst X0.here hx rfl (hb hby d14_14) (XS.goto X0.here hx rfl (pc0 := 15) (pc' := 19) rfl (hb hby d14_15) (by decide) (by decide) k))) ?_
      show G s₁ (mkF m 19 #[iv c0, iv c0] [.int 1])
      exact go X0 (v := (some (.int (1 : Int32)))) (fun h => by rw [Bd.returns] at h; cases h) (fun fs hr => retOut X0 hx Bd.returns rfl (Or.inl ⟨rfl, by simp, _, rfl⟩) (hb hby d14_19) hr) (⟨by rw [if_pos ⟨hc5, hc11⟩], rfl, e0⟩) (by decide) (by decide)
theorem own_fdg {p0 p1 p2 c0 : Int32} (h1 : ¬ p0 < p1) (h2 : p0 < p2) : (if own_dg c0 then (1 : Int32) else (0 : Int32)) = (if own_fine p0 p1 p2 c0 then (1 : Int32) else (0 : Int32)) := by
  by_cases q : own_dg c0
  · rw [if_pos q, if_pos (Or.inr (Or.inr q))]
  · rw [if_neg q, if_neg (fun z => z.elim h1 (fun y => y.elim (fun x => x h2) q))]
def Q_rmFN (Z : State) (p0 p1 p2 c0 : Int32) (h0 : Heap) (n0 : Nat) : Option Value → Heap → List Loc → Prop := fun v h L => v = some (.int (if own_fine p0 p1 p2 c0 then (1 : Int32) else (0 : Int32))) ∧ L = [] ∧ h = h0
set_option maxRecDepth 65536 in
set_option maxHeartbeats 40000000 in
theorem rmFN (l : Launch) (Z : State) (a0 : Array Value) (hw : ∀ d ∈ tables_1, d.before a0 Z = true) (ws : List Jvm.Cond) (p0 p1 p2 c0 : Int32) (h0 : Heap) (n0 : Nat) (O : Old Z n0 h0) :
    MetFree l (⟨"com/example/vestry/vestry/input/ValueChecksDigitsPinLaw", "fine", "(IIIC)Z"⟩ : MethodName) (head1 (Jvm.Cond.code (⟨"com/example/vestry/vestry/input/ValueChecksDigitsPinLaw", "fine", "(IIIC)Z"⟩ : MethodName) method_3_code 4 (some .boolean) :: ws) ({ frames := 1, cells := 0, slots := 0, locals := 13 } : Room)) (fun a U => a = #[(.int p0), (.int p1), (.int p2), (.int c0)] ∧ Z.Warmed39 U.vm ∧ U.heap = h0) (fun _ _ _ _ _ => True) (fun _ U o U' => ∃ v L, o = .returned v ∧ (Q_rmFN Z p0 p1 p2 c0 h0 n0) v U'.heap L ∧ FrameEnd U o U' L ({ frames := 1, cells := 0, slots := 0, locals := 13 } : Room).cells ({ frames := 1, cells := 0, slots := 0, locals := 13 } : Room).slots) := by
  refine MetFree.of_bodySF (plainFor_of_name pn_5) hisR ?_
  intro p e s m args below meth c s₁ Bd hml0 hP hK
  obtain ⟨rfl, hZ, hh⟩ := hP
  have hx := Bd.exec
  have hby := Bd.bytes
  have hml : c.maxLocals = 4 := hml0
  have hown : s.vm.findClass "com/example/vestry/vestry/input/ValueChecksDigitsPinLaw" = some m.cls := findClass_of_methodNamed Bd.named
  have hnm := (name_of_methodNamed Bd.named Bd.method).1
  have hlk := BodyLoose.notSynchronized Bd
  have X0 : Stand p l e ({ frames := 1, cells := 0, slots := 0, locals := 13 } : Room) s m #[(.int p0), (.int p1), (.int p2), (.int c0)] below meth c s₁ [] 0 0 := Stand.of_body Bd
  have e0 : s₁.heap = h0 := by rw [← hh, Bd.state]; rfl
  have N := Fr.nil n0
  obtain ⟨G, hG⟩ : ∃ G : State → JFrame → Prop, G = OwnG p e below s ({ frames := 1, cells := 0, slots := 0, locals := 13 } : Room).cells ({ frames := 1, cells := 0, slots := 0, locals := 13 } : Room).slots (Q_rmFN Z p0 p1 p2 c0 h0 n0) := ⟨_, rfl⟩
  have gb : ∀ {T T' : State} {g g' : JFrame}, (∀ t, Steps p.tables e below (T'.setTop g') t → Steps p.tables e below (T.setTop g) t) → G T' g' → G T g := by subst hG; exact fun k h => own_by k h
  have go : ∀ {T : State} {locs : List Loc} {cells slots : Nat} {g : JFrame} {v : Option Value}, Stand p l e ({ frames := 1, cells := 0, slots := 0, locals := 13 } : Room) s m #[(.int p0), (.int p1), (.int p2), (.int c0)] below meth c T locs cells slots → (meth.sig.returnType = none → v = none) → (∀ fs, (∀ (f : JFrame) (acts : List Action), f.method = m → f.locked = none → f.entered = [] → (doReturn e (T.setTop f) acts v).1 = T.setFrames fs) → Steps p.tables e below (T.setTop g) (T.setFrames fs)) → (Q_rmFN Z p0 p1 p2 c0 h0 n0) v T.heap locs → cells ≤ ({ frames := 1, cells := 0, slots := 0, locals := 13 } : Room).cells → slots ≤ ({ frames := 1, cells := 0, slots := 0, locals := 13 } : Room).slots → G T g := by subst hG; exact fun X h1 h2 h3 h4 h5 => own_out X hlk h1 h2 h3 h4 h5
  show OwnG p e below s ({ frames := 1, cells := 0, slots := 0, locals := 13 } : Room).cells ({ frames := 1, cells := 0, slots := 0, locals := 13 } : Room).slots (Q_rmFN Z p0 p1 p2 c0 h0 n0) s₁ (entryFrame m #[(.int p0), (.int p1), (.int p2), (.int c0)] 4)
  rw [← hG, ef_rmFN m p0 p1 p2 c0]
  clear hG
  show G s₁ (mkF m 0 #[.val (.int p0), .val (.int p1), .val (.int p2), .val (.int c0)] [])
  refine gb (fun _ k => XS.iloadN X0.here hx rfl (hb hby d13_0) rfl (XS.iloadN X0.here hx rfl (hb hby d13_1) rfl k)) ?_
  show G s₁ (mkF m 2 #[iv p0, iv p1, iv p2, iv c0] [.int p1, .int p0])
  by_cases hc2 : p0 < p1
  · skip
    refine gb (fun _ k => XS.icmpNo X0.here hx rfl (hb hby d13_2) rfl (tlt hc2).2.1 (XS.iconst X0.here hx rfl (hb hby d13_5) k)) ?_
    show G s₁ (mkF m 6 #[iv p0, iv p1, iv p2, iv c0] [.int 1])
    exact go X0 (v := (some (.int (1 : Int32)))) (fun h => by rw [Bd.returns] at h; cases h) (fun fs hr => retOut X0 hx Bd.returns rfl (Or.inl ⟨rfl, by simp, _, rfl⟩) (hb hby d13_6) hr) (⟨by rw [if_pos (Or.inl hc2)], rfl, e0⟩) (by decide) (by decide)
  · skip
    refine gb (fun _ k => XS.icmpYes X0.here hx rfl (pc0 := 2) (pc' := 7) rfl (hb hby d13_2) rfl (flt hc2).2.1 (by decide) (by decide) (XS.iloadN X0.here hx rfl (hb hby d13_7) rfl (XS.iloadN X0.here hx rfl (hb hby d13_8) rfl k))) ?_
    show G s₁ (mkF m 9 #[iv p0, iv p1, iv p2, iv c0] [.int p2, .int p0])
    by_cases hc9 : p0 < p2
    · skip
      refine gb (fun _ k => XS.icmpYes X0.here hx rfl (pc0 := 9) (pc' := 14) rfl (hb hby d13_9) rfl (tlt hc9).1 (by decide) (by decide) (XS.iloadN X0.here hx rfl (hb hby d13_14) rfl k)) ?_
      show G s₁ (mkF m 15 #[iv p0, iv p1, iv p2, iv c0] [.int c0])
      obtain ⟨_, _, ⟨T1, Lz1, kz1, nz1⟩, -, X1, ⟨Lc1, hQ1, lq1, yq1, zq1⟩, st1⟩ := Jvm.LawKit.callS X0 hx (y := (⟨"com/example/vestry/vestry/input/ValueChecksDigitsPinLaw", "isAsciiDigit", "(C)Z"⟩ : MethodName)) hown (mvT hZ (ow hw 59 rfl)) (mvT hZ (ow hw 60 rfl)) (mvT hZ (ow hw 57 rfl)) (mvT hZ (ow hw 61 rfl)) (by decide) (backOf (W := 0) (rmAD l Z a0 hw [] c0 h0 n0 O) hZ (ow hw 61 rfl) (ow hw 57 rfl) (by decide) (by decide)) (g := (mkF m 15 #[iv p0, iv p1, iv p2, iv c0] [.int c0])) rfl (by rw [hml]; rfl) (argsL := [(.int c0)]) (rest := []) (lenOf pd_14 rfl) rfl (by show 2 * 0 + _ ≤ _; exact Nat.le_of_eq rfl) (hb hby d13_15) (fun _ _ => ⟨rfl, e0, (by decide : 0 + 0 ≤ _), (by decide : 0 + 0 ≤ _)⟩)
      dsimp only [Pt.U, Pt.locs, Pt.cells, Pt.slots] at X1 lq1 yq1 zq1 st1 hQ1
      subst lq1 yq1 zq1
      obtain ⟨rfl, rfl, e1⟩ := hQ1
      try rw [List.append_nil] at X1
      refine gb st1 ?_
      show G T1 (mkF m 18 #[iv p0, iv p1, iv p2, iv c0] [.int (if own_dg c0 then (1 : Int32) else (0 : Int32))])
      exact go X1 (v := (some (.int (if own_dg c0 then (1 : Int32) else (0 : Int32))))) (fun h => by rw [Bd.returns] at h; cases h) (fun fs hr => retOut X1 hx Bd.returns own_b01 (Or.inl ⟨rfl, by simp, _, rfl⟩) (hb hby d13_18) hr) (⟨by rw [own_fdg hc2 hc9], rfl, e1⟩) (by decide) (by decide)
    · skip
      refine gb (fun _ k => XS.icmpNo X0.here hx rfl (hb hby d13_9) rfl (flt hc9).1 (XS.iconst X0.here hx rfl (hb hby d13_12) k)) ?_
      show G s₁ (mkF m 13 #[iv p0, iv p1, iv p2, iv c0] [.int 1])
      exact go X0 (v := (some (.int (1 : Int32)))) (fun h => by rw [Bd.returns] at h; cases h) (fun fs hr => retOut X0 hx Bd.returns rfl (Or.inl ⟨rfl, by simp, _, rfl⟩) (hb hby d13_13) hr) (⟨by rw [if_pos (Or.inr (Or.inl hc9))], rfl, e0⟩) (by decide) (by decide)
def Q_rm0 (Z : State) (i0 i1 i2 i3 : Int32) (h0 : Heap) (n0 : Nat) (zc : Int32) (sf : Value) : Option Value → Heap → List Loc → Prop := fun v h L => v = some (.int 1) ∧ Fr n0 L
set_option maxRecDepth 65536 in
set_option maxHeartbeats 40000000 in
theorem rm0 (l : Launch) (Z : State) (a0 : Array Value) (hw : ∀ d ∈ tables_1, d.before a0 Z = true) (ws : List Jvm.Cond) (i0 i1 i2 i3 : Int32) (h0 : Heap) (n0 : Nat) (O : Old Z n0 h0) (zc : Int32) (S_cs : Sta Z Z.heap "java/lang/String" "COMPACT_STRINGS" "Z" (.int zc)) (hzc : ¬ zc = (0 : Int32)) (sf : Value) (hr_sf : sf.isRef = true) (S_sf : Sta Z Z.heap "jdk/internal/util/Preconditions" "SIOOBE_FORMATTER" "Ljava/util/function/BiFunction;" sf) (S_ad : Sta Z Z.heap "java/lang/StringUTF16" "$assertionsDisabled" "Z" (.int (1 : Int32))) (S_hi : Sta Z Z.heap "java/lang/StringUTF16" "HI_BYTE_SHIFT" "I" (.int (0 : Int32))) (S_lo : Sta Z Z.heap "java/lang/StringUTF16" "LO_BYTE_SHIFT" "I" (.int (8 : Int32))) :
    MetFree l x (head1 (Jvm.Cond.code x code maxLocals ret :: ws) room_1) (fun a U => a = #[(.int i0), (.int i1), (.int i2), (.int i3)] ∧ Z.Warmed39 U.vm ∧ U.heap = h0 ∧ U = Z) (fun _ _ _ _ _ => True) (fun _ U o U' => ∃ v L, o = .returned v ∧ (Q_rm0 Z i0 i1 i2 i3 h0 n0 zc sf) v U'.heap L ∧ FrameEnd U o U' L 4 20) := by
  refine MetFree.of_bodySF (plainFor_of_name pn_5) hisR ?_
  intro p e s m args below meth c s₁ Bd hml0 hP hK
  obtain ⟨rfl, hZ, hh, hUZ⟩ := hP
  have hx := Bd.exec
  have hby := Bd.bytes
  have hml : c.maxLocals = 10 := hml0
  have hown : s.vm.findClass "com/example/vestry/vestry/input/ValueChecksDigitsPinLaw" = some m.cls := findClass_of_methodNamed Bd.named
  have hnm := (name_of_methodNamed Bd.named Bd.method).1
  have hlk := BodyLoose.notSynchronized Bd
  have X0 : Stand p l e room_1 s m #[(.int i0), (.int i1), (.int i2), (.int i3)] below meth c s₁ [] 0 0 := Stand.of_body Bd
  have e0 : s₁.heap = h0 := by rw [← hh, Bd.state]; rfl
  have N := Fr.nil n0
  have O0 := O
  obtain ⟨G, hG⟩ : ∃ G : State → JFrame → Prop, G = OwnG p e below s 4 20 (Q_rm0 Z i0 i1 i2 i3 h0 n0 zc sf) := ⟨_, rfl⟩
  have gb : ∀ {T T' : State} {g g' : JFrame}, (∀ t, Steps p.tables e below (T'.setTop g') t → Steps p.tables e below (T.setTop g) t) → G T' g' → G T g := by subst hG; exact fun k h => own_by k h
  have go : ∀ {T : State} {locs : List Loc} {cells slots : Nat} {g : JFrame} {v : Option Value}, Stand p l e room_1 s m #[(.int i0), (.int i1), (.int i2), (.int i3)] below meth c T locs cells slots → (meth.sig.returnType = none → v = none) → (∀ fs, (∀ (f : JFrame) (acts : List Action), f.method = m → f.locked = none → f.entered = [] → (doReturn e (T.setTop f) acts v).1 = T.setFrames fs) → Steps p.tables e below (T.setTop g) (T.setFrames fs)) → (Q_rm0 Z i0 i1 i2 i3 h0 n0 zc sf) v T.heap locs → cells ≤ 4 → slots ≤ 20 → G T g := by subst hG; exact fun X h1 h2 h3 h4 h5 => own_out X hlk h1 h2 h3 h4 h5
  show OwnG p e below s 4 20 (Q_rm0 Z i0 i1 i2 i3 h0 n0 zc sf) s₁ (entryFrame m #[(.int i0), (.int i1), (.int i2), (.int i3)] maxLocals)
  rw [← hG, ef_rm0 m i0 i1 i2 i3]
  clear hG
  show G s₁ (mkF m 0 #[.val (.int i0), .val (.int i1), .val (.int i2), .val (.int i3), .unset, .unset, .unset, .unset, .unset, .unset] [])
  refine gb (fun _ k => XS.iconst X0.here hx rfl (hb hby at_0) k) ?_
  show G s₁ (mkF m 1 #[iv i0, iv i1, iv i2, iv i3, .unset, .unset, .unset, .unset, .unset, .unset] [.int 4])
  obtain ⟨T1, h1, kA1, X1, e1, E1, A1, st1⟩ := newP X0 hx hZ (ow hw 0 rfl) e0 (g := (mkF m 1 #[iv i0, iv i1, iv i2, iv i3, .unset, .unset, .unset, .unset, .unset, .unset] [.int 4])) rfl (hb hby at_1) rfl (by decide) (cap := 4) (by decide) (by decide) (by decide) (by decide)
  obtain ⟨b1, g1⟩ : ∃ z, z = h0.size := ⟨_, rfl⟩
  rw [← g1] at A1 st1
  have g_b1 : n0 ≤ b1 := Nat.le_trans (by have := O.2.1; rw [O.1] at this; exact this) (Nat.le_of_eq g1.symm)
  have O := O.ext E1
  have V_b1 : Arv Z h1 b1 kA1 .char (4 : Int32) [(.int (0 : Int32)), (.int (0 : Int32)), (.int (0 : Int32)), (.int (0 : Int32))] (.int (0 : Int32)) := (Arv.new A1 (by decide)).pad (pad_rep [] (.int (0 : Int32)) 4)
  refine gb st1 ?_
  show G T1 (mkF m 3 #[iv i0, iv i1, iv i2, iv i3, .unset, .unset, .unset, .unset, .unset, .unset] [.ref b1])
  refine gb (fun _ k => XS.astore X1.here hx rfl (hb hby at_3) rfl rfl (l' := #[iv i0, iv i1, iv i2, iv i3, rv b1, .unset, .unset, .unset, .unset, .unset]) rfl (XS.aload X1.here hx rfl (hb hby at_5) rfl rfl (XS.iconst X1.here hx rfl (hb hby at_7) (XS.iloadN X1.here hx rfl (hb hby at_8) rfl k)))) ?_
  show G T1 (mkF m 9 #[iv i0, iv i1, iv i2, iv i3, rv b1, .unset, .unset, .unset, .unset, .unset] [.int i0, .int 0, .ref b1])
  refine gb (X1.ldcInt hx hown (mvT hZ (ow hw 1 rfl)) (g := (mkF m 9 #[iv i0, iv i1, iv i2, iv i3, rv b1, .unset, .unset, .unset, .unset, .unset] [.int i0, .int 0, .ref b1])) rfl (hb hby at_9)) ?_
  show G T1 (mkF m 11 #[iv i0, iv i1, iv i2, iv i3, rv b1, .unset, .unset, .unset, .unset, .unset] [.int 65535, .int i0, .int 0, .ref b1])
  refine gb (fun _ k => XS.iand X1.here hx rfl (hb hby at_11) rfl (XS.i2c X1.here hx rfl (hb hby at_12) rfl k)) ?_
  show G T1 (mkF m 13 #[iv i0, iv i1, iv i2, iv i3, rv b1, .unset, .unset, .unset, .unset, .unset] [.int ((i0 &&& (65535 : Int32)).toUInt32.toUInt16.toUInt32.toInt32), .int 0, .ref b1])
  rw [own_c16]
  show G T1 (mkF m 13 #[iv i0, iv i1, iv i2, iv i3, rv b1, .unset, .unset, .unset, .unset, .unset] [.int (i0 &&& (65535 : Int32)), .int 0, .ref b1])
  have V'2 := V_b1
  obtain ⟨cl2, Ar2, qk2, sz2, nn2, hs2, ft2⟩ := V'2
  have hin2 : ¬ ((0 : Int32) < 0 ∨ cl2.slots.size ≤ ((0 : Int32)).toNatClampNeg) := inb_of sz2 ⟨by decide, by decide⟩
  obtain ⟨T3, h3, X3, e3, W3, st3⟩ := stC X1 hx hZ e1 Ar2 (j := (0 : Int32)) hin2 (g := (mkF m 13 #[iv i0, iv i1, iv i2, iv i3, rv b1, .unset, .unset, .unset, .unset, .unset] [.int (i0 &&& (65535 : Int32)), .int 0, .ref b1])) rfl rfl (hb hby at_13)
  have V_b1 : Arv Z h3 b1 kA1 .char (4 : Int32) [(.int (nar .char (i0 &&& (65535 : Int32)))), (.int (0 : Int32)), (.int (0 : Int32)), (.int (0 : Int32))] (.int (0 : Int32)) := Arv.set Ar2 qk2 sz2 nn2 hs2 ft2 (fits_nar_char _) W3 0 rfl (Nat.le_of_ble_eq_true rfl)
  rw [own_n16] at V_b1
  have O := O.wr W3 g_b1
  have N := Fr.snoc X3 N g_b1
  refine gb st3 ?_
  show G T3 (mkF m 14 #[iv i0, iv i1, iv i2, iv i3, rv b1, .unset, .unset, .unset, .unset, .unset] [])
  refine gb (fun _ k => XS.aload X3.here hx rfl (hb hby at_14) rfl rfl (XS.iconst X3.here hx rfl (hb hby at_16) (XS.iloadN X3.here hx rfl (hb hby at_17) rfl (XS.bipush X3.here hx rfl (hb hby at_18) (XS.iushr X3.here hx rfl (hb hby at_20) rfl k))))) ?_
  show G T3 (mkF m 21 #[iv i0, iv i1, iv i2, iv i3, rv b1, .unset, .unset, .unset, .unset, .unset] [.int ((i0.toUInt32 >>> ((16 : Int32) &&& 31).toUInt32).toInt32), .int 1, .ref b1])
  refine gb (X3.ldcInt hx hown (mvT hZ (ow hw 1 rfl)) (g := (mkF m 21 #[iv i0, iv i1, iv i2, iv i3, rv b1, .unset, .unset, .unset, .unset, .unset] [.int ((i0.toUInt32 >>> ((16 : Int32) &&& 31).toUInt32).toInt32), .int 1, .ref b1])) rfl (hb hby at_21)) ?_
  show G T3 (mkF m 23 #[iv i0, iv i1, iv i2, iv i3, rv b1, .unset, .unset, .unset, .unset, .unset] [.int 65535, .int ((i0.toUInt32 >>> ((16 : Int32) &&& 31).toUInt32).toInt32), .int 1, .ref b1])
  refine gb (fun _ k => XS.iand X3.here hx rfl (hb hby at_23) rfl (XS.i2c X3.here hx rfl (hb hby at_24) rfl k)) ?_
  show G T3 (mkF m 25 #[iv i0, iv i1, iv i2, iv i3, rv b1, .unset, .unset, .unset, .unset, .unset] [.int ((((i0.toUInt32 >>> ((16 : Int32) &&& 31).toUInt32).toInt32) &&& (65535 : Int32)).toUInt32.toUInt16.toUInt32.toInt32), .int 1, .ref b1])
  rw [own_c16]
  show G T3 (mkF m 25 #[iv i0, iv i1, iv i2, iv i3, rv b1, .unset, .unset, .unset, .unset, .unset] [.int (((i0.toUInt32 >>> ((16 : Int32) &&& 31).toUInt32).toInt32) &&& (65535 : Int32)), .int 1, .ref b1])
  have V'4 := V_b1
  obtain ⟨cl4, Ar4, qk4, sz4, nn4, hs4, ft4⟩ := V'4
  have hin4 : ¬ ((1 : Int32) < 0 ∨ cl4.slots.size ≤ ((1 : Int32)).toNatClampNeg) := inb_of sz4 ⟨by decide, by decide⟩
  obtain ⟨T5, h5, X5, e5, W5, st5⟩ := stC X3 hx hZ e3 Ar4 (j := (1 : Int32)) hin4 (g := (mkF m 25 #[iv i0, iv i1, iv i2, iv i3, rv b1, .unset, .unset, .unset, .unset, .unset] [.int (((i0.toUInt32 >>> ((16 : Int32) &&& 31).toUInt32).toInt32) &&& (65535 : Int32)), .int 1, .ref b1])) rfl rfl (hb hby at_25)
  have V_b1 : Arv Z h5 b1 kA1 .char (4 : Int32) [(.int (i0 &&& (65535 : Int32))), (.int (nar .char (((i0.toUInt32 >>> ((16 : Int32) &&& 31).toUInt32).toInt32) &&& (65535 : Int32)))), (.int (0 : Int32)), (.int (0 : Int32))] (.int (0 : Int32)) := Arv.set Ar4 qk4 sz4 nn4 hs4 ft4 (fits_nar_char _) W5 1 rfl (Nat.le_of_ble_eq_true rfl)
  rw [own_n16] at V_b1
  have O := O.wr W5 g_b1
  have N := Fr.snoc X5 N g_b1
  refine gb st5 ?_
  show G T5 (mkF m 26 #[iv i0, iv i1, iv i2, iv i3, rv b1, .unset, .unset, .unset, .unset, .unset] [])
  refine gb (fun _ k => XS.aload X5.here hx rfl (hb hby at_26) rfl rfl (XS.iconst X5.here hx rfl (hb hby at_28) (XS.iloadN X5.here hx rfl (hb hby at_29) rfl k))) ?_
  show G T5 (mkF m 30 #[iv i0, iv i1, iv i2, iv i3, rv b1, .unset, .unset, .unset, .unset, .unset] [.int i1, .int 2, .ref b1])
  refine gb (X5.ldcInt hx hown (mvT hZ (ow hw 1 rfl)) (g := (mkF m 30 #[iv i0, iv i1, iv i2, iv i3, rv b1, .unset, .unset, .unset, .unset, .unset] [.int i1, .int 2, .ref b1])) rfl (hb hby at_30)) ?_
  show G T5 (mkF m 32 #[iv i0, iv i1, iv i2, iv i3, rv b1, .unset, .unset, .unset, .unset, .unset] [.int 65535, .int i1, .int 2, .ref b1])
  refine gb (fun _ k => XS.iand X5.here hx rfl (hb hby at_32) rfl (XS.i2c X5.here hx rfl (hb hby at_33) rfl k)) ?_
  show G T5 (mkF m 34 #[iv i0, iv i1, iv i2, iv i3, rv b1, .unset, .unset, .unset, .unset, .unset] [.int ((i1 &&& (65535 : Int32)).toUInt32.toUInt16.toUInt32.toInt32), .int 2, .ref b1])
  rw [own_c16]
  show G T5 (mkF m 34 #[iv i0, iv i1, iv i2, iv i3, rv b1, .unset, .unset, .unset, .unset, .unset] [.int (i1 &&& (65535 : Int32)), .int 2, .ref b1])
  have V'6 := V_b1
  obtain ⟨cl6, Ar6, qk6, sz6, nn6, hs6, ft6⟩ := V'6
  have hin6 : ¬ ((2 : Int32) < 0 ∨ cl6.slots.size ≤ ((2 : Int32)).toNatClampNeg) := inb_of sz6 ⟨by decide, by decide⟩
  obtain ⟨T7, h7, X7, e7, W7, st7⟩ := stC X5 hx hZ e5 Ar6 (j := (2 : Int32)) hin6 (g := (mkF m 34 #[iv i0, iv i1, iv i2, iv i3, rv b1, .unset, .unset, .unset, .unset, .unset] [.int (i1 &&& (65535 : Int32)), .int 2, .ref b1])) rfl rfl (hb hby at_34)
  have V_b1 : Arv Z h7 b1 kA1 .char (4 : Int32) [(.int (i0 &&& (65535 : Int32))), (.int (((i0.toUInt32 >>> ((16 : Int32) &&& 31).toUInt32).toInt32) &&& (65535 : Int32))), (.int (nar .char (i1 &&& (65535 : Int32)))), (.int (0 : Int32))] (.int (0 : Int32)) := Arv.set Ar6 qk6 sz6 nn6 hs6 ft6 (fits_nar_char _) W7 2 rfl (Nat.le_of_ble_eq_true rfl)
  rw [own_n16] at V_b1
  have O := O.wr W7 g_b1
  have N := Fr.snoc X7 N g_b1
  refine gb st7 ?_
  show G T7 (mkF m 35 #[iv i0, iv i1, iv i2, iv i3, rv b1, .unset, .unset, .unset, .unset, .unset] [])
  refine gb (fun _ k => XS.aload X7.here hx rfl (hb hby at_35) rfl rfl (XS.iconst X7.here hx rfl (hb hby at_37) (XS.iloadN X7.here hx rfl (hb hby at_38) rfl (XS.bipush X7.here hx rfl (hb hby at_39) (XS.iushr X7.here hx rfl (hb hby at_41) rfl k))))) ?_
  show G T7 (mkF m 42 #[iv i0, iv i1, iv i2, iv i3, rv b1, .unset, .unset, .unset, .unset, .unset] [.int ((i1.toUInt32 >>> ((16 : Int32) &&& 31).toUInt32).toInt32), .int 3, .ref b1])
  refine gb (X7.ldcInt hx hown (mvT hZ (ow hw 1 rfl)) (g := (mkF m 42 #[iv i0, iv i1, iv i2, iv i3, rv b1, .unset, .unset, .unset, .unset, .unset] [.int ((i1.toUInt32 >>> ((16 : Int32) &&& 31).toUInt32).toInt32), .int 3, .ref b1])) rfl (hb hby at_42)) ?_
  show G T7 (mkF m 44 #[iv i0, iv i1, iv i2, iv i3, rv b1, .unset, .unset, .unset, .unset, .unset] [.int 65535, .int ((i1.toUInt32 >>> ((16 : Int32) &&& 31).toUInt32).toInt32), .int 3, .ref b1])
  refine gb (fun _ k => XS.iand X7.here hx rfl (hb hby at_44) rfl (XS.i2c X7.here hx rfl (hb hby at_45) rfl k)) ?_
  show G T7 (mkF m 46 #[iv i0, iv i1, iv i2, iv i3, rv b1, .unset, .unset, .unset, .unset, .unset] [.int ((((i1.toUInt32 >>> ((16 : Int32) &&& 31).toUInt32).toInt32) &&& (65535 : Int32)).toUInt32.toUInt16.toUInt32.toInt32), .int 3, .ref b1])
  rw [own_c16]
  show G T7 (mkF m 46 #[iv i0, iv i1, iv i2, iv i3, rv b1, .unset, .unset, .unset, .unset, .unset] [.int (((i1.toUInt32 >>> ((16 : Int32) &&& 31).toUInt32).toInt32) &&& (65535 : Int32)), .int 3, .ref b1])
  have V'8 := V_b1
  obtain ⟨cl8, Ar8, qk8, sz8, nn8, hs8, ft8⟩ := V'8
  have hin8 : ¬ ((3 : Int32) < 0 ∨ cl8.slots.size ≤ ((3 : Int32)).toNatClampNeg) := inb_of sz8 ⟨by decide, by decide⟩
  obtain ⟨T9, h9, X9, e9, W9, st9⟩ := stC X7 hx hZ e7 Ar8 (j := (3 : Int32)) hin8 (g := (mkF m 46 #[iv i0, iv i1, iv i2, iv i3, rv b1, .unset, .unset, .unset, .unset, .unset] [.int (((i1.toUInt32 >>> ((16 : Int32) &&& 31).toUInt32).toInt32) &&& (65535 : Int32)), .int 3, .ref b1])) rfl rfl (hb hby at_46)
  have V_b1 : Arv Z h9 b1 kA1 .char (4 : Int32) [(.int (i0 &&& (65535 : Int32))), (.int (((i0.toUInt32 >>> ((16 : Int32) &&& 31).toUInt32).toInt32) &&& (65535 : Int32))), (.int (i1 &&& (65535 : Int32))), (.int (nar .char (((i1.toUInt32 >>> ((16 : Int32) &&& 31).toUInt32).toInt32) &&& (65535 : Int32))))] (.int (0 : Int32)) := Arv.set Ar8 qk8 sz8 nn8 hs8 ft8 (fits_nar_char _) W9 3 rfl (Nat.le_of_ble_eq_true rfl)
  rw [own_n16] at V_b1
  have O := O.wr W9 g_b1
  have N := Fr.snoc X9 N g_b1
  refine gb st9 ?_
  show G T9 (mkF m 47 #[iv i0, iv i1, iv i2, iv i3, rv b1, .unset, .unset, .unset, .unset, .unset] [])
  obtain ⟨c0, hc_0⟩ : ∃ z, z = (i0 &&& (65535 : Int32)) := ⟨_, rfl⟩
  have hg0 : ¬ c0 < (0 : Int32) := by rw [hc_0]; exact own_r16.1
  have hh0 : ¬ (65535 : Int32) < c0 := by rw [hc_0]; exact own_r16.2
  obtain ⟨c1, hc_1⟩ : ∃ z, z = (((i0.toUInt32 >>> ((16 : Int32) &&& 31).toUInt32).toInt32) &&& (65535 : Int32)) := ⟨_, rfl⟩
  have hg1 : ¬ c1 < (0 : Int32) := by rw [hc_1]; exact own_r16.1
  have hh1 : ¬ (65535 : Int32) < c1 := by rw [hc_1]; exact own_r16.2
  obtain ⟨c2, hc_2⟩ : ∃ z, z = (i1 &&& (65535 : Int32)) := ⟨_, rfl⟩
  have hg2 : ¬ c2 < (0 : Int32) := by rw [hc_2]; exact own_r16.1
  have hh2 : ¬ (65535 : Int32) < c2 := by rw [hc_2]; exact own_r16.2
  obtain ⟨c3, hc_3⟩ : ∃ z, z = (((i1.toUInt32 >>> ((16 : Int32) &&& 31).toUInt32).toInt32) &&& (65535 : Int32)) := ⟨_, rfl⟩
  have hg3 : ¬ c3 < (0 : Int32) := by rw [hc_3]; exact own_r16.1
  have hh3 : ¬ (65535 : Int32) < c3 := by rw [hc_3]; exact own_r16.2
  rw [← hc_0, ← hc_1, ← hc_2, ← hc_3] at V_b1
  obtain ⟨T10, h10, X10, e10, E10, A10, D10, U10, st10⟩ := newO X9 hx hZ hown (ow hw 2 rfl) (ow hw 3 rfl) (ow hw 4 rfl) e9 (g := (mkF m 47 #[iv i0, iv i1, iv i2, iv i3, rv b1, .unset, .unset, .unset, .unset, .unset] [])) rfl (hb hby at_47) (by decide) (by decide)
  obtain ⟨b10, g10⟩ : ∃ z, z = h9.size := ⟨_, rfl⟩
  rw [← g10] at A10 D10 U10 st10
  have g_b10 : n0 ≤ b10 := Nat.le_trans (by have := O.2.1; rw [O.1] at this; exact this) (Nat.le_of_eq g10.symm)
  have ne_b1_b10 : b1 ≠ b10 := Nat.ne_of_lt (Nat.lt_of_lt_of_le V_b1.lt (Nat.le_of_eq g10.symm))
  have V_b1 := V_b1.ext E10
  have O := O.ext E10
  have E_b10 := A10
  have F_coder_b10 : Fld Z h10 b10 "java/lang/String" "coder" "B" (.int (0 : Int32)) := D10 (Or.inr (ow hw 28 rfl)) (ty := .byte) (by decide)
  have F_value_b10 : Fld Z h10 b10 "java/lang/String" "value" "[B" .null := D10 (Or.inr (ow hw 30 rfl)) (ty := (.array .byte)) (by decide)
  refine gb st10 ?_
  show G T10 (mkF m 50 #[iv i0, iv i1, iv i2, iv i3, rv b1, .unset, .unset, .unset, .unset, .unset] [.ref b10])
  refine gb (fun _ k => XS.dup X10.here hx rfl (hb hby at_50) rfl rfl (XS.aload X10.here hx rfl (hb hby at_51) rfl rfl k)) ?_
  show G T10 (mkF m 53 #[iv i0, iv i1, iv i2, iv i3, rv b1, .unset, .unset, .unset, .unset, .unset] [.ref b1, .ref b10, .ref b10])
  by_cases hL : own_k c0 c1 c2 c3 = 4
  · skip
    have lt_b1 := V_b1.lt
    have lt_b10 := E_b10.lt
    obtain ⟨_, _, ⟨T11, Lz11, kz11, nz11⟩, -, X11, ⟨Lc11, hQ11, lq11, yq11, zq11⟩, st11⟩ := X10.specialBack hx (y := (⟨"java/lang/String", "<init>", "([C)V"⟩ : MethodName)) rfl hown (mvT hZ (ow hw 5 rfl)) (mvT hZ (ow hw 6 rfl)) (mvT hZ (ow hw 7 rfl)) (by decide) (backOf (W := 1) (rmS1_4 l Z a0 hw [] b10 b1 kA1 c0 c1 c2 c3 h10 n0 O E_b10 F_coder_b10 F_value_b10 g_b10 V_b1 ne_b1_b10 (own_kL hL).1 (own_kL hL).2.1 (own_kL hL).2.2.1 (own_kL hL).2.2.2 zc S_cs hzc) hZ (ow hw 7 rfl) (ow hw 4 rfl) (by decide) (by decide)) (g := (mkF m 53 #[iv i0, iv i1, iv i2, iv i3, rv b1, .unset, .unset, .unset, .unset, .unset] [.ref b1, .ref b10, .ref b10])) rfl (by rw [hml]; rfl) (Steps.refl _) (a := b10) (argsL := [(.ref b1)]) (rest := [(.ref b10)]) (lenOf pd_15 rfl) rfl (by show 2 * 0 + _ ≤ _; exact Nat.le_of_eq rfl) (hb hby at_53) (fun _ _ => ⟨rfl, e10, (by decide : 2 + 1 ≤ _), (by decide : 8 + 4 ≤ _)⟩)
    dsimp only [Pt.U, Pt.locs, Pt.cells, Pt.slots] at X11 lq11 yq11 zq11 st11 hQ11
    subst lq11 yq11 zq11
    obtain ⟨h11, e11⟩ : ∃ z, z = T11.heap := ⟨_, rfl⟩
    rw [← e11] at hQ11
    replace e11 := e11.symm
    obtain ⟨b11, kb11, rfl, Nq11, Kq11, hR11⟩ := hQ11
    have N := Fr.app N Nq11
    have V_b1 := V_b1.keep Kq11 (ninS ne_b1_b10 nin0)
    have E_b10 := E_b10.keep Kq11
    obtain ⟨E_b10, F_coder_b10, F_value_b10, g_b11, sz_b11, V_b11⟩ := hR11
    have O := O.keep Kq11 (allS g_b10 all0)
    have ne_b1_b11 : b1 ≠ b11 := Nat.ne_of_lt (Nat.lt_of_lt_of_le lt_b1 sz_b11)
    have ne_b10_b11 : b10 ≠ b11 := Nat.ne_of_lt (Nat.lt_of_lt_of_le lt_b10 sz_b11)
    refine gb (fun _ k => st11.trans k) ?_
    show G T11 (mkF m 56 #[iv i0, iv i1, iv i2, iv i3, rv b1, .unset, .unset, .unset, .unset, .unset] [.ref b10])
    refine gb (fun _ k => XS.astore X11.here hx rfl (hb hby at_56) rfl rfl (l' := #[iv i0, iv i1, iv i2, iv i3, rv b1, rv b10, .unset, .unset, .unset, .unset]) rfl (XS.iloadN X11.here hx rfl (hb hby at_58) rfl k)) ?_
    show G T11 (mkF m 59 #[iv i0, iv i1, iv i2, iv i3, rv b1, rv b10, .unset, .unset, .unset, .unset] [.int i2])
    refine gb (X11.ldcInt hx hown (mvT hZ (ow hw 31 rfl)) (g := (mkF m 59 #[iv i0, iv i1, iv i2, iv i3, rv b1, rv b10, .unset, .unset, .unset, .unset] [.int i2])) rfl (hb hby at_59)) ?_
    show G T11 (mkF m 61 #[iv i0, iv i1, iv i2, iv i3, rv b1, rv b10, .unset, .unset, .unset, .unset] [.int 2147483647, .int i2])
    refine gb (fun _ k => XS.iand X11.here hx rfl (hb hby at_61) rfl (XS.iconst X11.here hx rfl (hb hby at_62) (iremM X11 hx rfl (hb hby at_63) rfl (by decide) (XS.istore X11.here hx rfl (hb hby at_64) rfl (l' := #[iv i0, iv i1, iv i2, iv i3, rv b1, rv b10, iv ((i2 &&& (2147483647 : Int32)) % (5 : Int32)), .unset, .unset, .unset]) rfl (XS.iloadN X11.here hx rfl (hb hby at_66) rfl k))))) ?_
    show G T11 (mkF m 67 #[iv i0, iv i1, iv i2, iv i3, rv b1, rv b10, iv ((i2 &&& (2147483647 : Int32)) % (5 : Int32)), .unset, .unset, .unset] [.int i3])
    refine gb (X11.ldcInt hx hown (mvT hZ (ow hw 31 rfl)) (g := (mkF m 67 #[iv i0, iv i1, iv i2, iv i3, rv b1, rv b10, iv ((i2 &&& (2147483647 : Int32)) % (5 : Int32)), .unset, .unset, .unset] [.int i3])) rfl (hb hby at_67)) ?_
    show G T11 (mkF m 69 #[iv i0, iv i1, iv i2, iv i3, rv b1, rv b10, iv ((i2 &&& (2147483647 : Int32)) % (5 : Int32)), .unset, .unset, .unset] [.int 2147483647, .int i3])
    refine gb (fun _ k => XS.iand X11.here hx rfl (hb hby at_69) rfl (XS.iconst X11.here hx rfl (hb hby at_70) (iremM X11 hx rfl (hb hby at_71) rfl (by decide) (XS.istore X11.here hx rfl (hb hby at_72) rfl (l' := #[iv i0, iv i1, iv i2, iv i3, rv b1, rv b10, iv ((i2 &&& (2147483647 : Int32)) % (5 : Int32)), iv ((i3 &&& (2147483647 : Int32)) % (5 : Int32)), .unset, .unset]) rfl k)))) ?_
    show G T11 (mkF m 74 #[iv i0, iv i1, iv i2, iv i3, rv b1, rv b10, iv ((i2 &&& (2147483647 : Int32)) % (5 : Int32)), iv ((i3 &&& (2147483647 : Int32)) % (5 : Int32)), .unset, .unset] [])
    have J12 : ∀ (T12 : State) (locs12 : List Loc) (X12 : Stand p l e room_1 s m #[(.int i0), (.int i1), (.int i2), (.int i3)] below meth c T12 locs12 3 12) (N : Fr n0 locs12) (e12 : T12.heap = h11)  (fr : Int32) (to : Int32) (hfr : 0 ≤ fr.toInt ∧ fr.toInt ≤ 4) (hto : 0 ≤ to.toInt ∧ to.toInt ≤ 4), G T12 (mkF m 74 #[iv i0, iv i1, iv i2, iv i3, rv b1, rv b10, iv fr, iv to, .unset, .unset] []) := by
      intro T12 locs12 X12 N e12  fr to hfr hto
      show G T12 (mkF m 74 #[iv i0, iv i1, iv i2, iv i3, rv b1, rv b10, iv fr, iv to, .unset, .unset] [])
      refine gb (fun _ k => XS.iload X12.here hx rfl (hb hby at_74) rfl k) ?_
      show G T12 (mkF m 76 #[iv i0, iv i1, iv i2, iv i3, rv b1, rv b10, iv fr, iv to, .unset, .unset] [.int fr])
      have J13 : ∀ (T13 : State) (locs13 : List Loc) (X13 : Stand p l e room_1 s m #[(.int i0), (.int i1), (.int i2), (.int i3)] below meth c T13 locs13 3 12) (N : Fr n0 locs13) (e13 : T13.heap = h11)  (ex : Int32) (hex : (if fr < to ∧ own_fine 0 fr to c0 ∧ own_fine 1 fr to c1 ∧ own_fine 2 fr to c2 ∧ own_fine 3 fr to c3 then (1 : Int32) else (0 : Int32)) = ex), G T13 (mkF m 146 #[iv i0, iv i1, iv i2, iv i3, rv b1, rv b10, iv fr, iv to, .unset, .unset] [.int ex]) := by
        intro T13 locs13 X13 N e13  ex hex
        show G T13 (mkF m 146 #[iv i0, iv i1, iv i2, iv i3, rv b1, rv b10, iv fr, iv to, .unset, .unset] [.int ex])
        refine gb (fun _ k => XS.istore X13.here hx rfl (hb hby at_146) rfl (l' := #[iv i0, iv i1, iv i2, iv i3, rv b1, rv b10, iv fr, iv to, iv ex, .unset]) rfl k) ?_
        show G T13 (mkF m 148 #[iv i0, iv i1, iv i2, iv i3, rv b1, rv b10, iv fr, iv to, iv ex, .unset] [])
        have dA : Decidable (own_all c0 c1 c2 c3 fr to) := decidable_of_iff _ (own_alln hfr hto).symm
        have hex2 : (if own_all c0 c1 c2 c3 fr to then (1 : Int32) else (0 : Int32)) = ex := by
          rw [← hex]
          by_cases q : own_all c0 c1 c2 c3 fr to
          · rw [if_pos q, if_pos ((own_alln hfr hto).mp q)]
          · rw [if_neg q, if_neg (fun z => q ((own_alln hfr hto).mpr z))]
        refine gb (fun _ k => XS.aload X13.here hx rfl (hb hby at_148) rfl rfl (XS.iload X13.here hx rfl (hb hby at_150) rfl (XS.iload X13.here hx rfl (hb hby at_152) rfl k))) ?_
        show G T13 (mkF m 154 #[iv i0, iv i1, iv i2, iv i3, rv b1, rv b10, iv fr, iv to, iv ex, .unset] [.int to, .int fr, .ref b10])
        obtain ⟨_, _, ⟨T14, Lz14, kz14, nz14⟩, -, X14, ⟨Lc14, hQ14, lq14, yq14, zq14⟩, st14⟩ := Jvm.LawKit.callS X13 hx (y := (⟨"com/example/vestry/vestry/input/ValueChecks", "digits", "(Ljava/lang/String;II)Z"⟩ : MethodName)) hown (mvT hZ (ow hw 32 rfl)) (mvT hZ (ow hw 33 rfl)) (mvT hZ (ow hw 34 rfl)) (mvT hZ (ow hw 35 rfl)) (by decide) (backOf (W := 0) (rmDIL l Z a0 hw [] b10 b11 fr to kb11 c0 c1 c2 c3 sf hr_sf S_sf S_ad S_hi S_lo h11 n0 O zc S_cs hzc E_b10 F_coder_b10 F_value_b10 V_b11 hg0 hg1 hg2 hg3 (own_kL hL).1 (own_kL hL).2.1 (own_kL hL).2.2.1 (own_kL hL).2.2.2 hfr hto dA ex hex2) hZ (ow hw 35 rfl) (ow hw 34 rfl) (by decide) (by decide)) (g := (mkF m 154 #[iv i0, iv i1, iv i2, iv i3, rv b1, rv b10, iv fr, iv to, iv ex, .unset] [.int to, .int fr, .ref b10])) rfl (by rw [hml]; rfl) (argsL := [(.ref b10), (.int fr), (.int to)]) (rest := []) (lenOf pd_16 rfl) rfl (by show 2 * 0 + _ ≤ _; exact Nat.le_of_eq rfl) (hb hby at_154) (fun _ _ => ⟨rfl, e13, (by decide : 3 + 0 ≤ _), (by decide : 12 + 0 ≤ _)⟩)
        dsimp only [Pt.U, Pt.locs, Pt.cells, Pt.slots] at X14 lq14 yq14 zq14 st14 hQ14
        subst lq14 yq14 zq14
        obtain ⟨rfl, rfl, e14⟩ := hQ14
        try rw [List.append_nil] at X14
        refine gb st14 ?_
        show G T14 (mkF m 157 #[iv i0, iv i1, iv i2, iv i3, rv b1, rv b10, iv fr, iv to, iv ex, .unset] [.int ex])
        refine gb (fun _ k => XS.istore X14.here hx rfl (hb hby at_157) rfl (l' := #[iv i0, iv i1, iv i2, iv i3, rv b1, rv b10, iv fr, iv to, iv ex, iv ex]) rfl (XS.iload X14.here hx rfl (hb hby at_159) rfl (XS.iload X14.here hx rfl (hb hby at_161) rfl (XS.icmpNo X14.here hx rfl (hb hby at_163) rfl (teq (rfl : ex = ex)).2 (XS.iconst X14.here hx rfl (hb hby at_166) (XS.goto X14.here hx rfl (pc0 := 167) (pc' := 171) rfl (hb hby at_167) (by decide) (by decide) k)))))) ?_
        show G T14 (mkF m 171 #[iv i0, iv i1, iv i2, iv i3, rv b1, rv b10, iv fr, iv to, iv ex, iv ex] [.int 1])
        exact go X14 (v := (some (.int (1 : Int32)))) (fun h => by rw [Bd.returns] at h; cases h) (fun fs hr => retOut X14 hx Bd.returns rfl (Or.inl ⟨rfl, by simp, _, rfl⟩) (hb hby at_171) hr) (⟨rfl, N⟩) (by decide) (by decide)
      refine gb (fun _ k => XS.iload X12.here hx rfl (hb hby at_76) rfl k) ?_
      show G T12 (mkF m 78 #[iv i0, iv i1, iv i2, iv i3, rv b1, rv b10, iv fr, iv to, .unset, .unset] [.int to, .int fr])
      by_cases hc78 : fr < to
      · skip
        refine gb (fun _ k => XS.icmpNo X12.here hx rfl (hb hby at_78) rfl (tlt hc78).2.1 (XS.iconst X12.here hx rfl (hb hby at_81) (XS.iload X12.here hx rfl (hb hby at_82) rfl (XS.iload X12.here hx rfl (hb hby at_84) rfl (XS.aload X12.here hx rfl (hb hby at_86) rfl rfl (XS.iconst X12.here hx rfl (hb hby at_88) k)))))) ?_
        show G T12 (mkF m 89 #[iv i0, iv i1, iv i2, iv i3, rv b1, rv b10, iv fr, iv to, .unset, .unset] [.int 0, .ref b1, .int to, .int fr, .int 0])
        have V'15 := V_b1
        obtain ⟨cl15, Ar15, qk15, sz15, nn15, hs15, ft15⟩ := V'15
        have hin15 : ¬ ((0 : Int32) < 0 ∨ cl15.slots.size ≤ ((0 : Int32)).toNatClampNeg) := inb_of sz15 ⟨by decide, by decide⟩
        have hat15 : cl15.slots[((0 : Int32)).toNatClampNeg]? = some (.int c0) := hs15.at hin15 rfl
        refine gb (X12.caload hx (j := (0 : Int32)) (v := (.int c0)) (by rw [e12]; exact Ar15.1) (State.isArrayOf_alike hZ.alike Ar15.2.1) Ar15.2.2 hin15 hat15 (g := (mkF m 89 #[iv i0, iv i1, iv i2, iv i3, rv b1, rv b10, iv fr, iv to, .unset, .unset] [.int 0, .ref b1, .int to, .int fr, .int 0])) rfl rfl (hb hby at_89)) ?_
        show G T12 (mkF m 90 #[iv i0, iv i1, iv i2, iv i3, rv b1, rv b10, iv fr, iv to, .unset, .unset] [.int c0, .int to, .int fr, .int 0])
        obtain ⟨_, _, ⟨T16, Lz16, kz16, nz16⟩, -, X16, ⟨Lc16, hQ16, lq16, yq16, zq16⟩, st16⟩ := Jvm.LawKit.callS X12 hx (y := (⟨"com/example/vestry/vestry/input/ValueChecksDigitsPinLaw", "fine", "(IIIC)Z"⟩ : MethodName)) hown (mvT hZ (ow hw 55 rfl)) (mvT hZ (ow hw 56 rfl)) (mvT hZ (ow hw 57 rfl)) (mvT hZ (ow hw 58 rfl)) (by decide) (backOf (W := 0) (rmFN l Z a0 hw [] (0 : Int32) fr to c0 h11 n0 O) hZ (ow hw 58 rfl) (ow hw 57 rfl) (by decide) (by decide)) (g := (mkF m 90 #[iv i0, iv i1, iv i2, iv i3, rv b1, rv b10, iv fr, iv to, .unset, .unset] [.int c0, .int to, .int fr, .int 0])) rfl (by rw [hml]; rfl) (argsL := [(.int (0 : Int32)), (.int fr), (.int to), (.int c0)]) (rest := []) (lenOf pd_17 rfl) rfl (by show 2 * 0 + _ ≤ _; exact Nat.le_of_eq rfl) (hb hby at_90) (fun _ _ => ⟨rfl, e12, (by decide : 3 + 0 ≤ _), (by decide : 12 + 0 ≤ _)⟩)
        dsimp only [Pt.U, Pt.locs, Pt.cells, Pt.slots] at X16 lq16 yq16 zq16 st16 hQ16
        subst lq16 yq16 zq16
        obtain ⟨rfl, rfl, e16⟩ := hQ16
        try rw [List.append_nil] at X16
        refine gb st16 ?_
        show G T16 (mkF m 93 #[iv i0, iv i1, iv i2, iv i3, rv b1, rv b10, iv fr, iv to, .unset, .unset] [.int (if own_fine (0 : Int32) fr to c0 then (1 : Int32) else (0 : Int32))])
        by_cases hc93 : (if own_fine (0 : Int32) fr to c0 then (1 : Int32) else (0 : Int32)) = (0 : Int32)
        · skip
          refine gb (fun _ k => XS.ifYes X16.here hx rfl (pc0 := 93) (pc' := 145) rfl (hb hby at_93) rfl ((if0 _ _).trans (teq hc93).1) (by decide) (by decide) (XS.iconst X16.here hx rfl (hb hby at_145) k)) ?_
          show G T16 (mkF m 146 #[iv i0, iv i1, iv i2, iv i3, rv b1, rv b10, iv fr, iv to, .unset, .unset] [.int 0])
          exact J13 _ _ X16 N e16  ((0 : Int32)) (by rw [if_neg (fun q => own_e0 hc93 q.2.1)])
        · skip
          refine gb (fun _ k => XS.ifNo X16.here hx rfl (hb hby at_93) rfl ((if0 _ _).trans (feq hc93).1) (XS.iconst X16.here hx rfl (hb hby at_96) (XS.iload X16.here hx rfl (hb hby at_97) rfl (XS.iload X16.here hx rfl (hb hby at_99) rfl (XS.aload X16.here hx rfl (hb hby at_101) rfl rfl (XS.iconst X16.here hx rfl (hb hby at_103) k)))))) ?_
          show G T16 (mkF m 104 #[iv i0, iv i1, iv i2, iv i3, rv b1, rv b10, iv fr, iv to, .unset, .unset] [.int 1, .ref b1, .int to, .int fr, .int 1])
          have V'17 := V_b1
          obtain ⟨cl17, Ar17, qk17, sz17, nn17, hs17, ft17⟩ := V'17
          have hin17 : ¬ ((1 : Int32) < 0 ∨ cl17.slots.size ≤ ((1 : Int32)).toNatClampNeg) := inb_of sz17 ⟨by decide, by decide⟩
          have hat17 : cl17.slots[((1 : Int32)).toNatClampNeg]? = some (.int c1) := hs17.at hin17 rfl
          refine gb (X16.caload hx (j := (1 : Int32)) (v := (.int c1)) (by rw [e16]; exact Ar17.1) (State.isArrayOf_alike hZ.alike Ar17.2.1) Ar17.2.2 hin17 hat17 (g := (mkF m 104 #[iv i0, iv i1, iv i2, iv i3, rv b1, rv b10, iv fr, iv to, .unset, .unset] [.int 1, .ref b1, .int to, .int fr, .int 1])) rfl rfl (hb hby at_104)) ?_
          show G T16 (mkF m 105 #[iv i0, iv i1, iv i2, iv i3, rv b1, rv b10, iv fr, iv to, .unset, .unset] [.int c1, .int to, .int fr, .int 1])
          obtain ⟨_, _, ⟨T18, Lz18, kz18, nz18⟩, -, X18, ⟨Lc18, hQ18, lq18, yq18, zq18⟩, st18⟩ := Jvm.LawKit.callS X16 hx (y := (⟨"com/example/vestry/vestry/input/ValueChecksDigitsPinLaw", "fine", "(IIIC)Z"⟩ : MethodName)) hown (mvT hZ (ow hw 55 rfl)) (mvT hZ (ow hw 56 rfl)) (mvT hZ (ow hw 57 rfl)) (mvT hZ (ow hw 58 rfl)) (by decide) (backOf (W := 0) (rmFN l Z a0 hw [] (1 : Int32) fr to c1 h11 n0 O) hZ (ow hw 58 rfl) (ow hw 57 rfl) (by decide) (by decide)) (g := (mkF m 105 #[iv i0, iv i1, iv i2, iv i3, rv b1, rv b10, iv fr, iv to, .unset, .unset] [.int c1, .int to, .int fr, .int 1])) rfl (by rw [hml]; rfl) (argsL := [(.int (1 : Int32)), (.int fr), (.int to), (.int c1)]) (rest := []) (lenOf pd_17 rfl) rfl (by show 2 * 0 + _ ≤ _; exact Nat.le_of_eq rfl) (hb hby at_105) (fun _ _ => ⟨rfl, e16, (by decide : 3 + 0 ≤ _), (by decide : 12 + 0 ≤ _)⟩)
          dsimp only [Pt.U, Pt.locs, Pt.cells, Pt.slots] at X18 lq18 yq18 zq18 st18 hQ18
          subst lq18 yq18 zq18
          obtain ⟨rfl, rfl, e18⟩ := hQ18
          try rw [List.append_nil] at X18
          refine gb st18 ?_
          show G T18 (mkF m 108 #[iv i0, iv i1, iv i2, iv i3, rv b1, rv b10, iv fr, iv to, .unset, .unset] [.int (if own_fine (1 : Int32) fr to c1 then (1 : Int32) else (0 : Int32))])
          by_cases hc108 : (if own_fine (1 : Int32) fr to c1 then (1 : Int32) else (0 : Int32)) = (0 : Int32)
          · skip
            refine gb (fun _ k => XS.ifYes X18.here hx rfl (pc0 := 108) (pc' := 145) rfl (hb hby at_108) rfl ((if0 _ _).trans (teq hc108).1) (by decide) (by decide) (XS.iconst X18.here hx rfl (hb hby at_145) k)) ?_
            show G T18 (mkF m 146 #[iv i0, iv i1, iv i2, iv i3, rv b1, rv b10, iv fr, iv to, .unset, .unset] [.int 0])
            exact J13 _ _ X18 N e18  ((0 : Int32)) (by rw [if_neg (fun q => own_e0 hc108 q.2.2.1)])
          · skip
            refine gb (fun _ k => XS.ifNo X18.here hx rfl (hb hby at_108) rfl ((if0 _ _).trans (feq hc108).1) (XS.iconst X18.here hx rfl (hb hby at_111) (XS.iload X18.here hx rfl (hb hby at_112) rfl (XS.iload X18.here hx rfl (hb hby at_114) rfl (XS.aload X18.here hx rfl (hb hby at_116) rfl rfl (XS.iconst X18.here hx rfl (hb hby at_118) k)))))) ?_
            show G T18 (mkF m 119 #[iv i0, iv i1, iv i2, iv i3, rv b1, rv b10, iv fr, iv to, .unset, .unset] [.int 2, .ref b1, .int to, .int fr, .int 2])
            have V'19 := V_b1
            obtain ⟨cl19, Ar19, qk19, sz19, nn19, hs19, ft19⟩ := V'19
            have hin19 : ¬ ((2 : Int32) < 0 ∨ cl19.slots.size ≤ ((2 : Int32)).toNatClampNeg) := inb_of sz19 ⟨by decide, by decide⟩
            have hat19 : cl19.slots[((2 : Int32)).toNatClampNeg]? = some (.int c2) := hs19.at hin19 rfl
            refine gb (X18.caload hx (j := (2 : Int32)) (v := (.int c2)) (by rw [e18]; exact Ar19.1) (State.isArrayOf_alike hZ.alike Ar19.2.1) Ar19.2.2 hin19 hat19 (g := (mkF m 119 #[iv i0, iv i1, iv i2, iv i3, rv b1, rv b10, iv fr, iv to, .unset, .unset] [.int 2, .ref b1, .int to, .int fr, .int 2])) rfl rfl (hb hby at_119)) ?_
            show G T18 (mkF m 120 #[iv i0, iv i1, iv i2, iv i3, rv b1, rv b10, iv fr, iv to, .unset, .unset] [.int c2, .int to, .int fr, .int 2])
            obtain ⟨_, _, ⟨T20, Lz20, kz20, nz20⟩, -, X20, ⟨Lc20, hQ20, lq20, yq20, zq20⟩, st20⟩ := Jvm.LawKit.callS X18 hx (y := (⟨"com/example/vestry/vestry/input/ValueChecksDigitsPinLaw", "fine", "(IIIC)Z"⟩ : MethodName)) hown (mvT hZ (ow hw 55 rfl)) (mvT hZ (ow hw 56 rfl)) (mvT hZ (ow hw 57 rfl)) (mvT hZ (ow hw 58 rfl)) (by decide) (backOf (W := 0) (rmFN l Z a0 hw [] (2 : Int32) fr to c2 h11 n0 O) hZ (ow hw 58 rfl) (ow hw 57 rfl) (by decide) (by decide)) (g := (mkF m 120 #[iv i0, iv i1, iv i2, iv i3, rv b1, rv b10, iv fr, iv to, .unset, .unset] [.int c2, .int to, .int fr, .int 2])) rfl (by rw [hml]; rfl) (argsL := [(.int (2 : Int32)), (.int fr), (.int to), (.int c2)]) (rest := []) (lenOf pd_17 rfl) rfl (by show 2 * 0 + _ ≤ _; exact Nat.le_of_eq rfl) (hb hby at_120) (fun _ _ => ⟨rfl, e18, (by decide : 3 + 0 ≤ _), (by decide : 12 + 0 ≤ _)⟩)
            dsimp only [Pt.U, Pt.locs, Pt.cells, Pt.slots] at X20 lq20 yq20 zq20 st20 hQ20
            subst lq20 yq20 zq20
            obtain ⟨rfl, rfl, e20⟩ := hQ20
            try rw [List.append_nil] at X20
            refine gb st20 ?_
            show G T20 (mkF m 123 #[iv i0, iv i1, iv i2, iv i3, rv b1, rv b10, iv fr, iv to, .unset, .unset] [.int (if own_fine (2 : Int32) fr to c2 then (1 : Int32) else (0 : Int32))])
            by_cases hc123 : (if own_fine (2 : Int32) fr to c2 then (1 : Int32) else (0 : Int32)) = (0 : Int32)
            · skip
              refine gb (fun _ k => XS.ifYes X20.here hx rfl (pc0 := 123) (pc' := 145) rfl (hb hby at_123) rfl ((if0 _ _).trans (teq hc123).1) (by decide) (by decide) (XS.iconst X20.here hx rfl (hb hby at_145) k)) ?_
              show G T20 (mkF m 146 #[iv i0, iv i1, iv i2, iv i3, rv b1, rv b10, iv fr, iv to, .unset, .unset] [.int 0])
              exact J13 _ _ X20 N e20  ((0 : Int32)) (by rw [if_neg (fun q => own_e0 hc123 q.2.2.2.1)])
            · skip
              refine gb (fun _ k => XS.ifNo X20.here hx rfl (hb hby at_123) rfl ((if0 _ _).trans (feq hc123).1) (XS.iconst X20.here hx rfl (hb hby at_126) (XS.iload X20.here hx rfl (hb hby at_127) rfl (XS.iload X20.here hx rfl (hb hby at_129) rfl (XS.aload X20.here hx rfl (hb hby at_131) rfl rfl (XS.iconst X20.here hx rfl (hb hby at_133) k)))))) ?_
              show G T20 (mkF m 134 #[iv i0, iv i1, iv i2, iv i3, rv b1, rv b10, iv fr, iv to, .unset, .unset] [.int 3, .ref b1, .int to, .int fr, .int 3])
              have V'21 := V_b1
              obtain ⟨cl21, Ar21, qk21, sz21, nn21, hs21, ft21⟩ := V'21
              have hin21 : ¬ ((3 : Int32) < 0 ∨ cl21.slots.size ≤ ((3 : Int32)).toNatClampNeg) := inb_of sz21 ⟨by decide, by decide⟩
              have hat21 : cl21.slots[((3 : Int32)).toNatClampNeg]? = some (.int c3) := hs21.at hin21 rfl
              refine gb (X20.caload hx (j := (3 : Int32)) (v := (.int c3)) (by rw [e20]; exact Ar21.1) (State.isArrayOf_alike hZ.alike Ar21.2.1) Ar21.2.2 hin21 hat21 (g := (mkF m 134 #[iv i0, iv i1, iv i2, iv i3, rv b1, rv b10, iv fr, iv to, .unset, .unset] [.int 3, .ref b1, .int to, .int fr, .int 3])) rfl rfl (hb hby at_134)) ?_
              show G T20 (mkF m 135 #[iv i0, iv i1, iv i2, iv i3, rv b1, rv b10, iv fr, iv to, .unset, .unset] [.int c3, .int to, .int fr, .int 3])
              obtain ⟨_, _, ⟨T22, Lz22, kz22, nz22⟩, -, X22, ⟨Lc22, hQ22, lq22, yq22, zq22⟩, st22⟩ := Jvm.LawKit.callS X20 hx (y := (⟨"com/example/vestry/vestry/input/ValueChecksDigitsPinLaw", "fine", "(IIIC)Z"⟩ : MethodName)) hown (mvT hZ (ow hw 55 rfl)) (mvT hZ (ow hw 56 rfl)) (mvT hZ (ow hw 57 rfl)) (mvT hZ (ow hw 58 rfl)) (by decide) (backOf (W := 0) (rmFN l Z a0 hw [] (3 : Int32) fr to c3 h11 n0 O) hZ (ow hw 58 rfl) (ow hw 57 rfl) (by decide) (by decide)) (g := (mkF m 135 #[iv i0, iv i1, iv i2, iv i3, rv b1, rv b10, iv fr, iv to, .unset, .unset] [.int c3, .int to, .int fr, .int 3])) rfl (by rw [hml]; rfl) (argsL := [(.int (3 : Int32)), (.int fr), (.int to), (.int c3)]) (rest := []) (lenOf pd_17 rfl) rfl (by show 2 * 0 + _ ≤ _; exact Nat.le_of_eq rfl) (hb hby at_135) (fun _ _ => ⟨rfl, e20, (by decide : 3 + 0 ≤ _), (by decide : 12 + 0 ≤ _)⟩)
              dsimp only [Pt.U, Pt.locs, Pt.cells, Pt.slots] at X22 lq22 yq22 zq22 st22 hQ22
              subst lq22 yq22 zq22
              obtain ⟨rfl, rfl, e22⟩ := hQ22
              try rw [List.append_nil] at X22
              refine gb st22 ?_
              show G T22 (mkF m 138 #[iv i0, iv i1, iv i2, iv i3, rv b1, rv b10, iv fr, iv to, .unset, .unset] [.int (if own_fine (3 : Int32) fr to c3 then (1 : Int32) else (0 : Int32))])
              by_cases hc138 : (if own_fine (3 : Int32) fr to c3 then (1 : Int32) else (0 : Int32)) = (0 : Int32)
              · skip
                refine gb (fun _ k => XS.ifYes X22.here hx rfl (pc0 := 138) (pc' := 145) rfl (hb hby at_138) rfl ((if0 _ _).trans (teq hc138).1) (by decide) (by decide) (XS.iconst X22.here hx rfl (hb hby at_145) k)) ?_
                show G T22 (mkF m 146 #[iv i0, iv i1, iv i2, iv i3, rv b1, rv b10, iv fr, iv to, .unset, .unset] [.int 0])
                exact J13 _ _ X22 N e22  ((0 : Int32)) (by rw [if_neg (fun q => own_e0 hc138 q.2.2.2.2)])
              · skip
                refine gb (fun _ k => XS.ifNo X22.here hx rfl (hb hby at_138) rfl ((if0 _ _).trans (feq hc138).1) (XS.iconst X22.here hx rfl (hb hby at_141) (XS.goto X22.here hx rfl (pc0 := 142) (pc' := 146) rfl (hb hby at_142) (by decide) (by decide) k))) ?_
                show G T22 (mkF m 146 #[iv i0, iv i1, iv i2, iv i3, rv b1, rv b10, iv fr, iv to, .unset, .unset] [.int 1])
                exact J13 _ _ X22 N e22  ((1 : Int32)) (by rw [if_pos ⟨hc78, own_e1 hc93, own_e1 hc108, own_e1 hc123, own_e1 hc138⟩])
      · skip
        refine gb (fun _ k => XS.icmpYes X12.here hx rfl (pc0 := 78) (pc' := 145) rfl (hb hby at_78) rfl (flt hc78).2.1 (by decide) (by decide) (XS.iconst X12.here hx rfl (hb hby at_145) k)) ?_
        show G T12 (mkF m 146 #[iv i0, iv i1, iv i2, iv i3, rv b1, rv b10, iv fr, iv to, .unset, .unset] [.int 0])
        exact J13 _ _ X12 N e12  ((0 : Int32)) (by rw [if_neg (fun q => hc78 q.1)])
    exact J12 _ _ X11 N e11  (((i2 &&& (2147483647 : Int32)) % (5 : Int32))) (((i3 &&& (2147483647 : Int32)) % (5 : Int32))) (own_m5 _) (own_m5 _)
  · skip
    have lt_b1 := V_b1.lt
    have lt_b10 := E_b10.lt
    obtain ⟨_, _, ⟨T23, Lz23, kz23, nz23⟩, -, X23, ⟨Lc23, hQ23, lq23, yq23, zq23⟩, st23⟩ := X10.specialBack hx (y := (⟨"java/lang/String", "<init>", "([C)V"⟩ : MethodName)) rfl hown (mvT hZ (ow hw 5 rfl)) (mvT hZ (ow hw 6 rfl)) (mvT hZ (ow hw 7 rfl)) (by decide) (backOf (W := 1) (rmS1U l Z a0 hw [] b10 b1 kA1 c0 c1 c2 c3 h10 n0 O S_ad S_hi S_lo E_b10 F_coder_b10 F_value_b10 g_b10 V_b1 ne_b1_b10 hL hg0 hh0 hg1 hh1 hg2 hh2 hg3 hh3 zc S_cs hzc) hZ (ow hw 7 rfl) (ow hw 4 rfl) (by decide) (by decide)) (g := (mkF m 53 #[iv i0, iv i1, iv i2, iv i3, rv b1, .unset, .unset, .unset, .unset, .unset] [.ref b1, .ref b10, .ref b10])) rfl (by rw [hml]; rfl) (Steps.refl _) (a := b10) (argsL := [(.ref b1)]) (rest := [(.ref b10)]) (lenOf pd_15 rfl) rfl (by show 2 * 0 + _ ≤ _; exact Nat.le_of_eq rfl) (hb hby at_53) (fun _ _ => ⟨rfl, e10, (by decide : 2 + 2 ≤ _), (by decide : 8 + 12 ≤ _)⟩)
    dsimp only [Pt.U, Pt.locs, Pt.cells, Pt.slots] at X23 lq23 yq23 zq23 st23 hQ23
    subst lq23 yq23 zq23
    obtain ⟨h23, e23⟩ : ∃ z, z = T23.heap := ⟨_, rfl⟩
    rw [← e23] at hQ23
    replace e23 := e23.symm
    obtain ⟨b23, kb23, rfl, Nq23, Kq23, hR23⟩ := hQ23
    have N := Fr.app N Nq23
    have V_b1 := V_b1.keep Kq23 (ninS ne_b1_b10 nin0)
    have E_b10 := E_b10.keep Kq23
    obtain ⟨E_b10, F_coder_b10, F_value_b10, g_b23, sz_b23, V_b23⟩ := hR23
    have O := O.keep Kq23 (allS g_b10 all0)
    have ne_b1_b23 : b1 ≠ b23 := Nat.ne_of_lt (Nat.lt_of_lt_of_le lt_b1 sz_b23)
    have ne_b10_b23 : b10 ≠ b23 := Nat.ne_of_lt (Nat.lt_of_lt_of_le lt_b10 sz_b23)
    refine gb (fun _ k => st23.trans k) ?_
    show G T23 (mkF m 56 #[iv i0, iv i1, iv i2, iv i3, rv b1, .unset, .unset, .unset, .unset, .unset] [.ref b10])
    refine gb (fun _ k => XS.astore X23.here hx rfl (hb hby at_56) rfl rfl (l' := #[iv i0, iv i1, iv i2, iv i3, rv b1, rv b10, .unset, .unset, .unset, .unset]) rfl (XS.iloadN X23.here hx rfl (hb hby at_58) rfl k)) ?_
    show G T23 (mkF m 59 #[iv i0, iv i1, iv i2, iv i3, rv b1, rv b10, .unset, .unset, .unset, .unset] [.int i2])
    refine gb (X23.ldcInt hx hown (mvT hZ (ow hw 31 rfl)) (g := (mkF m 59 #[iv i0, iv i1, iv i2, iv i3, rv b1, rv b10, .unset, .unset, .unset, .unset] [.int i2])) rfl (hb hby at_59)) ?_
    show G T23 (mkF m 61 #[iv i0, iv i1, iv i2, iv i3, rv b1, rv b10, .unset, .unset, .unset, .unset] [.int 2147483647, .int i2])
    refine gb (fun _ k => XS.iand X23.here hx rfl (hb hby at_61) rfl (XS.iconst X23.here hx rfl (hb hby at_62) (iremM X23 hx rfl (hb hby at_63) rfl (by decide) (XS.istore X23.here hx rfl (hb hby at_64) rfl (l' := #[iv i0, iv i1, iv i2, iv i3, rv b1, rv b10, iv ((i2 &&& (2147483647 : Int32)) % (5 : Int32)), .unset, .unset, .unset]) rfl (XS.iloadN X23.here hx rfl (hb hby at_66) rfl k))))) ?_
    show G T23 (mkF m 67 #[iv i0, iv i1, iv i2, iv i3, rv b1, rv b10, iv ((i2 &&& (2147483647 : Int32)) % (5 : Int32)), .unset, .unset, .unset] [.int i3])
    refine gb (X23.ldcInt hx hown (mvT hZ (ow hw 31 rfl)) (g := (mkF m 67 #[iv i0, iv i1, iv i2, iv i3, rv b1, rv b10, iv ((i2 &&& (2147483647 : Int32)) % (5 : Int32)), .unset, .unset, .unset] [.int i3])) rfl (hb hby at_67)) ?_
    show G T23 (mkF m 69 #[iv i0, iv i1, iv i2, iv i3, rv b1, rv b10, iv ((i2 &&& (2147483647 : Int32)) % (5 : Int32)), .unset, .unset, .unset] [.int 2147483647, .int i3])
    refine gb (fun _ k => XS.iand X23.here hx rfl (hb hby at_69) rfl (XS.iconst X23.here hx rfl (hb hby at_70) (iremM X23 hx rfl (hb hby at_71) rfl (by decide) (XS.istore X23.here hx rfl (hb hby at_72) rfl (l' := #[iv i0, iv i1, iv i2, iv i3, rv b1, rv b10, iv ((i2 &&& (2147483647 : Int32)) % (5 : Int32)), iv ((i3 &&& (2147483647 : Int32)) % (5 : Int32)), .unset, .unset]) rfl k)))) ?_
    show G T23 (mkF m 74 #[iv i0, iv i1, iv i2, iv i3, rv b1, rv b10, iv ((i2 &&& (2147483647 : Int32)) % (5 : Int32)), iv ((i3 &&& (2147483647 : Int32)) % (5 : Int32)), .unset, .unset] [])
    have J24 : ∀ (T24 : State) (locs24 : List Loc) (X24 : Stand p l e room_1 s m #[(.int i0), (.int i1), (.int i2), (.int i3)] below meth c T24 locs24 4 20) (N : Fr n0 locs24) (e24 : T24.heap = h23)  (fr : Int32) (to : Int32) (hfr : 0 ≤ fr.toInt ∧ fr.toInt ≤ 4) (hto : 0 ≤ to.toInt ∧ to.toInt ≤ 4), G T24 (mkF m 74 #[iv i0, iv i1, iv i2, iv i3, rv b1, rv b10, iv fr, iv to, .unset, .unset] []) := by
      intro T24 locs24 X24 N e24  fr to hfr hto
      show G T24 (mkF m 74 #[iv i0, iv i1, iv i2, iv i3, rv b1, rv b10, iv fr, iv to, .unset, .unset] [])
      refine gb (fun _ k => XS.iload X24.here hx rfl (hb hby at_74) rfl k) ?_
      show G T24 (mkF m 76 #[iv i0, iv i1, iv i2, iv i3, rv b1, rv b10, iv fr, iv to, .unset, .unset] [.int fr])
      have J25 : ∀ (T25 : State) (locs25 : List Loc) (X25 : Stand p l e room_1 s m #[(.int i0), (.int i1), (.int i2), (.int i3)] below meth c T25 locs25 4 20) (N : Fr n0 locs25) (e25 : T25.heap = h23)  (ex : Int32) (hex : (if fr < to ∧ own_fine 0 fr to c0 ∧ own_fine 1 fr to c1 ∧ own_fine 2 fr to c2 ∧ own_fine 3 fr to c3 then (1 : Int32) else (0 : Int32)) = ex), G T25 (mkF m 146 #[iv i0, iv i1, iv i2, iv i3, rv b1, rv b10, iv fr, iv to, .unset, .unset] [.int ex]) := by
        intro T25 locs25 X25 N e25  ex hex
        show G T25 (mkF m 146 #[iv i0, iv i1, iv i2, iv i3, rv b1, rv b10, iv fr, iv to, .unset, .unset] [.int ex])
        refine gb (fun _ k => XS.istore X25.here hx rfl (hb hby at_146) rfl (l' := #[iv i0, iv i1, iv i2, iv i3, rv b1, rv b10, iv fr, iv to, iv ex, .unset]) rfl k) ?_
        show G T25 (mkF m 148 #[iv i0, iv i1, iv i2, iv i3, rv b1, rv b10, iv fr, iv to, iv ex, .unset] [])
        have dA : Decidable (own_all c0 c1 c2 c3 fr to) := decidable_of_iff _ (own_alln hfr hto).symm
        have hex2 : (if own_all c0 c1 c2 c3 fr to then (1 : Int32) else (0 : Int32)) = ex := by
          rw [← hex]
          by_cases q : own_all c0 c1 c2 c3 fr to
          · rw [if_pos q, if_pos ((own_alln hfr hto).mp q)]
          · rw [if_neg q, if_neg (fun z => q ((own_alln hfr hto).mpr z))]
        refine gb (fun _ k => XS.aload X25.here hx rfl (hb hby at_148) rfl rfl (XS.iload X25.here hx rfl (hb hby at_150) rfl (XS.iload X25.here hx rfl (hb hby at_152) rfl k))) ?_
        show G T25 (mkF m 154 #[iv i0, iv i1, iv i2, iv i3, rv b1, rv b10, iv fr, iv to, iv ex, .unset] [.int to, .int fr, .ref b10])
        obtain ⟨_, _, ⟨T26, Lz26, kz26, nz26⟩, -, X26, ⟨Lc26, hQ26, lq26, yq26, zq26⟩, st26⟩ := Jvm.LawKit.callS X25 hx (y := (⟨"com/example/vestry/vestry/input/ValueChecks", "digits", "(Ljava/lang/String;II)Z"⟩ : MethodName)) hown (mvT hZ (ow hw 32 rfl)) (mvT hZ (ow hw 33 rfl)) (mvT hZ (ow hw 34 rfl)) (mvT hZ (ow hw 35 rfl)) (by decide) (backOf (W := 0) (rmDIU l Z a0 hw [] b10 b23 fr to kb23 c0 c1 c2 c3 sf hr_sf S_sf S_ad S_hi S_lo h23 n0 O zc S_cs hzc E_b10 F_coder_b10 F_value_b10 V_b23 hg0 hh0 hg1 hh1 hg2 hh2 hg3 hh3 hfr hto dA ex hex2) hZ (ow hw 35 rfl) (ow hw 34 rfl) (by decide) (by decide)) (g := (mkF m 154 #[iv i0, iv i1, iv i2, iv i3, rv b1, rv b10, iv fr, iv to, iv ex, .unset] [.int to, .int fr, .ref b10])) rfl (by rw [hml]; rfl) (argsL := [(.ref b10), (.int fr), (.int to)]) (rest := []) (lenOf pd_16 rfl) rfl (by show 2 * 0 + _ ≤ _; exact Nat.le_of_eq rfl) (hb hby at_154) (fun _ _ => ⟨rfl, e25, (by decide : 4 + 0 ≤ _), (by decide : 20 + 0 ≤ _)⟩)
        dsimp only [Pt.U, Pt.locs, Pt.cells, Pt.slots] at X26 lq26 yq26 zq26 st26 hQ26
        subst lq26 yq26 zq26
        obtain ⟨rfl, rfl, e26⟩ := hQ26
        try rw [List.append_nil] at X26
        refine gb st26 ?_
        show G T26 (mkF m 157 #[iv i0, iv i1, iv i2, iv i3, rv b1, rv b10, iv fr, iv to, iv ex, .unset] [.int ex])
        refine gb (fun _ k => XS.istore X26.here hx rfl (hb hby at_157) rfl (l' := #[iv i0, iv i1, iv i2, iv i3, rv b1, rv b10, iv fr, iv to, iv ex, iv ex]) rfl (XS.iload X26.here hx rfl (hb hby at_159) rfl (XS.iload X26.here hx rfl (hb hby at_161) rfl (XS.icmpNo X26.here hx rfl (hb hby at_163) rfl (teq (rfl : ex = ex)).2 (XS.iconst X26.here hx rfl (hb hby at_166) (XS.goto X26.here hx rfl (pc0 := 167) (pc' := 171) rfl (hb hby at_167) (by decide) (by decide) k)))))) ?_
        show G T26 (mkF m 171 #[iv i0, iv i1, iv i2, iv i3, rv b1, rv b10, iv fr, iv to, iv ex, iv ex] [.int 1])
        exact go X26 (v := (some (.int (1 : Int32)))) (fun h => by rw [Bd.returns] at h; cases h) (fun fs hr => retOut X26 hx Bd.returns rfl (Or.inl ⟨rfl, by simp, _, rfl⟩) (hb hby at_171) hr) (⟨rfl, N⟩) (by decide) (by decide)
      refine gb (fun _ k => XS.iload X24.here hx rfl (hb hby at_76) rfl k) ?_
      show G T24 (mkF m 78 #[iv i0, iv i1, iv i2, iv i3, rv b1, rv b10, iv fr, iv to, .unset, .unset] [.int to, .int fr])
      by_cases hc78 : fr < to
      · skip
        refine gb (fun _ k => XS.icmpNo X24.here hx rfl (hb hby at_78) rfl (tlt hc78).2.1 (XS.iconst X24.here hx rfl (hb hby at_81) (XS.iload X24.here hx rfl (hb hby at_82) rfl (XS.iload X24.here hx rfl (hb hby at_84) rfl (XS.aload X24.here hx rfl (hb hby at_86) rfl rfl (XS.iconst X24.here hx rfl (hb hby at_88) k)))))) ?_
        show G T24 (mkF m 89 #[iv i0, iv i1, iv i2, iv i3, rv b1, rv b10, iv fr, iv to, .unset, .unset] [.int 0, .ref b1, .int to, .int fr, .int 0])
        have V'27 := V_b1
        obtain ⟨cl27, Ar27, qk27, sz27, nn27, hs27, ft27⟩ := V'27
        have hin27 : ¬ ((0 : Int32) < 0 ∨ cl27.slots.size ≤ ((0 : Int32)).toNatClampNeg) := inb_of sz27 ⟨by decide, by decide⟩
        have hat27 : cl27.slots[((0 : Int32)).toNatClampNeg]? = some (.int c0) := hs27.at hin27 rfl
        refine gb (X24.caload hx (j := (0 : Int32)) (v := (.int c0)) (by rw [e24]; exact Ar27.1) (State.isArrayOf_alike hZ.alike Ar27.2.1) Ar27.2.2 hin27 hat27 (g := (mkF m 89 #[iv i0, iv i1, iv i2, iv i3, rv b1, rv b10, iv fr, iv to, .unset, .unset] [.int 0, .ref b1, .int to, .int fr, .int 0])) rfl rfl (hb hby at_89)) ?_
        show G T24 (mkF m 90 #[iv i0, iv i1, iv i2, iv i3, rv b1, rv b10, iv fr, iv to, .unset, .unset] [.int c0, .int to, .int fr, .int 0])
        obtain ⟨_, _, ⟨T28, Lz28, kz28, nz28⟩, -, X28, ⟨Lc28, hQ28, lq28, yq28, zq28⟩, st28⟩ := Jvm.LawKit.callS X24 hx (y := (⟨"com/example/vestry/vestry/input/ValueChecksDigitsPinLaw", "fine", "(IIIC)Z"⟩ : MethodName)) hown (mvT hZ (ow hw 55 rfl)) (mvT hZ (ow hw 56 rfl)) (mvT hZ (ow hw 57 rfl)) (mvT hZ (ow hw 58 rfl)) (by decide) (backOf (W := 0) (rmFN l Z a0 hw [] (0 : Int32) fr to c0 h23 n0 O) hZ (ow hw 58 rfl) (ow hw 57 rfl) (by decide) (by decide)) (g := (mkF m 90 #[iv i0, iv i1, iv i2, iv i3, rv b1, rv b10, iv fr, iv to, .unset, .unset] [.int c0, .int to, .int fr, .int 0])) rfl (by rw [hml]; rfl) (argsL := [(.int (0 : Int32)), (.int fr), (.int to), (.int c0)]) (rest := []) (lenOf pd_17 rfl) rfl (by show 2 * 0 + _ ≤ _; exact Nat.le_of_eq rfl) (hb hby at_90) (fun _ _ => ⟨rfl, e24, (by decide : 4 + 0 ≤ _), (by decide : 20 + 0 ≤ _)⟩)
        dsimp only [Pt.U, Pt.locs, Pt.cells, Pt.slots] at X28 lq28 yq28 zq28 st28 hQ28
        subst lq28 yq28 zq28
        obtain ⟨rfl, rfl, e28⟩ := hQ28
        try rw [List.append_nil] at X28
        refine gb st28 ?_
        show G T28 (mkF m 93 #[iv i0, iv i1, iv i2, iv i3, rv b1, rv b10, iv fr, iv to, .unset, .unset] [.int (if own_fine (0 : Int32) fr to c0 then (1 : Int32) else (0 : Int32))])
        by_cases hc93 : (if own_fine (0 : Int32) fr to c0 then (1 : Int32) else (0 : Int32)) = (0 : Int32)
        · skip
          refine gb (fun _ k => XS.ifYes X28.here hx rfl (pc0 := 93) (pc' := 145) rfl (hb hby at_93) rfl ((if0 _ _).trans (teq hc93).1) (by decide) (by decide) (XS.iconst X28.here hx rfl (hb hby at_145) k)) ?_
          show G T28 (mkF m 146 #[iv i0, iv i1, iv i2, iv i3, rv b1, rv b10, iv fr, iv to, .unset, .unset] [.int 0])
          exact J25 _ _ X28 N e28  ((0 : Int32)) (by rw [if_neg (fun q => own_e0 hc93 q.2.1)])
        · skip
          refine gb (fun _ k => XS.ifNo X28.here hx rfl (hb hby at_93) rfl ((if0 _ _).trans (feq hc93).1) (XS.iconst X28.here hx rfl (hb hby at_96) (XS.iload X28.here hx rfl (hb hby at_97) rfl (XS.iload X28.here hx rfl (hb hby at_99) rfl (XS.aload X28.here hx rfl (hb hby at_101) rfl rfl (XS.iconst X28.here hx rfl (hb hby at_103) k)))))) ?_
          show G T28 (mkF m 104 #[iv i0, iv i1, iv i2, iv i3, rv b1, rv b10, iv fr, iv to, .unset, .unset] [.int 1, .ref b1, .int to, .int fr, .int 1])
          have V'29 := V_b1
          obtain ⟨cl29, Ar29, qk29, sz29, nn29, hs29, ft29⟩ := V'29
          have hin29 : ¬ ((1 : Int32) < 0 ∨ cl29.slots.size ≤ ((1 : Int32)).toNatClampNeg) := inb_of sz29 ⟨by decide, by decide⟩
          have hat29 : cl29.slots[((1 : Int32)).toNatClampNeg]? = some (.int c1) := hs29.at hin29 rfl
          refine gb (X28.caload hx (j := (1 : Int32)) (v := (.int c1)) (by rw [e28]; exact Ar29.1) (State.isArrayOf_alike hZ.alike Ar29.2.1) Ar29.2.2 hin29 hat29 (g := (mkF m 104 #[iv i0, iv i1, iv i2, iv i3, rv b1, rv b10, iv fr, iv to, .unset, .unset] [.int 1, .ref b1, .int to, .int fr, .int 1])) rfl rfl (hb hby at_104)) ?_
          show G T28 (mkF m 105 #[iv i0, iv i1, iv i2, iv i3, rv b1, rv b10, iv fr, iv to, .unset, .unset] [.int c1, .int to, .int fr, .int 1])
          obtain ⟨_, _, ⟨T30, Lz30, kz30, nz30⟩, -, X30, ⟨Lc30, hQ30, lq30, yq30, zq30⟩, st30⟩ := Jvm.LawKit.callS X28 hx (y := (⟨"com/example/vestry/vestry/input/ValueChecksDigitsPinLaw", "fine", "(IIIC)Z"⟩ : MethodName)) hown (mvT hZ (ow hw 55 rfl)) (mvT hZ (ow hw 56 rfl)) (mvT hZ (ow hw 57 rfl)) (mvT hZ (ow hw 58 rfl)) (by decide) (backOf (W := 0) (rmFN l Z a0 hw [] (1 : Int32) fr to c1 h23 n0 O) hZ (ow hw 58 rfl) (ow hw 57 rfl) (by decide) (by decide)) (g := (mkF m 105 #[iv i0, iv i1, iv i2, iv i3, rv b1, rv b10, iv fr, iv to, .unset, .unset] [.int c1, .int to, .int fr, .int 1])) rfl (by rw [hml]; rfl) (argsL := [(.int (1 : Int32)), (.int fr), (.int to), (.int c1)]) (rest := []) (lenOf pd_17 rfl) rfl (by show 2 * 0 + _ ≤ _; exact Nat.le_of_eq rfl) (hb hby at_105) (fun _ _ => ⟨rfl, e28, (by decide : 4 + 0 ≤ _), (by decide : 20 + 0 ≤ _)⟩)
          dsimp only [Pt.U, Pt.locs, Pt.cells, Pt.slots] at X30 lq30 yq30 zq30 st30 hQ30
          subst lq30 yq30 zq30
          obtain ⟨rfl, rfl, e30⟩ := hQ30
          try rw [List.append_nil] at X30
          refine gb st30 ?_
          show G T30 (mkF m 108 #[iv i0, iv i1, iv i2, iv i3, rv b1, rv b10, iv fr, iv to, .unset, .unset] [.int (if own_fine (1 : Int32) fr to c1 then (1 : Int32) else (0 : Int32))])
          by_cases hc108 : (if own_fine (1 : Int32) fr to c1 then (1 : Int32) else (0 : Int32)) = (0 : Int32)
          · skip
            refine gb (fun _ k => XS.ifYes X30.here hx rfl (pc0 := 108) (pc' := 145) rfl (hb hby at_108) rfl ((if0 _ _).trans (teq hc108).1) (by decide) (by decide) (XS.iconst X30.here hx rfl (hb hby at_145) k)) ?_
            show G T30 (mkF m 146 #[iv i0, iv i1, iv i2, iv i3, rv b1, rv b10, iv fr, iv to, .unset, .unset] [.int 0])
            exact J25 _ _ X30 N e30  ((0 : Int32)) (by rw [if_neg (fun q => own_e0 hc108 q.2.2.1)])
          · skip
            refine gb (fun _ k => XS.ifNo X30.here hx rfl (hb hby at_108) rfl ((if0 _ _).trans (feq hc108).1) (XS.iconst X30.here hx rfl (hb hby at_111) (XS.iload X30.here hx rfl (hb hby at_112) rfl (XS.iload X30.here hx rfl (hb hby at_114) rfl (XS.aload X30.here hx rfl (hb hby at_116) rfl rfl (XS.iconst X30.here hx rfl (hb hby at_118) k)))))) ?_
            show G T30 (mkF m 119 #[iv i0, iv i1, iv i2, iv i3, rv b1, rv b10, iv fr, iv to, .unset, .unset] [.int 2, .ref b1, .int to, .int fr, .int 2])
            have V'31 := V_b1
            obtain ⟨cl31, Ar31, qk31, sz31, nn31, hs31, ft31⟩ := V'31
            have hin31 : ¬ ((2 : Int32) < 0 ∨ cl31.slots.size ≤ ((2 : Int32)).toNatClampNeg) := inb_of sz31 ⟨by decide, by decide⟩
            have hat31 : cl31.slots[((2 : Int32)).toNatClampNeg]? = some (.int c2) := hs31.at hin31 rfl
            refine gb (X30.caload hx (j := (2 : Int32)) (v := (.int c2)) (by rw [e30]; exact Ar31.1) (State.isArrayOf_alike hZ.alike Ar31.2.1) Ar31.2.2 hin31 hat31 (g := (mkF m 119 #[iv i0, iv i1, iv i2, iv i3, rv b1, rv b10, iv fr, iv to, .unset, .unset] [.int 2, .ref b1, .int to, .int fr, .int 2])) rfl rfl (hb hby at_119)) ?_
            show G T30 (mkF m 120 #[iv i0, iv i1, iv i2, iv i3, rv b1, rv b10, iv fr, iv to, .unset, .unset] [.int c2, .int to, .int fr, .int 2])
            obtain ⟨_, _, ⟨T32, Lz32, kz32, nz32⟩, -, X32, ⟨Lc32, hQ32, lq32, yq32, zq32⟩, st32⟩ := Jvm.LawKit.callS X30 hx (y := (⟨"com/example/vestry/vestry/input/ValueChecksDigitsPinLaw", "fine", "(IIIC)Z"⟩ : MethodName)) hown (mvT hZ (ow hw 55 rfl)) (mvT hZ (ow hw 56 rfl)) (mvT hZ (ow hw 57 rfl)) (mvT hZ (ow hw 58 rfl)) (by decide) (backOf (W := 0) (rmFN l Z a0 hw [] (2 : Int32) fr to c2 h23 n0 O) hZ (ow hw 58 rfl) (ow hw 57 rfl) (by decide) (by decide)) (g := (mkF m 120 #[iv i0, iv i1, iv i2, iv i3, rv b1, rv b10, iv fr, iv to, .unset, .unset] [.int c2, .int to, .int fr, .int 2])) rfl (by rw [hml]; rfl) (argsL := [(.int (2 : Int32)), (.int fr), (.int to), (.int c2)]) (rest := []) (lenOf pd_17 rfl) rfl (by show 2 * 0 + _ ≤ _; exact Nat.le_of_eq rfl) (hb hby at_120) (fun _ _ => ⟨rfl, e30, (by decide : 4 + 0 ≤ _), (by decide : 20 + 0 ≤ _)⟩)
            dsimp only [Pt.U, Pt.locs, Pt.cells, Pt.slots] at X32 lq32 yq32 zq32 st32 hQ32
            subst lq32 yq32 zq32
            obtain ⟨rfl, rfl, e32⟩ := hQ32
            try rw [List.append_nil] at X32
            refine gb st32 ?_
            show G T32 (mkF m 123 #[iv i0, iv i1, iv i2, iv i3, rv b1, rv b10, iv fr, iv to, .unset, .unset] [.int (if own_fine (2 : Int32) fr to c2 then (1 : Int32) else (0 : Int32))])
            by_cases hc123 : (if own_fine (2 : Int32) fr to c2 then (1 : Int32) else (0 : Int32)) = (0 : Int32)
            · skip
              refine gb (fun _ k => XS.ifYes X32.here hx rfl (pc0 := 123) (pc' := 145) rfl (hb hby at_123) rfl ((if0 _ _).trans (teq hc123).1) (by decide) (by decide) (XS.iconst X32.here hx rfl (hb hby at_145) k)) ?_
              show G T32 (mkF m 146 #[iv i0, iv i1, iv i2, iv i3, rv b1, rv b10, iv fr, iv to, .unset, .unset] [.int 0])
              exact J25 _ _ X32 N e32  ((0 : Int32)) (by rw [if_neg (fun q => own_e0 hc123 q.2.2.2.1)])
            · skip
              refine gb (fun _ k => XS.ifNo X32.here hx rfl (hb hby at_123) rfl ((if0 _ _).trans (feq hc123).1) (XS.iconst X32.here hx rfl (hb hby at_126) (XS.iload X32.here hx rfl (hb hby at_127) rfl (XS.iload X32.here hx rfl (hb hby at_129) rfl (XS.aload X32.here hx rfl (hb hby at_131) rfl rfl (XS.iconst X32.here hx rfl (hb hby at_133) k)))))) ?_
              show G T32 (mkF m 134 #[iv i0, iv i1, iv i2, iv i3, rv b1, rv b10, iv fr, iv to, .unset, .unset] [.int 3, .ref b1, .int to, .int fr, .int 3])
              have V'33 := V_b1
              obtain ⟨cl33, Ar33, qk33, sz33, nn33, hs33, ft33⟩ := V'33
              have hin33 : ¬ ((3 : Int32) < 0 ∨ cl33.slots.size ≤ ((3 : Int32)).toNatClampNeg) := inb_of sz33 ⟨by decide, by decide⟩
              have hat33 : cl33.slots[((3 : Int32)).toNatClampNeg]? = some (.int c3) := hs33.at hin33 rfl
              refine gb (X32.caload hx (j := (3 : Int32)) (v := (.int c3)) (by rw [e32]; exact Ar33.1) (State.isArrayOf_alike hZ.alike Ar33.2.1) Ar33.2.2 hin33 hat33 (g := (mkF m 134 #[iv i0, iv i1, iv i2, iv i3, rv b1, rv b10, iv fr, iv to, .unset, .unset] [.int 3, .ref b1, .int to, .int fr, .int 3])) rfl rfl (hb hby at_134)) ?_
              show G T32 (mkF m 135 #[iv i0, iv i1, iv i2, iv i3, rv b1, rv b10, iv fr, iv to, .unset, .unset] [.int c3, .int to, .int fr, .int 3])
              obtain ⟨_, _, ⟨T34, Lz34, kz34, nz34⟩, -, X34, ⟨Lc34, hQ34, lq34, yq34, zq34⟩, st34⟩ := Jvm.LawKit.callS X32 hx (y := (⟨"com/example/vestry/vestry/input/ValueChecksDigitsPinLaw", "fine", "(IIIC)Z"⟩ : MethodName)) hown (mvT hZ (ow hw 55 rfl)) (mvT hZ (ow hw 56 rfl)) (mvT hZ (ow hw 57 rfl)) (mvT hZ (ow hw 58 rfl)) (by decide) (backOf (W := 0) (rmFN l Z a0 hw [] (3 : Int32) fr to c3 h23 n0 O) hZ (ow hw 58 rfl) (ow hw 57 rfl) (by decide) (by decide)) (g := (mkF m 135 #[iv i0, iv i1, iv i2, iv i3, rv b1, rv b10, iv fr, iv to, .unset, .unset] [.int c3, .int to, .int fr, .int 3])) rfl (by rw [hml]; rfl) (argsL := [(.int (3 : Int32)), (.int fr), (.int to), (.int c3)]) (rest := []) (lenOf pd_17 rfl) rfl (by show 2 * 0 + _ ≤ _; exact Nat.le_of_eq rfl) (hb hby at_135) (fun _ _ => ⟨rfl, e32, (by decide : 4 + 0 ≤ _), (by decide : 20 + 0 ≤ _)⟩)
              dsimp only [Pt.U, Pt.locs, Pt.cells, Pt.slots] at X34 lq34 yq34 zq34 st34 hQ34
              subst lq34 yq34 zq34
              obtain ⟨rfl, rfl, e34⟩ := hQ34
              try rw [List.append_nil] at X34
              refine gb st34 ?_
              show G T34 (mkF m 138 #[iv i0, iv i1, iv i2, iv i3, rv b1, rv b10, iv fr, iv to, .unset, .unset] [.int (if own_fine (3 : Int32) fr to c3 then (1 : Int32) else (0 : Int32))])
              by_cases hc138 : (if own_fine (3 : Int32) fr to c3 then (1 : Int32) else (0 : Int32)) = (0 : Int32)
              · skip
                refine gb (fun _ k => XS.ifYes X34.here hx rfl (pc0 := 138) (pc' := 145) rfl (hb hby at_138) rfl ((if0 _ _).trans (teq hc138).1) (by decide) (by decide) (XS.iconst X34.here hx rfl (hb hby at_145) k)) ?_
                show G T34 (mkF m 146 #[iv i0, iv i1, iv i2, iv i3, rv b1, rv b10, iv fr, iv to, .unset, .unset] [.int 0])
                exact J25 _ _ X34 N e34  ((0 : Int32)) (by rw [if_neg (fun q => own_e0 hc138 q.2.2.2.2)])
              · skip
                refine gb (fun _ k => XS.ifNo X34.here hx rfl (hb hby at_138) rfl ((if0 _ _).trans (feq hc138).1) (XS.iconst X34.here hx rfl (hb hby at_141) (XS.goto X34.here hx rfl (pc0 := 142) (pc' := 146) rfl (hb hby at_142) (by decide) (by decide) k))) ?_
                show G T34 (mkF m 146 #[iv i0, iv i1, iv i2, iv i3, rv b1, rv b10, iv fr, iv to, .unset, .unset] [.int 1])
                exact J25 _ _ X34 N e34  ((1 : Int32)) (by rw [if_pos ⟨hc78, own_e1 hc93, own_e1 hc108, own_e1 hc123, own_e1 hc138⟩])
      · skip
        refine gb (fun _ k => XS.icmpYes X24.here hx rfl (pc0 := 78) (pc' := 145) rfl (hb hby at_78) rfl (flt hc78).2.1 (by decide) (by decide) (XS.iconst X24.here hx rfl (hb hby at_145) k)) ?_
        show G T24 (mkF m 146 #[iv i0, iv i1, iv i2, iv i3, rv b1, rv b10, iv fr, iv to, .unset, .unset] [.int 0])
        exact J25 _ _ X24 N e24  ((0 : Int32)) (by rw [if_neg (fun q => hc78 q.1)])
    exact J24 _ _ X23 N e23  (((i2 &&& (2147483647 : Int32)) % (5 : Int32))) (((i3 &&& (2147483647 : Int32)) % (5 : Int32))) (own_m5 _) (own_m5 _)
theorem own_isRef {Z : State} {args : Array Value} {t : Jvm.Term} (h : (Jvm.Cond.isRef t).value args Z none Z [] = some true) : ∃ v, t.eval args Z none [] Z = some v ∧ v.isRef = true := by
  simp only [Jvm.Cond.value] at h
  cases q : t.eval args Z none [] Z with
  | none => rw [q] at h; cases h
  | some v =>
    rw [q] at h
    refine ⟨v, rfl, ?_⟩
    cases v <;> first | rfl | exact absurd h (by simp)
set_option maxRecDepth 65536 in
set_option maxHeartbeats 40000000 in
theorem comes_1 {Post : Tables → Env → Array Value → State → Outcome → State → Prop} (hpost : ∀ tb e args s v u, (limb_1_1.after args s (.returned v) u = true ∧ limb_1_2.after args s (.returned v) u = true ∧ True) → FrameEnd s (.returned v) u (Jvm.fieldLocs frame_1_writes args s ++ Jvm.arrayLocs frame_1_arrays args s ++ Jvm.staticLocs frame_1_statics s) 16 128 → Post tb e args s (.returned v) u) :
    ArmFor flags0 classFile x code maxLocals ret World_1 tables_1 room_1 Calls_1 rest_1 Pre_1 Post := by
  intro l hfl _ _ p e ha hc hk s m args below hf hA hF happ hP
  obtain ⟨hcalls, hrest, hpre⟩ := hP
  obtain ⟨-, -, -, hnamed, -, -, -, hat⟩ := (Spec.applies_iff hf).mp happ
  obtain ⟨hg, hn⟩ := and_e (Cond.before_iff.mp (show (Jvm.Cond.and given_1 narrow_1).before args s = true from hpre))
  obtain ⟨g1, g2⟩ := and_e hg
  obtain ⟨g3, g4⟩ := and_e g2
  obtain ⟨g5, g6⟩ := and_e g4
  obtain ⟨g7, g8⟩ := and_e g6
  obtain ⟨w0, w1, w2, w3, rfl⟩ : ∃ w0 w1 w2 w3 : Value, args = #[w0, w1, w2, w3] := by
    have hs : args.size = 4 := by simpa [Cond.value, given_1] using g1
    obtain ⟨L⟩ := args
    match L, hs with
    | [w0, w1, w2, w3], _ => exact ⟨w0, w1, w2, w3, rfl⟩
  have hw := fun d (hd : d ∈ tables_1) => atoms_spec (ws := Jvm.Cond.code x code maxLocals ret :: tables_1) hat d (List.mem_cons_of_mem _ hd)
  have hfit : Fit s := fun {y c} hc i hi => by
    obtain ⟨ha, rfl⟩ := Array.getElem?_eq_some_iff.mp hc
    have q := List.all_eq_true.mp ((Array.all_eq_true_iff_forall_mem.mp hF) _ (Array.getElem_mem ha)) i (List.mem_range.mpr hi)
    simpa [Array.getElem?_eq_getElem hi] using q
  obtain ⟨hsets, hown0⟩ := atoms_of _ (rest_1_c_eq ▸ (show rest_1_c.before _ s = true from hrest))
  have hr0 := Cond.before_iff.mp hown0
  obtain ⟨i0, ei0⟩ := is_v g3
  obtain rfl : w0 = (.int i0) := Option.some.inj ei0
  obtain ⟨i1, ei1⟩ := is_v g5
  obtain rfl : w1 = (.int i1) := Option.some.inj ei1
  obtain ⟨i2, ei2⟩ := is_v g7
  obtain rfl : w2 = (.int i2) := Option.some.inj ei2
  obtain ⟨i3, ei3⟩ := is_v g8
  obtain rfl : w3 = (.int i3) := Option.some.inj ei3
  obtain ⟨zc, ezc⟩ := is_v (Cond.before_iff.mp (hsets _ (List.mem_of_getElem? (i := 1) rfl)))
  have S_cs : Sta s s.heap "java/lang/String" "COMPACT_STRINGS" "Z" (.int zc) := Sta.start ezc (Or.inl (hsets _ (List.mem_of_getElem? (i := 0) rfl)))
  have hzc : ¬ zc = (0 : Int32) := gotF (Cond.eq_ints ezc (Term.int_eval 0)) (not_v (Cond.before_iff.mp (hsets _ (List.mem_of_getElem? (i := 2) rfl))))
  have hs__assertionsDisabled := eqv_i (Term.int_eval (1 : Int32)) (Cond.before_iff.mp (hsets _ (List.mem_of_getElem? (i := 12) rfl)))
  have S_ad : Sta s s.heap "java/lang/StringUTF16" "$assertionsDisabled" "Z" (.int (1 : Int32)) := Sta.start hs__assertionsDisabled (Or.inl (hsets _ (List.mem_of_getElem? (i := 11) rfl)))
  have hs_HI_BYTE_SHIFT := eqv_i (Term.int_eval (0 : Int32)) (Cond.before_iff.mp (hsets _ (List.mem_of_getElem? (i := 15) rfl)))
  have S_hi : Sta s s.heap "java/lang/StringUTF16" "HI_BYTE_SHIFT" "I" (.int (0 : Int32)) := Sta.start hs_HI_BYTE_SHIFT (Or.inl (hsets _ (List.mem_of_getElem? (i := 14) rfl)))
  have hs_LO_BYTE_SHIFT := eqv_i (Term.int_eval (8 : Int32)) (Cond.before_iff.mp (hsets _ (List.mem_of_getElem? (i := 18) rfl)))
  have S_lo : Sta s s.heap "java/lang/StringUTF16" "LO_BYTE_SHIFT" "I" (.int (8 : Int32)) := Sta.start hs_LO_BYTE_SHIFT (Or.inl (hsets _ (List.mem_of_getElem? (i := 17) rfl)))
  obtain ⟨sf, esf, hr_sf⟩ := own_isRef (Cond.before_iff.mp (hsets _ (List.mem_of_getElem? (i := 8) rfl)))
  have S_sf : Sta s s.heap "jdk/internal/util/Preconditions" "SIOOBE_FORMATTER" "Ljava/util/function/BiFunction;" sf := Sta.start esf (Or.inl (hsets _ (List.mem_of_getElem? (i := 7) rfl)))
  obtain ⟨n, o, h1, h2, h3, _, L, rfl, ⟨rfl, N⟩, hq⟩ := rm0 l s _ hw tables_1 i0 i1 i2 i3 s.heap s.heap.size (Old.start s) zc S_cs hzc sf hr_sf S_sf S_ad S_hi S_lo p e ha hc hk s m _ below hf ((Spec.applies_iff_loose hf).mp happ).1 ⟨rfl, State.Warmed39.refl s, rfl, rfl⟩ trivial
  refine ⟨n, _, h1, h2, h3, hpost _ _ _ _ _ _ ⟨Cond.after_iff.mpr rfl, Cond.after_iff.mpr (eq_i res_at (Term.int_eval (1)) rfl), trivial⟩ ⟨hq.1, hq.2.1, (hq.2.2.sift fun y hy => Or.inr (N y hy)).mono (by decide) (by decide)⟩⟩
theorem main_1_1 : Claimed_1_1 := comes_1 fun _ _ _ _ _ _ h hF => ⟨h.1, hF⟩
theorem main_1_2 : Claimed_1_2 := comes_1 fun _ _ _ _ _ _ h hF => ⟨h.2.1, hF⟩
end Jvm.Pilot.@@N@@
namespace Jvm.Pilot.@@N@@
open Jvm Jvm.ClassFile Sem Op Lib Jvm.Free Jvm.Stand Jvm.Pilot.@@N@@.Jvm.D
/-! MADE BY PROGRAM (witnessworld.py) out of the Statement's table words and the real class files: 20 classes; the members and pool entries that the words name. The judged class is class 1, her method 3. -/
namespace start1
open Jvm.ClassFile
def u (s : String) : CpInfo := .utf8 (stringToUtf16 s)
/-- a pool by its gaps: so many unusable entries, then the entry; so many at the end -/
def gap : Nat → List CpInfo → List CpInfo
  | 0, r => r
  | n + 1, r => .unusable :: gap n r
def poolList (es : List (Nat × CpInfo)) (last : Nat) : List CpInfo := es.foldr (fun e r => gap e.1 (e.2 :: r)) (gap last [])
def pool (es : List (Nat × CpInfo)) (last : Nat) : Array CpInfo := ⟨poolList es last⟩
def fileOf (pool : Array CpInfo) (this : Nat) (attrs : Array Attribute := #[]) (ms : Array MethodInfo := #[]) (fl : Nat := 33) (sup : Nat := 0) (ifs : Array Nat := #[]) (fds : Array FieldInfo := #[]) : ClassFile where
  minorVersion := 0
  majorVersion := 65
  constantPool := pool
  accessFlags := fl
  thisClass := this
  superClass := sup
  interfaces := ifs
  fields := fds
  methods := ms
  attributes := attrs
def plain (name : String) (sup : Option ClassId) : Class where
  name := name
  kind := .ordinary
  loader := none
  accessFlags := 33
  super := sup
  interfaces := #[]
  cf := none
  fields := #[]
  methods := #[]
  instanceTypes := #[]
  staticTypes := #[]
  resolved := #[]
  callSites := []
  init := .initialized
  statics := none
  mirror := none

def pool0 : Array CpInfo := pool [(5, u "<init>"), (0, u "()V"), (1, .class_ 10), (1, u "java/lang/Object")] 113

def k0c0 : Code := { maxStack := 0, maxLocals := 1, code := object_method_1_code, exceptionTable := #[], attributes := #[] }
def k0m0 : Method := { name := "<init>", desc := "()V", sig := { parameters := [], returnType := none }, accessFlags := 1, code := some k0c0 }
/-- java/lang/Object -/
def k0 : Class := { plain "java/lang/Object" none with
  accessFlags := 33
  interfaces := #[]
  cf := some (fileOf pool0 8 #[] #[{ accessFlags := 1, nameIndex := 5, descriptorIndex := 6, attributes := #[] }] 33 0 #[] #[])
  fields := #[]
  methods := #[k0m0]
  instanceTypes := #[]
  staticTypes := #[]
  resolved := Array.replicate 124 none
  statics := none }

def pool1 : Array CpInfo := pool [(2, .class_ 4), (1, u "java/lang/Object"), (0, u "<init>"), (0, u "()V"), (0, .methodref 8 9), (0, .class_ 10), (0, .nameAndType 11 12), (0, u "com/example/vestry/vestry/input/ValueChecksDigitsPinLaw"), (0, u "isAsciiDigit"), (0, u "(C)Z"), (0, .integer 65535), (0, .class_ 15), (0, u "java/lang/String"), (0, .methodref 14 17), (0, .nameAndType 5 18), (0, u "([C)V"), (0, .integer 2147483647), (0, .methodref 8 21), (0, .nameAndType 22 23), (0, u "fine"), (0, u "(IIIC)Z"), (0, .methodref 25 26), (0, .class_ 27), (0, .nameAndType 28 29), (0, u "com/example/vestry/vestry/input/ValueChecks"), (0, u "digits"), (0, u "(Ljava/lang/String;II)Z"), (3, u "law"), (0, u "(IIII)Z")] 4

def k1m0 : Method := { name := "<init>", desc := "()V", sig := { parameters := [], returnType := none }, accessFlags := 2, code := none }
def k1c1 : Code := { maxStack := 2, maxLocals := 2, code := method_2_code, exceptionTable := #[], attributes := #[] }
def k1m1 : Method := { name := "isAsciiDigit", desc := "(C)Z", sig := { parameters := [.char], returnType := some .boolean }, accessFlags := 10, code := some k1c1 }
def k1c2 : Code := { maxStack := 2, maxLocals := 4, code := method_3_code, exceptionTable := #[], attributes := #[] }
def k1m2 : Method := { name := "fine", desc := "(IIIC)Z", sig := { parameters := [.int, .int, .int, .char], returnType := some .boolean }, accessFlags := 10, code := some k1c2 }
def k1c3 : Code := { maxStack := 5, maxLocals := 10, code := code, exceptionTable := #[], attributes := #[] }
def k1m3 : Method := { name := "law", desc := "(IIII)Z", sig := { parameters := [.int, .int, .int, .int], returnType := some .boolean }, accessFlags := 9, code := some k1c3 }
/-- com/example/vestry/vestry/input/ValueChecksDigitsPinLaw -/
def k1 : Class := { plain "com/example/vestry/vestry/input/ValueChecksDigitsPinLaw" (some 0) with
  accessFlags := 49
  interfaces := #[]
  cf := some (fileOf pool1 8 #[] #[{ accessFlags := 2, nameIndex := 5, descriptorIndex := 6, attributes := #[] }, { accessFlags := 10, nameIndex := 11, descriptorIndex := 12, attributes := #[] }, { accessFlags := 10, nameIndex := 22, descriptorIndex := 23, attributes := #[] }, { accessFlags := 9, nameIndex := 33, descriptorIndex := 34, attributes := #[] }] 49 2 #[] #[])
  fields := #[]
  methods := #[k1m0, k1m1, k1m2, k1m3]
  instanceTypes := #[]
  staticTypes := #[]
  resolved := Array.replicate 39 none
  statics := none }

def pool2 : Array CpInfo := pool [(1, .class_ 2), (0, u "java/io/Serializable"), (0, .class_ 4), (0, u "java/lang/Object")] 2

/-- java/io/Serializable -/
def k2 : Class := { plain "java/io/Serializable" (some 0) with
  accessFlags := 1537
  interfaces := #[]
  cf := some (fileOf pool2 1 #[] #[] 1537 3 #[] #[])
  fields := #[]
  methods := #[]
  instanceTypes := #[]
  staticTypes := #[]
  resolved := Array.replicate 7 none
  statics := none }

def pool3 : Array CpInfo := pool [(1, .class_ 2), (0, u "java/lang/Comparable"), (0, .class_ 4), (0, u "java/lang/Object")] 7

/-- java/lang/Comparable -/
def k3 : Class := { plain "java/lang/Comparable" (some 0) with
  accessFlags := 1537
  interfaces := #[]
  cf := some (fileOf pool3 1 #[] #[] 1537 3 #[] #[])
  fields := #[]
  methods := #[]
  instanceTypes := #[]
  staticTypes := #[]
  resolved := Array.replicate 12 none
  statics := none }

def pool4 : Array CpInfo := pool [(2, .class_ 4), (1, u "java/lang/CharSequence"), (42, .class_ 48), (0, u "java/lang/CharSequence$1CodePointIterator"), (10, .class_ 60), (0, u "java/lang/CharSequence$1CharIterator"), (5, .class_ 67), (0, u "java/lang/Object")] 63

/-- java/lang/CharSequence -/
def k4 : Class := { plain "java/lang/CharSequence" (some 0) with
  accessFlags := 1537
  interfaces := #[]
  cf := some (fileOf pool4 2 #[.nestMembers #[47, 59]] #[] 1537 66 #[] #[])
  fields := #[]
  methods := #[]
  instanceTypes := #[]
  staticTypes := #[]
  resolved := Array.replicate 131 none
  statics := none }

def pool5 : Array CpInfo := pool [(1, .class_ 2), (0, u "java/lang/constant/Constable"), (0, .class_ 4), (0, u "java/lang/Object")] 6

/-- java/lang/constant/Constable -/
def k5 : Class := { plain "java/lang/constant/Constable" (some 0) with
  accessFlags := 1537
  interfaces := #[]
  cf := some (fileOf pool5 1 #[] #[] 1537 3 #[] #[])
  fields := #[]
  methods := #[]
  instanceTypes := #[]
  staticTypes := #[]
  resolved := Array.replicate 11 none
  statics := none }

def pool6 : Array CpInfo := pool [(1, .class_ 2), (0, u "java/lang/constant/ConstantDesc"), (0, .class_ 4), (0, u "java/lang/Object")] 32

/-- java/lang/constant/ConstantDesc -/
def k6 : Class := { plain "java/lang/constant/ConstantDesc" (some 0) with
  accessFlags := 1537
  interfaces := #[]
  cf := some (fileOf pool6 1 #[] #[] 1537 3 #[] #[])
  fields := #[]
  methods := #[]
  instanceTypes := #[]
  staticTypes := #[]
  resolved := Array.replicate 37 none
  statics := none }

def pool7 : Array CpInfo := pool [(1, .methodref 2 3), (0, .class_ 4), (0, .nameAndType 5 6), (0, u "java/lang/Object"), (0, u "<init>"), (0, u "()V"), (2, .fieldref 10 11), (0, .class_ 12), (0, .nameAndType 13 14), (0, u "java/lang/String"), (0, u "value"), (0, u "[B"), (0, .fieldref 10 16), (0, .nameAndType 17 18), (0, u "coder"), (0, u "B"), (2, u "hash"), (0, u "I"), (2, u "hashIsZero"), (0, u "Z"), (0, .methodref 10 28), (0, .nameAndType 5 29), (0, u "([CIILjava/lang/Void;)V"), (8, .fieldref 10 39), (0, .nameAndType 40 26), (0, u "COMPACT_STRINGS"), (1, .class_ 44), (1, u "java/lang/StringUTF16"), (0, u "compress"), (1, .methodref 42 48), (0, .nameAndType 49 50), (0, u "coderFromArrayLen"), (0, u "([BI)B"), (56, .class_ 109), (1, u "java/lang/StringLatin1"), (32, u "()Z"), (34, .methodref 42 178), (0, .nameAndType 45 179), (0, u "([CII)[B"), (183, u "([BI)C"), (27, u "(II)V"), (35, u "(I)C"), (64, .methodref 10 493), (0, .nameAndType 494 142), (0, u "isLatin1"), (0, .methodref 107 496), (0, .nameAndType 497 363), (0, u "charAt"), (0, .methodref 42 496), (2, u "checkIndex"), (73, .class_ 576), (0, u "java/lang/CharSequence"), (22, u "CASE_INSENSITIVE_ORDER"), (0, u "Ljava/util/Comparator;"), (409, u "([C)V"), (42, .fieldref 1054 1055), (0, .class_ 1056), (0, .nameAndType 1057 1058), (0, u "jdk/internal/util/Preconditions"), (0, u "SIOOBE_FORMATTER"), (0, u "Ljava/util/function/BiFunction;"), (0, .methodref 1054 1060), (0, .nameAndType 501 1061), (0, u "(IILjava/util/function/BiFunction;)I"), (39, u "serialPersistentFields"), (0, u "[Ljava/io/ObjectStreamField;"), (0, .class_ 1104), (0, u "java/lang/String$CaseInsensitiveComparator"), (1, .class_ 1107), (0, u "java/io/Serializable"), (0, .class_ 1109), (0, u "java/lang/Comparable"), (0, .class_ 1111), (0, u "java/lang/constant/Constable"), (0, .class_ 1113), (0, u "java/lang/constant/ConstantDesc"), (2, u "serialVersionUID"), (0, u "J"), (3, u "REPL"), (0, u "C"), (2, u "LATIN1"), (1, u "UTF16")] 323

def k7m0 : Method := { name := "<init>", desc := "()V", sig := { parameters := [], returnType := none }, accessFlags := 1, code := none }
def k7c1 : Code := { maxStack := 5, maxLocals := 2, code := jdk_42_method_3_code, exceptionTable := #[], attributes := #[] }
def k7m1 : Method := { name := "<init>", desc := "([C)V", sig := { parameters := [(.array .char)], returnType := none }, accessFlags := 1, code := some k7c1 }
def k7c2 : Code := { maxStack := 2, maxLocals := 2, code := jdk_42_method_56_code, exceptionTable := #[], attributes := #[] }
def k7m2 : Method := { name := "charAt", desc := "(I)C", sig := { parameters := [.int], returnType := some .char }, accessFlags := 1, code := some k7c2 }
def k7c3 : Code := { maxStack := 4, maxLocals := 6, code := jdk_42_method_149_code, exceptionTable := #[], attributes := #[] }
def k7m3 : Method := { name := "<init>", desc := "([CIILjava/lang/Void;)V", sig := { parameters := [(.array .char), .int, .int, (.object "java/lang/Void")], returnType := none }, accessFlags := 2, code := some k7c3 }
def k7c4 : Code := { maxStack := 1, maxLocals := 1, code := jdk_42_method_154_code, exceptionTable := #[], attributes := #[] }
def k7m4 : Method := { name := "isLatin1", desc := "()Z", sig := { parameters := [], returnType := some .boolean }, accessFlags := 0, code := some k7c4 }
def k7c5 : Code := { maxStack := 3, maxLocals := 2, code := jdk_42_method_155_code, exceptionTable := #[], attributes := #[] }
def k7m5 : Method := { name := "checkIndex", desc := "(II)V", sig := { parameters := [.int, .int], returnType := none }, accessFlags := 8, code := some k7c5 }
/-- java/lang/String -/
def k7 : Class := { plain "java/lang/String" (some 0) with
  accessFlags := 49
  interfaces := #[2, 3, 4, 5, 6]
  cf := some (fileOf pool7 10 #[.nestMembers #[1103]] #[{ accessFlags := 1, nameIndex := 5, descriptorIndex := 6, attributes := #[] }, { accessFlags := 1, nameIndex := 5, descriptorIndex := 1010, attributes := #[] }, { accessFlags := 1, nameIndex := 497, descriptorIndex := 427, attributes := #[] }, { accessFlags := 2, nameIndex := 5, descriptorIndex := 29, attributes := #[] }, { accessFlags := 0, nameIndex := 494, descriptorIndex := 142, attributes := #[] }, { accessFlags := 8, nameIndex := 501, descriptorIndex := 391, attributes := #[] }] 49 2 #[1106, 1108, 575, 1110, 1112] #[{ accessFlags := 18, nameIndex := 13, descriptorIndex := 14, attributes := #[] }, { accessFlags := 18, nameIndex := 17, descriptorIndex := 18, attributes := #[] }, { accessFlags := 2, nameIndex := 21, descriptorIndex := 22, attributes := #[] }, { accessFlags := 2, nameIndex := 25, descriptorIndex := 26, attributes := #[] }, { accessFlags := 26, nameIndex := 1116, descriptorIndex := 1117, attributes := #[] }, { accessFlags := 24, nameIndex := 40, descriptorIndex := 26, attributes := #[] }, { accessFlags := 26, nameIndex := 1101, descriptorIndex := 1102, attributes := #[] }, { accessFlags := 26, nameIndex := 1121, descriptorIndex := 1122, attributes := #[] }, { accessFlags := 25, nameIndex := 599, descriptorIndex := 600, attributes := #[] }, { accessFlags := 24, nameIndex := 1125, descriptorIndex := 18, attributes := #[] }, { accessFlags := 24, nameIndex := 1127, descriptorIndex := 18, attributes := #[] }])
  fields := #[{ name := "value", type := (.array .byte), accessFlags := 18, slot := 0, constantValue := 0 }, { name := "coder", type := .byte, accessFlags := 18, slot := 1, constantValue := 0 }, { name := "hash", type := .int, accessFlags := 2, slot := 2, constantValue := 0 }, { name := "hashIsZero", type := .boolean, accessFlags := 2, slot := 3, constantValue := 0 }, { name := "serialVersionUID", type := .long, accessFlags := 26, slot := 0, constantValue := 0 }, { name := "COMPACT_STRINGS", type := .boolean, accessFlags := 24, slot := 1, constantValue := 0 }, { name := "serialPersistentFields", type := (.array (.object "java/io/ObjectStreamField")), accessFlags := 26, slot := 2, constantValue := 0 }, { name := "REPL", type := .char, accessFlags := 26, slot := 3, constantValue := 0 }, { name := "CASE_INSENSITIVE_ORDER", type := (.object "java/util/Comparator"), accessFlags := 25, slot := 4, constantValue := 0 }, { name := "LATIN1", type := .byte, accessFlags := 24, slot := 5, constantValue := 0 }, { name := "UTF16", type := .byte, accessFlags := 24, slot := 6, constantValue := 0 }]
  methods := #[k7m0, k7m1, k7m2, k7m3, k7m4, k7m5]
  instanceTypes := #[(.array .byte), .byte, .int, .boolean]
  staticTypes := #[.long, .boolean, (.array (.object "java/io/ObjectStreamField")), .char, (.object "java/util/Comparator"), .byte, .byte]
  resolved := Array.replicate 1451 none
  statics := some 0 }

def pool8 : Array CpInfo := pool [(3, .class_ 4), (0, u "java/lang/String"), (1, .class_ 8), (1, u "java/lang/Object"), (0, u "<init>"), (0, u "()V"), (0, .methodref 12 13), (0, .class_ 14), (0, .nameAndType 15 16), (0, u "java/lang/StringUTF16"), (0, u "newBytesLength"), (0, u "(I)I"), (3, .integer 1073741823), (23, .fieldref 12 45), (0, .nameAndType 46 47), (0, u "$assertionsDisabled"), (0, u "Z"), (0, .methodref 12 49), (0, .nameAndType 50 51), (0, u "length"), (0, u "([B)I"), (7, .fieldref 12 60), (0, .nameAndType 61 62), (0, u "HI_BYTE_SHIFT"), (0, u "I"), (0, .fieldref 12 64), (0, .nameAndType 65 62), (0, u "LO_BYTE_SHIFT"), (1, .methodref 12 68), (0, .nameAndType 69 70), (0, u "checkIndex"), (0, u "(I[B)V"), (0, .methodref 12 72), (0, .nameAndType 73 74), (0, u "getChar"), (0, u "([BI)C"), (32, .methodref 12 108), (0, .nameAndType 109 110), (0, u "newBytesFor"), (0, u "(I)[B"), (0, .methodref 12 112), (0, .nameAndType 113 114), (0, u "putChar"), (0, u "([BII)V"), (0, .methodref 12 116), (0, .nameAndType 117 118), (0, u "compress"), (0, u "([CI[BII)I"), (0, .methodref 12 120), (0, .nameAndType 121 122), (0, u "toBytes"), (0, u "([CII)[B"), (138, u "coderFromArrayLen"), (0, u "([BI)B"), (106, .class_ 371), (1, u "java/lang/StringUTF16$LinesSpliterator"), (20, u "charAt"), (21, .methodref 3 415), (0, .nameAndType 69 416), (0, u "(II)V"), (13, u "MAX_LENGTH"), (196, .class_ 628), (0, u "java/lang/StringUTF16$CodePointsSpliterator"), (0, .class_ 630), (0, u "java/lang/StringUTF16$CharsSpliterator")] 4

def k8m0 : Method := { name := "<init>", desc := "()V", sig := { parameters := [], returnType := none }, accessFlags := 0, code := none }
def k8c1 : Code := { maxStack := 1, maxLocals := 1, code := jdk_52_method_2_code, exceptionTable := #[], attributes := #[] }
def k8m1 : Method := { name := "newBytesFor", desc := "(I)[B", sig := { parameters := [.int], returnType := some (.array .byte) }, accessFlags := 9, code := some k8c1 }
def k8c2 : Code := { maxStack := 4, maxLocals := 1, code := jdk_52_method_3_code, exceptionTable := #[], attributes := #[] }
def k8m2 : Method := { name := "newBytesLength", desc := "(I)I", sig := { parameters := [.int], returnType := some .int }, accessFlags := 9, code := some k8c2 }
def k8c3 : Code := { maxStack := 4, maxLocals := 3, code := jdk_52_method_4_code, exceptionTable := #[], attributes := #[] }
def k8m3 : Method := { name := "putChar", desc := "([BII)V", sig := { parameters := [(.array .byte), .int, .int], returnType := none }, accessFlags := 8, code := some k8c3 }
def k8c4 : Code := { maxStack := 3, maxLocals := 2, code := jdk_52_method_5_code, exceptionTable := #[], attributes := #[] }
def k8m4 : Method := { name := "getChar", desc := "([BI)C", sig := { parameters := [(.array .byte), .int], returnType := some .char }, accessFlags := 8, code := some k8c4 }
def k8c5 : Code := { maxStack := 2, maxLocals := 1, code := jdk_52_method_6_code, exceptionTable := #[], attributes := #[] }
def k8m5 : Method := { name := "length", desc := "([B)I", sig := { parameters := [(.array .byte)], returnType := some .int }, accessFlags := 9, code := some k8c5 }
def k8c6 : Code := { maxStack := 4, maxLocals := 5, code := jdk_52_method_14_code, exceptionTable := #[], attributes := #[] }
def k8m6 : Method := { name := "toBytes", desc := "([CII)[B", sig := { parameters := [(.array .char), .int, .int], returnType := some (.array .byte) }, accessFlags := 9, code := some k8c6 }
def k8c7 : Code := { maxStack := 2, maxLocals := 2, code := jdk_52_method_15_code, exceptionTable := #[], attributes := #[] }
def k8m7 : Method := { name := "coderFromArrayLen", desc := "([BI)B", sig := { parameters := [(.array .byte), .int], returnType := some .byte }, accessFlags := 8, code := some k8c7 }
def k8c8 : Code := { maxStack := 5, maxLocals := 6, code := jdk_52_method_16_code, exceptionTable := #[], attributes := #[] }
def k8m8 : Method := { name := "compress", desc := "([CII)[B", sig := { parameters := [(.array .char), .int, .int], returnType := some (.array .byte) }, accessFlags := 9, code := some k8c8 }
def k8c9 : Code := { maxStack := 3, maxLocals := 7, code := jdk_52_method_21_code, exceptionTable := #[], attributes := #[] }
def k8m9 : Method := { name := "compress", desc := "([CI[BII)I", sig := { parameters := [(.array .char), .int, (.array .byte), .int, .int], returnType := some .int }, accessFlags := 9, code := some k8c9 }
def k8c10 : Code := { maxStack := 2, maxLocals := 2, code := jdk_52_method_83_code, exceptionTable := #[], attributes := #[] }
def k8m10 : Method := { name := "charAt", desc := "([BI)C", sig := { parameters := [(.array .byte), .int], returnType := some .char }, accessFlags := 9, code := some k8c10 }
def k8c11 : Code := { maxStack := 2, maxLocals := 2, code := jdk_52_method_91_code, exceptionTable := #[], attributes := #[] }
def k8m11 : Method := { name := "checkIndex", desc := "(I[B)V", sig := { parameters := [.int, (.array .byte)], returnType := none }, accessFlags := 9, code := some k8c11 }
/-- java/lang/StringUTF16 -/
def k8 : Class := { plain "java/lang/StringUTF16" (some 0) with
  accessFlags := 48
  interfaces := #[]
  cf := some (fileOf pool8 12 #[.nestMembers #[627, 629, 369]] #[{ accessFlags := 0, nameIndex := 9, descriptorIndex := 10, attributes := #[] }, { accessFlags := 9, nameIndex := 109, descriptorIndex := 110, attributes := #[] }, { accessFlags := 9, nameIndex := 15, descriptorIndex := 16, attributes := #[] }, { accessFlags := 8, nameIndex := 113, descriptorIndex := 114, attributes := #[] }, { accessFlags := 8, nameIndex := 73, descriptorIndex := 74, attributes := #[] }, { accessFlags := 9, nameIndex := 50, descriptorIndex := 51, attributes := #[] }, { accessFlags := 9, nameIndex := 121, descriptorIndex := 122, attributes := #[] }, { accessFlags := 8, nameIndex := 261, descriptorIndex := 262, attributes := #[] }, { accessFlags := 9, nameIndex := 117, descriptorIndex := 122, attributes := #[] }, { accessFlags := 9, nameIndex := 117, descriptorIndex := 118, attributes := #[] }, { accessFlags := 9, nameIndex := 392, descriptorIndex := 74, attributes := #[] }, { accessFlags := 9, nameIndex := 69, descriptorIndex := 70, attributes := #[] }] 48 6 #[] #[{ accessFlags := 26, nameIndex := 61, descriptorIndex := 62, attributes := #[] }, { accessFlags := 26, nameIndex := 65, descriptorIndex := 62, attributes := #[] }, { accessFlags := 24, nameIndex := 430, descriptorIndex := 62, attributes := #[] }, { accessFlags := 4120, nameIndex := 46, descriptorIndex := 47, attributes := #[] }])
  fields := #[{ name := "HI_BYTE_SHIFT", type := .int, accessFlags := 26, slot := 0, constantValue := 0 }, { name := "LO_BYTE_SHIFT", type := .int, accessFlags := 26, slot := 1, constantValue := 0 }, { name := "MAX_LENGTH", type := .int, accessFlags := 24, slot := 2, constantValue := 0 }, { name := "$assertionsDisabled", type := .boolean, accessFlags := 4120, slot := 3, constantValue := 0 }]
  methods := #[k8m0, k8m1, k8m2, k8m3, k8m4, k8m5, k8m6, k8m7, k8m8, k8m9, k8m10, k8m11]
  instanceTypes := #[]
  staticTypes := #[.int, .int, .int, .boolean]
  resolved := Array.replicate 635 none
  statics := some 1 }

def pool9 : Array CpInfo := pool [(2, .class_ 4), (1, u "java/lang/Object"), (0, u "<init>"), (0, u "()V"), (0, .methodref 8 9), (0, .class_ 10), (0, .nameAndType 11 12), (0, u "java/lang/String"), (0, u "charAt"), (0, u "(I)C"), (18, .class_ 32), (0, u "com/example/vestry/vestry/input/ValueChecks"), (51, u "digits"), (0, u "(Ljava/lang/String;II)Z"), (101, u "LAST_WRITTEN_DAY"), (0, u "Ljava/time/LocalDate;"), (0, u "MAX_DIGITS"), (0, u "I"), (2, u "NOT_A_DATE"), (0, u "Ljava/lang/String;")] 47

def k9m0 : Method := { name := "<init>", desc := "()V", sig := { parameters := [], returnType := none }, accessFlags := 2, code := none }
def k9c1 : Code := { maxStack := 2, maxLocals := 6, code := prog_53_method_2_code, exceptionTable := #[], attributes := #[] }
def k9m1 : Method := { name := "digits", desc := "(Ljava/lang/String;II)Z", sig := { parameters := [(.object "java/lang/String"), .int, .int], returnType := some .boolean }, accessFlags := 8, code := some k9c1 }
/-- com/example/vestry/vestry/input/ValueChecks -/
def k9 : Class := { plain "com/example/vestry/vestry/input/ValueChecks" (some 0) with
  accessFlags := 49
  interfaces := #[]
  cf := some (fileOf pool9 31 #[] #[{ accessFlags := 2, nameIndex := 5, descriptorIndex := 6, attributes := #[] }, { accessFlags := 8, nameIndex := 84, descriptorIndex := 85, attributes := #[] }] 49 2 #[] #[{ accessFlags := 24, nameIndex := 189, descriptorIndex := 190, attributes := #[] }, { accessFlags := 25, nameIndex := 187, descriptorIndex := 188, attributes := #[] }, { accessFlags := 24, nameIndex := 193, descriptorIndex := 194, attributes := #[] }])
  fields := #[{ name := "MAX_DIGITS", type := .int, accessFlags := 24, slot := 0, constantValue := 0 }, { name := "LAST_WRITTEN_DAY", type := (.object "java/time/LocalDate"), accessFlags := 25, slot := 1, constantValue := 0 }, { name := "NOT_A_DATE", type := (.object "java/lang/String"), accessFlags := 24, slot := 2, constantValue := 0 }]
  methods := #[k9m0, k9m1]
  instanceTypes := #[]
  staticTypes := #[.int, (.object "java/time/LocalDate"), (.object "java/lang/String")]
  resolved := Array.replicate 242 none
  statics := none }

def pool10 : Array CpInfo := pool [(1, .class_ 2), (0, u "java/lang/String"), (1, .class_ 6), (1, u "java/lang/Object"), (0, u "<init>"), (0, u "()V"), (0, .methodref 1 10), (0, .nameAndType 11 12), (0, u "checkIndex"), (0, u "(II)V"), (1, .class_ 16), (1, u "java/lang/StringLatin1"), (36, u "([BI)C"), (67, u "$assertionsDisabled"), (0, u "Z"), (98, .class_ 223), (1, u "java/lang/StringLatin1$LinesSpliterator"), (28, u "charAt"), (137, .class_ 391), (0, u "java/lang/StringLatin1$CharsSpliterator")] 3

def k10m0 : Method := { name := "<init>", desc := "()V", sig := { parameters := [], returnType := none }, accessFlags := 0, code := none }
def k10c1 : Code := { maxStack := 2, maxLocals := 2, code := jdk_43_method_2_code, exceptionTable := #[], attributes := #[] }
def k10m1 : Method := { name := "charAt", desc := "([BI)C", sig := { parameters := [(.array .byte), .int], returnType := some .char }, accessFlags := 9, code := some k10c1 }
/-- java/lang/StringLatin1 -/
def k10 : Class := { plain "java/lang/StringLatin1" (some 0) with
  accessFlags := 48
  interfaces := #[]
  cf := some (fileOf pool10 14 #[.nestMembers #[390, 221]] #[{ accessFlags := 0, nameIndex := 7, descriptorIndex := 8, attributes := #[] }, { accessFlags := 9, nameIndex := 252, descriptorIndex := 53, attributes := #[] }] 48 4 #[] #[{ accessFlags := 4120, nameIndex := 121, descriptorIndex := 122, attributes := #[] }])
  fields := #[{ name := "$assertionsDisabled", type := .boolean, accessFlags := 4120, slot := 0, constantValue := 0 }]
  methods := #[k10m0, k10m1]
  instanceTypes := #[]
  staticTypes := #[.boolean]
  resolved := Array.replicate 395 none
  statics := none }

def pool11 : Array CpInfo := pool [(2, .class_ 4), (1, u "java/lang/Object"), (0, u "<init>"), (0, u "()V"), (17, .class_ 26), (1, u "jdk/internal/util/Preconditions"), (6, u "checkIndex"), (21, .class_ 56), (0, u "jdk/internal/util/Preconditions$4"), (57, .class_ 115), (0, u "jdk/internal/util/Preconditions$1"), (7, u "SIOOBE_FORMATTER"), (0, u "Ljava/util/function/BiFunction;"), (0, .class_ 126), (0, u "jdk/internal/util/Preconditions$2"), (3, u "AIOOBE_FORMATTER"), (0, .class_ 132), (0, u "jdk/internal/util/Preconditions$3"), (3, u "IOOBE_FORMATTER"), (41, u "(IILjava/util/function/BiFunction;)I")] 15

def k11m0 : Method := { name := "<init>", desc := "()V", sig := { parameters := [], returnType := none }, accessFlags := 1, code := none }
def k11c1 : Code := { maxStack := 3, maxLocals := 3, code := jdk_41_method_11_code, exceptionTable := #[], attributes := #[] }
def k11m1 : Method := { name := "checkIndex", desc := "(IILjava/util/function/BiFunction;)I", sig := { parameters := [.int, .int, (.object "java/util/function/BiFunction")], returnType := some .int }, accessFlags := 9, code := some k11c1 }
/-- jdk/internal/util/Preconditions -/
def k11 : Class := { plain "jdk/internal/util/Preconditions" (some 0) with
  accessFlags := 33
  interfaces := #[]
  cf := some (fileOf pool11 24 #[.nestMembers #[55, 131, 125, 114]] #[{ accessFlags := 1, nameIndex := 5, descriptorIndex := 6, attributes := #[] }, { accessFlags := 9, nameIndex := 33, descriptorIndex := 178, attributes := #[] }] 33 2 #[] #[{ accessFlags := 25, nameIndex := 123, descriptorIndex := 124, attributes := #[] }, { accessFlags := 25, nameIndex := 130, descriptorIndex := 124, attributes := #[] }, { accessFlags := 25, nameIndex := 136, descriptorIndex := 124, attributes := #[] }])
  fields := #[{ name := "SIOOBE_FORMATTER", type := (.object "java/util/function/BiFunction"), accessFlags := 25, slot := 0, constantValue := 0 }, { name := "AIOOBE_FORMATTER", type := (.object "java/util/function/BiFunction"), accessFlags := 25, slot := 1, constantValue := 0 }, { name := "IOOBE_FORMATTER", type := (.object "java/util/function/BiFunction"), accessFlags := 25, slot := 2, constantValue := 0 }]
  methods := #[k11m0, k11m1]
  instanceTypes := #[]
  staticTypes := #[(.object "java/util/function/BiFunction"), (.object "java/util/function/BiFunction"), (.object "java/util/function/BiFunction")]
  resolved := Array.replicate 194 none
  statics := some 2 }

def pool12 : Array CpInfo := pool [(9, u "<init>"), (6, .class_ 18), (1, u "java/lang/Object"), (0, u "()V"), (1, .class_ 23), (1, u "jdk/internal/util/ArraysSupport"), (0, u "LOG2_ARRAY_LONG_INDEX_SCALE"), (0, u "I"), (2, u "U"), (0, u "Ljdk/internal/misc/Unsafe;"), (8, u "BIG_ENDIAN"), (0, u "Z"), (8, u "LOG2_BYTE_BIT_SIZE"), (4, u "LOG2_ARRAY_INT_INDEX_SCALE"), (54, u "JLA"), (0, u "Ljdk/internal/access/JavaLangAccess;"), (11, u "LOG2_ARRAY_BOOLEAN_INDEX_SCALE"), (9, u "LOG2_ARRAY_BYTE_INDEX_SCALE"), (5, u "LOG2_ARRAY_CHAR_INDEX_SCALE"), (5, u "LOG2_ARRAY_SHORT_INDEX_SCALE"), (18, u "LOG2_ARRAY_FLOAT_INDEX_SCALE"), (24, u "LOG2_ARRAY_DOUBLE_INDEX_SCALE"), (89, u "T_BOOLEAN"), (2, u "T_CHAR"), (1, u "T_FLOAT"), (1, u "T_DOUBLE"), (1, u "T_BYTE"), (1, u "T_SHORT"), (1, u "T_INT"), (1, u "T_LONG"), (1, u "SOFT_MAX_ARRAY_LENGTH")] 83

def k12m0 : Method := { name := "<init>", desc := "()V", sig := { parameters := [], returnType := none }, accessFlags := 2, code := none }
/-- jdk/internal/util/ArraysSupport -/
def k12 : Class := { plain "jdk/internal/util/ArraysSupport" (some 0) with
  accessFlags := 33
  interfaces := #[]
  cf := some (fileOf pool12 21 #[] #[{ accessFlags := 2, nameIndex := 9, descriptorIndex := 19, attributes := #[] }] 33 16 #[] #[{ accessFlags := 24, nameIndex := 28, descriptorIndex := 29, attributes := #[] }, { accessFlags := 26, nameIndex := 38, descriptorIndex := 39, attributes := #[] }, { accessFlags := 25, nameIndex := 121, descriptorIndex := 25, attributes := #[] }, { accessFlags := 25, nameIndex := 131, descriptorIndex := 25, attributes := #[] }, { accessFlags := 25, nameIndex := 137, descriptorIndex := 25, attributes := #[] }, { accessFlags := 25, nameIndex := 143, descriptorIndex := 25, attributes := #[] }, { accessFlags := 25, nameIndex := 53, descriptorIndex := 25, attributes := #[] }, { accessFlags := 25, nameIndex := 24, descriptorIndex := 25, attributes := #[] }, { accessFlags := 25, nameIndex := 162, descriptorIndex := 25, attributes := #[] }, { accessFlags := 25, nameIndex := 187, descriptorIndex := 25, attributes := #[] }, { accessFlags := 26, nameIndex := 48, descriptorIndex := 25, attributes := #[] }, { accessFlags := 25, nameIndex := 277, descriptorIndex := 25, attributes := #[] }, { accessFlags := 25, nameIndex := 280, descriptorIndex := 25, attributes := #[] }, { accessFlags := 25, nameIndex := 282, descriptorIndex := 25, attributes := #[] }, { accessFlags := 25, nameIndex := 284, descriptorIndex := 25, attributes := #[] }, { accessFlags := 25, nameIndex := 286, descriptorIndex := 25, attributes := #[] }, { accessFlags := 25, nameIndex := 288, descriptorIndex := 25, attributes := #[] }, { accessFlags := 25, nameIndex := 290, descriptorIndex := 25, attributes := #[] }, { accessFlags := 25, nameIndex := 292, descriptorIndex := 25, attributes := #[] }, { accessFlags := 26, nameIndex := 108, descriptorIndex := 109, attributes := #[] }, { accessFlags := 25, nameIndex := 294, descriptorIndex := 25, attributes := #[] }])
  fields := #[{ name := "U", type := (.object "jdk/internal/misc/Unsafe"), accessFlags := 24, slot := 0, constantValue := 0 }, { name := "BIG_ENDIAN", type := .boolean, accessFlags := 26, slot := 1, constantValue := 0 }, { name := "LOG2_ARRAY_BOOLEAN_INDEX_SCALE", type := .int, accessFlags := 25, slot := 2, constantValue := 0 }, { name := "LOG2_ARRAY_BYTE_INDEX_SCALE", type := .int, accessFlags := 25, slot := 3, constantValue := 0 }, { name := "LOG2_ARRAY_CHAR_INDEX_SCALE", type := .int, accessFlags := 25, slot := 4, constantValue := 0 }, { name := "LOG2_ARRAY_SHORT_INDEX_SCALE", type := .int, accessFlags := 25, slot := 5, constantValue := 0 }, { name := "LOG2_ARRAY_INT_INDEX_SCALE", type := .int, accessFlags := 25, slot := 6, constantValue := 0 }, { name := "LOG2_ARRAY_LONG_INDEX_SCALE", type := .int, accessFlags := 25, slot := 7, constantValue := 0 }, { name := "LOG2_ARRAY_FLOAT_INDEX_SCALE", type := .int, accessFlags := 25, slot := 8, constantValue := 0 }, { name := "LOG2_ARRAY_DOUBLE_INDEX_SCALE", type := .int, accessFlags := 25, slot := 9, constantValue := 0 }, { name := "LOG2_BYTE_BIT_SIZE", type := .int, accessFlags := 26, slot := 10, constantValue := 0 }, { name := "T_BOOLEAN", type := .int, accessFlags := 25, slot := 11, constantValue := 0 }, { name := "T_CHAR", type := .int, accessFlags := 25, slot := 12, constantValue := 0 }, { name := "T_FLOAT", type := .int, accessFlags := 25, slot := 13, constantValue := 0 }, { name := "T_DOUBLE", type := .int, accessFlags := 25, slot := 14, constantValue := 0 }, { name := "T_BYTE", type := .int, accessFlags := 25, slot := 15, constantValue := 0 }, { name := "T_SHORT", type := .int, accessFlags := 25, slot := 16, constantValue := 0 }, { name := "T_INT", type := .int, accessFlags := 25, slot := 17, constantValue := 0 }, { name := "T_LONG", type := .int, accessFlags := 25, slot := 18, constantValue := 0 }, { name := "JLA", type := (.object "jdk/internal/access/JavaLangAccess"), accessFlags := 26, slot := 19, constantValue := 0 }, { name := "SOFT_MAX_ARRAY_LENGTH", type := .int, accessFlags := 25, slot := 20, constantValue := 0 }]
  methods := #[k12m0]
  instanceTypes := #[]
  staticTypes := #[(.object "jdk/internal/misc/Unsafe"), .boolean, .int, .int, .int, .int, .int, .int, .int, .int, .int, .int, .int, .int, .int, .int, .int, .int, .int, (.object "jdk/internal/access/JavaLangAccess"), .int]
  resolved := Array.replicate 378 none
  statics := none }

def pool13 : Array CpInfo := pool [(1, u "java/lang/Cloneable"), (0, .class_ 1), (0, u "java/lang/Object"), (0, .class_ 3)] 3

/-- java/lang/Cloneable -/
def k13 : Class := { plain "java/lang/Cloneable" (some 0) with
  accessFlags := 1537
  interfaces := #[]
  cf := some (fileOf pool13 2 #[] #[] 1537 4 #[] #[])
  fields := #[]
  methods := #[]
  instanceTypes := #[]
  staticTypes := #[]
  resolved := Array.replicate 8 none
  statics := none }

/-- the primitive byte -/
def k14 : Class := { plain "byte" none with kind := .primitive 'B', accessFlags := 0x411 }
/-- [B -/
def k15 : Class := { plain "[B" (some 0) with kind := .array 14 .byte, interfaces := #[13, 2], accessFlags := 1041 }

/-- the primitive char -/
def k16 : Class := { plain "char" none with kind := .primitive 'C', accessFlags := 0x411 }
/-- [C -/
def k17 : Class := { plain "[C" (some 0) with kind := .array 16 .char, interfaces := #[13, 2], accessFlags := 1041 }

/-- the primitive int -/
def k18 : Class := { plain "int" none with kind := .primitive 'I', accessFlags := 0x411 }
/-- [I -/
def k19 : Class := { plain "[I" (some 0) with kind := .array 18 .int, interfaces := #[13, 2], accessFlags := 1041 }

def heap : Heap := #[{ cls := 7, slots := #[.long 0, .int 1, .null, .int 0, .null, .int 0, .int 0], vm := .statics 7 },
  { cls := 8, slots := #[.int 0, .int 8, .int 0, .int 1], vm := .statics 8 },
  { cls := 11, slots := #[.null, .null, .null], vm := .statics 11 }]
def classes : Array Class := #[k0, k1, k2, k3, k4, k5, k6, k7, k8, k9, k10, k11, k12, k13, k14, k15, k16, k17, k18, k19]
def interned : List (Array UInt16 × Addr) := []
def slotsUsed : Nat := 14
def theMethod : MethodId := ⟨1, 3⟩
def args0 : Array Value := #[.int 5, .int 5, .int 5, .int 5]
def aboutOver (below : List Frame) : State where
  vm := { classes := classes, interned := interned.toArray }
  heap := heap
  slotsUsed := slotsUsed
  threads := #[{ frames := .invoking theMethod args0 :: below }]
def below0 : List Frame := [.native { method := ⟨0, 0⟩, args := #[] }]
def about1 : State := aboutOver below0
def p0 : Program := .bare "" "" ""
def e0 : Env := launch0.env 0 0 0
theorem w_frames : about1.frames = Frame.invoking theMethod args0 :: below0 := rfl
set_option maxRecDepth 65536 in
theorem w_args : argsFit about1.vm theMethod args0 = true := by decide +kernel
set_option maxRecDepth 65536 in
theorem w_heap : heapFits about1 = true := by decide +kernel
set_option maxRecDepth 65536 in
theorem w_runnable : about1.curStatus? = some .runnable := by decide +kernel
set_option maxRecDepth 65536 in
theorem w_alone : about1.alone = true := by decide +kernel
set_option maxRecDepth 65536 in
theorem w_named : about1.methodNamed? x = some theMethod := by decide +kernel
set_option maxRecDepth 65536 in
theorem w_hears : about1.hears theMethod below0 = true := by decide +kernel
set_option maxRecDepth 65536 in
theorem w_ripe : about1.ripe theMethod args0 below0 = true := by decide +kernel
theorem w_running : about1.status = .running := rfl
set_option maxRecDepth 65536 in
theorem w_room : about1.hasRoom e0.platform room_1 = true :=
  launch0.hasRoom_least _ room_1 (by decide +kernel) (by decide +kernel) (by decide +kernel) (by decide +kernel) (by decide +kernel) (by decide +kernel)
theorem allAtoms_all (ts : List Jvm.Cond) (a : Array Jvm.Value) (st : Jvm.State) : (allAtoms ts).before a st = ts.all (fun c => c.before a st) := by
  induction ts with
  | nil => rfl
  | cons c t ih =>
    show (Jvm.Cond.and c (allAtoms t)).before a st = _
    rw [Jvm.Cond.before_and, ih, List.all_cons]
def words1 : List Jvm.Cond := Jvm.Cond.code x code maxLocals ret :: tables_1
/-- a 'code' word, met by the world's own term for the bytes: nothing is compared byte by byte -/
theorem code_word {y : MethodName} {bytes : ByteArray} {mx : Nat} {rt : Option FieldType} {a : Array Value} {s : State} {m : MethodId} {meth : Method} {c : Code} (h1 : s.methodNamed? y = some m) (h2 : s.vm.method? m = some meth) (h3 : meth.code = some c) (h4 : c.code = bytes)
    (h5 : (c.maxLocals == mx && c.exceptionTable.isEmpty && decide (c.maxStack ≤ mostOperands) && decide (meth.sig.returnType = rt) && !meth.locks && decide (parseMethodDescriptor y.desc = some meth.sig)) = true) : (Jvm.Cond.code y bytes mx rt).before a s = true := by
  simp only [Bool.and_eq_true, beq_iff_eq, Bool.not_eq_true', decide_eq_true_eq] at h5
  obtain ⟨⟨⟨⟨⟨g1, g2⟩, g3⟩, g4⟩, g5⟩, g6⟩ := h5
  simp [Cond.before, Cond.holds, Cond.value, h1, h2, h3, h4, g1, g2, g3, g4, g5, g6]
def isCode : Jvm.Cond → Bool
  | .code _ _ _ _ => true
  | _ => false
theorem all_split {L : List Jvm.Cond} {P : Jvm.Cond → Bool} (h1 : L.all (fun c => isCode c || P c) = true) (h2 : ∀ c ∈ L.filter isCode, P c = true) : L.all P = true := by
  refine List.all_eq_true.mpr fun c hc => ?_
  have h := List.all_eq_true.mp h1 c hc
  rcases Bool.eq_false_or_eq_true (isCode c) with hi | hi
  · exact h2 c (List.mem_filter.mpr ⟨hc, hi⟩)
  · simpa [hi] using h
set_option maxRecDepth 65536 in
theorem w_c0 : (Jvm.Cond.code x code maxLocals ret).before args0 about1 = true := code_word (m := ⟨1, 3⟩) (meth := k1m3) (c := k1c3) (by decide +kernel) rfl rfl rfl (by decide +kernel)
set_option maxRecDepth 65536 in
theorem w_c1 : (Jvm.Cond.code ({ cls := "java/lang/String", name := "<init>", desc := "([C)V" } : Jvm.MethodName) jdk_42_method_3_code (2 : Nat) (Option.none : Option Jvm.ClassFile.FieldType)).before args0 about1 = true := code_word (m := ⟨7, 1⟩) (meth := k7m1) (c := k7c1) (by decide +kernel) rfl rfl rfl (by decide +kernel)
set_option maxRecDepth 65536 in
theorem w_c2 : (Jvm.Cond.code ({ cls := "java/lang/String", name := "<init>", desc := "([CIILjava/lang/Void;)V" } : Jvm.MethodName) jdk_42_method_149_code (6 : Nat) (Option.none : Option Jvm.ClassFile.FieldType)).before args0 about1 = true := code_word (m := ⟨7, 3⟩) (meth := k7m3) (c := k7c3) (by decide +kernel) rfl rfl rfl (by decide +kernel)
set_option maxRecDepth 65536 in
theorem w_c3 : (Jvm.Cond.code ({ cls := "java/lang/Object", name := "<init>", desc := "()V" } : Jvm.MethodName) object_method_1_code (1 : Nat) (Option.none : Option Jvm.ClassFile.FieldType)).before args0 about1 = true := code_word (m := ⟨0, 0⟩) (meth := k0m0) (c := k0c0) (by decide +kernel) rfl rfl rfl (by decide +kernel)
set_option maxRecDepth 65536 in
theorem w_c4 : (Jvm.Cond.code ({ cls := "java/lang/StringUTF16", name := "compress", desc := "([CII)[B" } : Jvm.MethodName) jdk_52_method_16_code (6 : Nat) (Option.some (Jvm.ClassFile.FieldType.array Jvm.ClassFile.FieldType.byte))).before args0 about1 = true := code_word (m := ⟨8, 8⟩) (meth := k8m8) (c := k8c8) (by decide +kernel) rfl rfl rfl (by decide +kernel)
set_option maxRecDepth 65536 in
theorem w_c5 : (Jvm.Cond.code ({ cls := "java/lang/StringUTF16", name := "compress", desc := "([CI[BII)I" } : Jvm.MethodName) jdk_52_method_21_code (7 : Nat) (Option.some Jvm.ClassFile.FieldType.int)).before args0 about1 = true := code_word (m := ⟨8, 9⟩) (meth := k8m9) (c := k8c9) (by decide +kernel) rfl rfl rfl (by decide +kernel)
set_option maxRecDepth 65536 in
theorem w_c6 : (Jvm.Cond.code ({ cls := "java/lang/StringUTF16", name := "coderFromArrayLen", desc := "([BI)B" } : Jvm.MethodName) jdk_52_method_15_code (2 : Nat) (Option.some Jvm.ClassFile.FieldType.byte)).before args0 about1 = true := code_word (m := ⟨8, 7⟩) (meth := k8m7) (c := k8c7) (by decide +kernel) rfl rfl rfl (by decide +kernel)
set_option maxRecDepth 65536 in
theorem w_c7 : (Jvm.Cond.code ({ cls := "com/example/vestry/vestry/input/ValueChecks", name := "digits", desc := "(Ljava/lang/String;II)Z" } : Jvm.MethodName) prog_53_method_2_code (6 : Nat) (Option.some Jvm.ClassFile.FieldType.boolean)).before args0 about1 = true := code_word (m := ⟨9, 1⟩) (meth := k9m1) (c := k9c1) (by decide +kernel) rfl rfl rfl (by decide +kernel)
set_option maxRecDepth 65536 in
theorem w_c8 : (Jvm.Cond.code ({ cls := "java/lang/StringUTF16", name := "toBytes", desc := "([CII)[B" } : Jvm.MethodName) jdk_52_method_14_code (5 : Nat) (Option.some (Jvm.ClassFile.FieldType.array Jvm.ClassFile.FieldType.byte))).before args0 about1 = true := code_word (m := ⟨8, 6⟩) (meth := k8m6) (c := k8c6) (by decide +kernel) rfl rfl rfl (by decide +kernel)
set_option maxRecDepth 65536 in
theorem w_c9 : (Jvm.Cond.code ({ cls := "java/lang/StringUTF16", name := "newBytesFor", desc := "(I)[B" } : Jvm.MethodName) jdk_52_method_2_code (1 : Nat) (Option.some (Jvm.ClassFile.FieldType.array Jvm.ClassFile.FieldType.byte))).before args0 about1 = true := code_word (m := ⟨8, 1⟩) (meth := k8m1) (c := k8c1) (by decide +kernel) rfl rfl rfl (by decide +kernel)
set_option maxRecDepth 65536 in
theorem w_c10 : (Jvm.Cond.code ({ cls := "java/lang/StringUTF16", name := "newBytesLength", desc := "(I)I" } : Jvm.MethodName) jdk_52_method_3_code (1 : Nat) (Option.some Jvm.ClassFile.FieldType.int)).before args0 about1 = true := code_word (m := ⟨8, 2⟩) (meth := k8m2) (c := k8c2) (by decide +kernel) rfl rfl rfl (by decide +kernel)
set_option maxRecDepth 65536 in
theorem w_c11 : (Jvm.Cond.code ({ cls := "java/lang/StringUTF16", name := "putChar", desc := "([BII)V" } : Jvm.MethodName) jdk_52_method_4_code (3 : Nat) (Option.none : Option Jvm.ClassFile.FieldType)).before args0 about1 = true := code_word (m := ⟨8, 3⟩) (meth := k8m3) (c := k8c3) (by decide +kernel) rfl rfl rfl (by decide +kernel)
set_option maxRecDepth 65536 in
theorem w_c12 : (Jvm.Cond.code ({ cls := "java/lang/StringUTF16", name := "getChar", desc := "([BI)C" } : Jvm.MethodName) jdk_52_method_5_code (2 : Nat) (Option.some Jvm.ClassFile.FieldType.char)).before args0 about1 = true := code_word (m := ⟨8, 4⟩) (meth := k8m4) (c := k8c4) (by decide +kernel) rfl rfl rfl (by decide +kernel)
set_option maxRecDepth 65536 in
theorem w_c13 : (Jvm.Cond.code ({ cls := "com/example/vestry/vestry/input/ValueChecksDigitsPinLaw", name := "fine", desc := "(IIIC)Z" } : Jvm.MethodName) method_3_code (4 : Nat) (Option.some Jvm.ClassFile.FieldType.boolean)).before args0 about1 = true := code_word (m := ⟨1, 2⟩) (meth := k1m2) (c := k1c2) (by decide +kernel) rfl rfl rfl (by decide +kernel)
set_option maxRecDepth 65536 in
theorem w_c14 : (Jvm.Cond.code ({ cls := "com/example/vestry/vestry/input/ValueChecksDigitsPinLaw", name := "isAsciiDigit", desc := "(C)Z" } : Jvm.MethodName) method_2_code (2 : Nat) (Option.some Jvm.ClassFile.FieldType.boolean)).before args0 about1 = true := code_word (m := ⟨1, 1⟩) (meth := k1m1) (c := k1c1) (by decide +kernel) rfl rfl rfl (by decide +kernel)
set_option maxRecDepth 65536 in
theorem w_c15 : (Jvm.Cond.code ({ cls := "java/lang/String", name := "charAt", desc := "(I)C" } : Jvm.MethodName) jdk_42_method_56_code (2 : Nat) (Option.some Jvm.ClassFile.FieldType.char)).before args0 about1 = true := code_word (m := ⟨7, 2⟩) (meth := k7m2) (c := k7c2) (by decide +kernel) rfl rfl rfl (by decide +kernel)
set_option maxRecDepth 65536 in
theorem w_c16 : (Jvm.Cond.code ({ cls := "java/lang/String", name := "isLatin1", desc := "()Z" } : Jvm.MethodName) jdk_42_method_154_code (1 : Nat) (Option.some Jvm.ClassFile.FieldType.boolean)).before args0 about1 = true := code_word (m := ⟨7, 4⟩) (meth := k7m4) (c := k7c4) (by decide +kernel) rfl rfl rfl (by decide +kernel)
set_option maxRecDepth 65536 in
theorem w_c17 : (Jvm.Cond.code ({ cls := "java/lang/StringLatin1", name := "charAt", desc := "([BI)C" } : Jvm.MethodName) jdk_43_method_2_code (2 : Nat) (Option.some Jvm.ClassFile.FieldType.char)).before args0 about1 = true := code_word (m := ⟨10, 1⟩) (meth := k10m1) (c := k10c1) (by decide +kernel) rfl rfl rfl (by decide +kernel)
set_option maxRecDepth 65536 in
theorem w_c18 : (Jvm.Cond.code ({ cls := "java/lang/String", name := "checkIndex", desc := "(II)V" } : Jvm.MethodName) jdk_42_method_155_code (2 : Nat) (Option.none : Option Jvm.ClassFile.FieldType)).before args0 about1 = true := code_word (m := ⟨7, 5⟩) (meth := k7m5) (c := k7c5) (by decide +kernel) rfl rfl rfl (by decide +kernel)
set_option maxRecDepth 65536 in
theorem w_c19 : (Jvm.Cond.code ({ cls := "jdk/internal/util/Preconditions", name := "checkIndex", desc := "(IILjava/util/function/BiFunction;)I" } : Jvm.MethodName) jdk_41_method_11_code (3 : Nat) (Option.some Jvm.ClassFile.FieldType.int)).before args0 about1 = true := code_word (m := ⟨11, 1⟩) (meth := k11m1) (c := k11c1) (by decide +kernel) rfl rfl rfl (by decide +kernel)
set_option maxRecDepth 65536 in
theorem w_c20 : (Jvm.Cond.code ({ cls := "java/lang/StringUTF16", name := "charAt", desc := "([BI)C" } : Jvm.MethodName) jdk_52_method_83_code (2 : Nat) (Option.some Jvm.ClassFile.FieldType.char)).before args0 about1 = true := code_word (m := ⟨8, 10⟩) (meth := k8m10) (c := k8c10) (by decide +kernel) rfl rfl rfl (by decide +kernel)
set_option maxRecDepth 65536 in
theorem w_c21 : (Jvm.Cond.code ({ cls := "java/lang/StringUTF16", name := "checkIndex", desc := "(I[B)V" } : Jvm.MethodName) jdk_52_method_91_code (2 : Nat) (Option.none : Option Jvm.ClassFile.FieldType)).before args0 about1 = true := code_word (m := ⟨8, 11⟩) (meth := k8m11) (c := k8c11) (by decide +kernel) rfl rfl rfl (by decide +kernel)
set_option maxRecDepth 65536 in
theorem w_c22 : (Jvm.Cond.code ({ cls := "java/lang/StringUTF16", name := "length", desc := "([B)I" } : Jvm.MethodName) jdk_52_method_6_code (1 : Nat) (Option.some Jvm.ClassFile.FieldType.int)).before args0 about1 = true := code_word (m := ⟨8, 5⟩) (meth := k8m5) (c := k8c5) (by decide +kernel) rfl rfl rfl (by decide +kernel)
def codes1 : List Jvm.Cond := [Jvm.Cond.code x code maxLocals ret, Jvm.Cond.code ({ cls := "java/lang/String", name := "<init>", desc := "([C)V" } : Jvm.MethodName) jdk_42_method_3_code (2 : Nat) (Option.none : Option Jvm.ClassFile.FieldType), Jvm.Cond.code ({ cls := "java/lang/String", name := "<init>", desc := "([CIILjava/lang/Void;)V" } : Jvm.MethodName) jdk_42_method_149_code (6 : Nat) (Option.none : Option Jvm.ClassFile.FieldType), Jvm.Cond.code ({ cls := "java/lang/Object", name := "<init>", desc := "()V" } : Jvm.MethodName) object_method_1_code (1 : Nat) (Option.none : Option Jvm.ClassFile.FieldType), Jvm.Cond.code ({ cls := "java/lang/StringUTF16", name := "compress", desc := "([CII)[B" } : Jvm.MethodName) jdk_52_method_16_code (6 : Nat) (Option.some (Jvm.ClassFile.FieldType.array Jvm.ClassFile.FieldType.byte)), Jvm.Cond.code ({ cls := "java/lang/StringUTF16", name := "compress", desc := "([CI[BII)I" } : Jvm.MethodName) jdk_52_method_21_code (7 : Nat) (Option.some Jvm.ClassFile.FieldType.int), Jvm.Cond.code ({ cls := "java/lang/StringUTF16", name := "coderFromArrayLen", desc := "([BI)B" } : Jvm.MethodName) jdk_52_method_15_code (2 : Nat) (Option.some Jvm.ClassFile.FieldType.byte), Jvm.Cond.code ({ cls := "com/example/vestry/vestry/input/ValueChecks", name := "digits", desc := "(Ljava/lang/String;II)Z" } : Jvm.MethodName) prog_53_method_2_code (6 : Nat) (Option.some Jvm.ClassFile.FieldType.boolean), Jvm.Cond.code ({ cls := "java/lang/StringUTF16", name := "toBytes", desc := "([CII)[B" } : Jvm.MethodName) jdk_52_method_14_code (5 : Nat) (Option.some (Jvm.ClassFile.FieldType.array Jvm.ClassFile.FieldType.byte)), Jvm.Cond.code ({ cls := "java/lang/StringUTF16", name := "newBytesFor", desc := "(I)[B" } : Jvm.MethodName) jdk_52_method_2_code (1 : Nat) (Option.some (Jvm.ClassFile.FieldType.array Jvm.ClassFile.FieldType.byte)), Jvm.Cond.code ({ cls := "java/lang/StringUTF16", name := "newBytesLength", desc := "(I)I" } : Jvm.MethodName) jdk_52_method_3_code (1 : Nat) (Option.some Jvm.ClassFile.FieldType.int), Jvm.Cond.code ({ cls := "java/lang/StringUTF16", name := "putChar", desc := "([BII)V" } : Jvm.MethodName) jdk_52_method_4_code (3 : Nat) (Option.none : Option Jvm.ClassFile.FieldType), Jvm.Cond.code ({ cls := "java/lang/StringUTF16", name := "getChar", desc := "([BI)C" } : Jvm.MethodName) jdk_52_method_5_code (2 : Nat) (Option.some Jvm.ClassFile.FieldType.char), Jvm.Cond.code ({ cls := "com/example/vestry/vestry/input/ValueChecksDigitsPinLaw", name := "fine", desc := "(IIIC)Z" } : Jvm.MethodName) method_3_code (4 : Nat) (Option.some Jvm.ClassFile.FieldType.boolean), Jvm.Cond.code ({ cls := "com/example/vestry/vestry/input/ValueChecksDigitsPinLaw", name := "isAsciiDigit", desc := "(C)Z" } : Jvm.MethodName) method_2_code (2 : Nat) (Option.some Jvm.ClassFile.FieldType.boolean), Jvm.Cond.code ({ cls := "java/lang/String", name := "charAt", desc := "(I)C" } : Jvm.MethodName) jdk_42_method_56_code (2 : Nat) (Option.some Jvm.ClassFile.FieldType.char), Jvm.Cond.code ({ cls := "java/lang/String", name := "isLatin1", desc := "()Z" } : Jvm.MethodName) jdk_42_method_154_code (1 : Nat) (Option.some Jvm.ClassFile.FieldType.boolean), Jvm.Cond.code ({ cls := "java/lang/StringLatin1", name := "charAt", desc := "([BI)C" } : Jvm.MethodName) jdk_43_method_2_code (2 : Nat) (Option.some Jvm.ClassFile.FieldType.char), Jvm.Cond.code ({ cls := "java/lang/String", name := "checkIndex", desc := "(II)V" } : Jvm.MethodName) jdk_42_method_155_code (2 : Nat) (Option.none : Option Jvm.ClassFile.FieldType), Jvm.Cond.code ({ cls := "jdk/internal/util/Preconditions", name := "checkIndex", desc := "(IILjava/util/function/BiFunction;)I" } : Jvm.MethodName) jdk_41_method_11_code (3 : Nat) (Option.some Jvm.ClassFile.FieldType.int), Jvm.Cond.code ({ cls := "java/lang/StringUTF16", name := "charAt", desc := "([BI)C" } : Jvm.MethodName) jdk_52_method_83_code (2 : Nat) (Option.some Jvm.ClassFile.FieldType.char), Jvm.Cond.code ({ cls := "java/lang/StringUTF16", name := "checkIndex", desc := "(I[B)V" } : Jvm.MethodName) jdk_52_method_91_code (2 : Nat) (Option.none : Option Jvm.ClassFile.FieldType), Jvm.Cond.code ({ cls := "java/lang/StringUTF16", name := "length", desc := "([B)I" } : Jvm.MethodName) jdk_52_method_6_code (1 : Nat) (Option.some Jvm.ClassFile.FieldType.int)]
set_option maxRecDepth 65536 in
theorem codes_eq : words1.filter isCode = codes1 := rfl
theorem w_codes : ∀ c ∈ words1.filter isCode, c.before args0 about1 = true := by
  rw [codes_eq]
  intro c hc
  simp only [codes1, List.mem_cons, List.not_mem_nil, or_false] at hc
  rcases hc with rfl | rfl | rfl | rfl | rfl | rfl | rfl | rfl | rfl | rfl | rfl | rfl | rfl | rfl | rfl | rfl | rfl | rfl | rfl | rfl | rfl | rfl | rfl
  · exact w_c0
  · exact w_c1
  · exact w_c2
  · exact w_c3
  · exact w_c4
  · exact w_c5
  · exact w_c6
  · exact w_c7
  · exact w_c8
  · exact w_c9
  · exact w_c10
  · exact w_c11
  · exact w_c12
  · exact w_c13
  · exact w_c14
  · exact w_c15
  · exact w_c16
  · exact w_c17
  · exact w_c18
  · exact w_c19
  · exact w_c20
  · exact w_c21
  · exact w_c22
set_option maxRecDepth 65536 in
theorem w_t1 : (words1.take 24).all (fun c => isCode c || c.before args0 about1) = true := by decide +kernel
set_option maxRecDepth 65536 in
theorem w_t2 : ((words1.drop 24).take 24).all (fun c => isCode c || c.before args0 about1) = true := by decide +kernel
set_option maxRecDepth 65536 in
theorem w_t3 : (((words1.drop 24).drop 24).take 24).all (fun c => isCode c || c.before args0 about1) = true := by decide +kernel
set_option maxRecDepth 65536 in
theorem w_t4 : (((words1.drop 24).drop 24).drop 24).all (fun c => isCode c || c.before args0 about1) = true := by decide +kernel
theorem w_tables : (allAtoms (Jvm.Cond.code x code maxLocals ret :: tables_1)).before args0 about1 = true := by
  rw [allAtoms_all]
  show words1.all (fun c => c.before args0 about1) = true
  refine all_split ?_ w_codes
  rw [← List.take_append_drop 24 words1, List.all_append, w_t1, ← List.take_append_drop 24 (words1.drop 24), List.all_append, w_t2, ← List.take_append_drop 24 ((words1.drop 24).drop 24), List.all_append, w_t3, w_t4]
  rfl
set_option maxRecDepth 65536 in
theorem w_rest : rest_1_c.before args0 about1 = true := by decide +kernel
set_option maxRecDepth 65536 in
theorem w_case : (Jvm.Cond.and given_1 narrow_1).before args0 about1 = true := by decide +kernel
theorem w_applies : (headSpec (Jvm.Cond.code x code maxLocals ret :: tables_1) room_1).applies x e0.platform about1 = true :=
  (Spec.applies_iff w_frames).mpr ⟨w_running, w_runnable, w_alone, w_named, w_hears, w_ripe, w_room, w_tables⟩
theorem atStart : AtStart classFile x code maxLocals ret World_1 tables_1 room_1 Calls_1 rest_1 Pre_1 launch0 p0 e0 about1 theMethod args0 below0 :=
  ⟨lists_1, trivial, launch0.admits_env _ _ _, launch0.least_env, fairChoices_fair.cas, fairChoices_fair.clock, w_frames, w_args, w_heap, w_applies, trivial, w_rest, w_case⟩
end start1
theorem witness_1 : WitnessClaimed_1 := ⟨start1.p0, start1.e0, start1.about1, start1.theMethod, start1.args0, start1.below0, start1.atStart⟩
end Jvm.Pilot.@@N@@
