import JvmDerived
import JvmDerived.Pilot.@@N@@Statement
import JvmDerived.Pilot.@@N@@Code
set_option linter.unusedVariables false
set_option linter.unusedSimpArgs false
namespace Jvm.Pilot.@@N@@
open Jvm Jvm.ClassFile Sem Op Lib Jvm.Free Jvm.Stand Jvm.LawKit Jvm.RoadKit Bundle Jvm.Pilot.@@N@@.Jvm.D
abbrev jv (x : Int64) : Slot := .val (.long x)
theorem ow {Z : State} {a0 : Array Value} (hw : ∀ d ∈ tables_1, d.before a0 Z = true) (i : Nat) {d : Jvm.Cond} (h : tables_1[i]? = some d) : d.before a0 Z = true := hw _ (List.mem_of_getElem? h)
section OwnKit
variable {p : Program} {l : Launch} {e : Env} {R : Room} {s : State} {m : MethodId} {args : Array Value} {below : List Frame} {meth : Method} {c : Code} {T T' : State} {locs : List Loc} {cells slots kc ks : Nat} {Q : Option Value → Heap → List Loc → Prop} {g g' : JFrame}
/-- from this state and frame on the body ends, and Q holds of what it returns, of the heap and of the places written -/
def OwnG (p : Program) (e : Env) (below : List Frame) (s : State) (kc ks : Nat) (Q : Option Value → Heap → List Loc → Prop) (T : State) (g : JFrame) : Prop :=
  ∃ s₂ o, Steps p.tables e below (T.setTop g) s₂ ∧ s₂.status = .running ∧ Ended s₂ below o ∧ ∃ v L, o = .returned v ∧ Q v s₂.heap L ∧ FrameEnd s o s₂ L kc ks
theorem own_by (k : ∀ t, Steps p.tables e below (T'.setTop g') t → Steps p.tables e below (T.setTop g) t) (h : OwnG p e below s kc ks Q T' g') : OwnG p e below s kc ks Q T g := by
  obtain ⟨s₂, o, st, r⟩ := h
  exact ⟨s₂, o, k _ st, r⟩
theorem own_out (X : Stand p l e R s m args below meth c T locs cells slots) (hlk : meth.locks = false) {v : Option Value} (hv : meth.sig.returnType = none → v = none)
    (hst : ∀ fs, (∀ (f : JFrame) (acts : List Action), f.method = m → f.locked = none → f.entered = [] → (doReturn e (T.setTop f) acts v).1 = T.setFrames fs) → Steps p.tables e below (T.setTop g) (T.setFrames fs))
    (hq : Q v T.heap locs) (hc : cells ≤ kc) (hs : slots ≤ ks) : OwnG p e below s kc ks Q T g := by
  obtain ⟨fs, hr, hrun, hended, hW, hsame⟩ := X.leave (v := v) hv hlk
  exact ⟨_, _, hst fs hr, hrun, hended, v, locs, rfl, hq, ⟨_, rfl⟩, hW, hsame.mono hc hs⟩
def OwnGW (p : Program) (e : Env) (below : List Frame) (s : State) (kc ks : Nat) (Q : Option Value → Heap → List Loc → Prop) (T : State) (g : JFrame) : Prop :=
  ∃ s₂ o, Steps p.tables e below (T.setTop g) s₂ ∧ s₂.status = .running ∧ Ended s₂ below o ∧ ∃ v L, o = .returned v ∧ Q v s₂.heap L ∧ ReturnedEndW s o s₂ L kc ks
theorem own_byW (k : ∀ t, Steps p.tables e below (T'.setTop g') t → Steps p.tables e below (T.setTop g) t) (h : OwnGW p e below s kc ks Q T' g') : OwnGW p e below s kc ks Q T g := by
  obtain ⟨s₂, o, st, r⟩ := h
  exact ⟨s₂, o, k _ st, r⟩
theorem own_outW {vm : Vm} {k : Nat} (X : Stand p l e R (s.setVm vm) m args below meth c T locs cells slots) (hS : s.Since vm k) (hk : k ≤ T.heap.size) (hlk : meth.locks = false) {v : Option Value} (hv : meth.sig.returnType = none → v = none)
    (hst : ∀ fs, (∀ (f : JFrame) (acts : List Action), f.method = m → f.locked = none → f.entered = [] → (doReturn e (T.setTop f) acts v).1 = T.setFrames fs) → Steps p.tables e below (T.setTop g) (T.setFrames fs))
    (hq : Q v T.heap locs) (hc : cells ≤ kc) (hs : slots ≤ ks) : OwnGW p e below s kc ks Q T g := by
  obtain ⟨fs, hr, hrun, hended, h1, h2, h3, h4⟩ := X.leaveW hS hk (v := v) hv hlk
  exact ⟨_, _, hst fs hr, hrun, hended, v, locs, rfl, hq, h1, h2, h3, h4.mono hc hs⟩
def OwnGH (p : Program) (e : Env) (below : List Frame) (s Z : State) (EL : List (String × Nat)) (kc ks : Nat) (Q : Option Value → Heap → List Loc → Prop) (T : State) (g : JFrame) : Prop :=
  ∃ s₂ o, Steps p.tables e below (T.setTop g) s₂ ∧ s₂.status = .running ∧ Ended s₂ below o ∧ ∃ v L, o = .returned v ∧ Q v s₂.heap L ∧ CHr Z EL s.vm s.heap s₂.vm s₂.heap ∧ ReturnedEndW s o s₂ L kc ks
theorem own_byH {Z : State} {EL : List (String × Nat)} (k : ∀ t, Steps p.tables e below (T'.setTop g') t → Steps p.tables e below (T.setTop g) t) (h : OwnGH p e below s Z EL kc ks Q T' g') : OwnGH p e below s Z EL kc ks Q T g := by
  obtain ⟨s₂, o, st, r⟩ := h
  exact ⟨s₂, o, k _ st, r⟩
theorem own_outH {Z : State} {a0 : Array Value} {EL : List (String × Nat)} {h0 : Heap} {vm : Vm} {k : Nat} (X : Stand p l e R (s.setVm vm) m args below meth c T locs cells slots) (hh : s.heap = h0) (hEL : EW Z a0 EL) (hS : s.Since vm k) (hk : k ≤ T.heap.size) (HR : CHr Z EL s.vm h0 vm T.heap) (hZ : Z.Warmed39 vm) (hlk : meth.locks = false) {v : Option Value} (hv : meth.sig.returnType = none → v = none)
    (hst : ∀ fs, (∀ (f : JFrame) (acts : List Action), f.method = m → f.locked = none → f.entered = [] → (doReturn e (T.setTop f) acts v).1 = T.setFrames fs) → Steps p.tables e below (T.setTop g) (T.setFrames fs))
    (hq : Q v T.heap locs) (hc : cells ≤ kc) (hs : slots ≤ ks) : OwnGH p e below s Z EL kc ks Q T g := by
  obtain ⟨fs, hr, hrun, hended, h1, h2, h3, h4⟩ := X.leaveW hS hk (v := v) hv hlk
  have C := HR.trans (CHv.at X hZ hEL HR.1)
  exact ⟨_, _, hst fs hr, hrun, hended, v, locs, rfl, hq, (by rw [hh]; exact C), h1, h2, h3, h4.mono hc hs⟩
theorem own_lt (x y : Int64) : lcmpW x y < 0 ↔ x < y := by rw [lcW]; exact lc_lt x y
theorem own_gt (x y : Int64) : 0 < lcmpW x y ↔ y < x := by rw [lcW]; exact lc_gt x y
theorem own_eq (x y : Int64) : lcmpW x y = 0 ↔ x = y := by rw [lcW]; exact lc_eq x y
theorem own_fldI {Z : State} {a : Addr} {t : Jvm.Term} {C n d : String} {k : Int32} (ev : t.eval args Z none [] Z = some (.ref a)) (h : (Jvm.Cond.eq (Jvm.Term.field t C n d) (Jvm.Term.int k)).value args Z none Z [] = some true) : Fld Z Z.heap a C n d (.int k) := by
  obtain ⟨x, y, h1, h2, h3, h4⟩ := cmp_v (Or.inl h)
  cases (Term.int_eval k).symm.trans h2
  obtain ⟨z, rfl⟩ := h4
  rw [fld_at ev] at h1
  have h5 : (Jvm.Cond.eq (Jvm.Term.field t C n d) (Jvm.Term.int k)).value args Z none Z [] = some (decide (z = k)) := by simp [Jvm.Cond.value, fld_at ev, h1, Term.int_eval]
  cases gotT h5 h
  exact Fld.start h1
theorem own_fldJ {Z : State} {a : Addr} {t : Jvm.Term} {C n d : String} {k : Int64} (ev : t.eval args Z none [] Z = some (.ref a)) (h : (Jvm.Cond.eq (Jvm.Term.field t C n d) (Jvm.Term.long k)).value args Z none Z [] = some true) : Fld Z Z.heap a C n d (.long k) := by
  obtain ⟨x, y, h1, h2, h3, h4⟩ := cmp_v (Or.inl h)
  cases (long_at k).symm.trans h2
  obtain ⟨z, rfl⟩ := h4
  have h5 := gotT (eq_L h1 (long_at k)) h
  rw [fld_at ev] at h1
  cases h5
  exact Fld.start h1
theorem own_fldN {Z : State} {a : Addr} {t : Jvm.Term} {C n d : String} (ev : t.eval args Z none [] Z = some (.ref a)) (h : (Jvm.Cond.eq (Jvm.Term.field t C n d) Jvm.Term.null).value args Z none Z [] = some true) : Fld Z Z.heap a C n d .null := by
  have h1 := null_v h
  rw [fld_at ev] at h1
  exact Fld.start h1
theorem own_e0 {P : Prop} [Decidable P] (h : (if P then (1 : Int32) else (0 : Int32)) = 0) : ¬ P := fun q => by rw [if_pos q] at h; exact absurd h (by decide)
theorem own_e1 {P : Prop} [Decidable P] (h : ¬ (if P then (1 : Int32) else (0 : Int32)) = 0) : P := by
  by_cases q : P
  · exact q
  · exact absurd (if_neg q) h
theorem own_n2 {P Q : Prop} [Decidable P] [Decidable Q] {A : Int32} (h : ¬ (P ∧ Q)) : (if P then (if Q then A else (0 : Int32)) else (0 : Int32)) = 0 := by
  by_cases p : P
  · rw [if_pos p, if_neg (fun q => h ⟨p, q⟩)]
  · rw [if_neg p]
theorem own_narR {v : Value} {C : String} (h : v.isRef = true) : narrow (.object C) v = v := by rcases ref_cases h with rfl | ⟨_, rfl⟩ <;> rfl
theorem own_fitR {v : Value} {C : String} (h : v.isRef = true) : fits (.object C) v = true := by rcases ref_cases h with rfl | ⟨_, rfl⟩ <;> rfl
theorem own_len {Z : State} {t : Jvm.Term} {a : Addr} {cl : Cell} {ty : FieldType} {k : Int32} (et : t.eval args Z none [] Z = some (.ref a)) (A : Arr Z Z.heap a cl ty) (h : (Jvm.Term.length t).eval args Z none [] Z = some (.int k)) : cl.slots.size < 2 ^ 31 ∧ cl.slots.size.toInt32 = k := by
  have hA := A.fin (Vm.Alike.refl Z.vm)
  by_cases q : cl.slots.size < 2 ^ 31
  · rw [len_f et hA q] at h; exact ⟨q, by simpa using h⟩
  · simp [Jvm.Term.eval, et, hA] at h; exact absurd h.1 q
theorem own_mvM {Z : State} {a0 : Array Value} {own host : String} {index : Nat} {y : MethodName} (hZ : Z.Warmed39 s.vm) (w : (Jvm.Cond.methodLinkNest own index y host).before a0 Z = true) : (Jvm.Cond.methodLinkNest own index y host).before args s = true := (Cond.methodLinkNest_wide hZ w :)
end OwnKit
theorem d1_0 : decode jdk_42_method_3_code 0 = .ok (.aload_n 0, 1) := by decide +kernel
theorem d1_1 : decode jdk_42_method_3_code 1 = .ok (.aload_n 1, 1) := by decide +kernel
theorem d1_2 : decode jdk_42_method_3_code 2 = .ok (.iconst 0, 1) := by decide +kernel
theorem d1_3 : decode jdk_42_method_3_code 3 = .ok (.aload_n 1, 1) := by decide +kernel
theorem d1_4 : decode jdk_42_method_3_code 4 = .ok (.arraylength, 1) := by decide +kernel
theorem d1_5 : decode jdk_42_method_3_code 5 = .ok (.aconst_null, 1) := by decide +kernel
theorem d1_6 : decode jdk_42_method_3_code 6 = .ok (.invokespecial 27, 3) := by decide +kernel
theorem d1_9 : decode jdk_42_method_3_code 9 = .ok (.return_, 1) := by decide +kernel
theorem d2_0 : decode jdk_42_method_149_code 0 = .ok (.aload_n 0, 1) := by decide +kernel
theorem d2_1 : decode jdk_42_method_149_code 1 = .ok (.invokespecial 1, 3) := by decide +kernel
theorem d2_4 : decode jdk_42_method_149_code 4 = .ok (.iload_n 3, 1) := by decide +kernel
theorem d2_5 : decode jdk_42_method_149_code 5 = .ok (.ifCond .ne 22, 3) := by decide +kernel
theorem d2_27 : decode jdk_42_method_149_code 27 = .ok (.getstatic 38, 3) := by decide +kernel
theorem d2_30 : decode jdk_42_method_149_code 30 = .ok (.ifCond .eq 28, 3) := by decide +kernel
theorem d2_33 : decode jdk_42_method_149_code 33 = .ok (.aload_n 1, 1) := by decide +kernel
theorem d2_34 : decode jdk_42_method_149_code 34 = .ok (.iload_n 2, 1) := by decide +kernel
theorem d2_35 : decode jdk_42_method_149_code 35 = .ok (.iload_n 3, 1) := by decide +kernel
theorem d2_36 : decode jdk_42_method_149_code 36 = .ok (.invokestatic 177, 3) := by decide +kernel
theorem d2_39 : decode jdk_42_method_149_code 39 = .ok (.astore 5, 2) := by decide +kernel
theorem d2_41 : decode jdk_42_method_149_code 41 = .ok (.aload_n 0, 1) := by decide +kernel
theorem d2_42 : decode jdk_42_method_149_code 42 = .ok (.aload 5, 2) := by decide +kernel
theorem d2_44 : decode jdk_42_method_149_code 44 = .ok (.iload_n 3, 1) := by decide +kernel
theorem d2_45 : decode jdk_42_method_149_code 45 = .ok (.invokestatic 47, 3) := by decide +kernel
theorem d2_48 : decode jdk_42_method_149_code 48 = .ok (.putfield 15, 3) := by decide +kernel
theorem d2_51 : decode jdk_42_method_149_code 51 = .ok (.aload_n 0, 1) := by decide +kernel
theorem d2_52 : decode jdk_42_method_149_code 52 = .ok (.aload 5, 2) := by decide +kernel
theorem d2_54 : decode jdk_42_method_149_code 54 = .ok (.putfield 9, 3) := by decide +kernel
theorem d2_57 : decode jdk_42_method_149_code 57 = .ok (.return_, 1) := by decide +kernel
theorem d4_0 : decode jdk_52_method_16_code 0 = .ok (.iload_n 2, 1) := by decide +kernel
theorem d4_1 : decode jdk_52_method_16_code 1 = .ok (.newarray .byte, 2) := by decide +kernel
theorem d4_3 : decode jdk_52_method_16_code 3 = .ok (.astore_n 3, 1) := by decide +kernel
theorem d4_4 : decode jdk_52_method_16_code 4 = .ok (.aload_n 0, 1) := by decide +kernel
theorem d4_5 : decode jdk_52_method_16_code 5 = .ok (.iload_n 1, 1) := by decide +kernel
theorem d4_6 : decode jdk_52_method_16_code 6 = .ok (.aload_n 3, 1) := by decide +kernel
theorem d4_7 : decode jdk_52_method_16_code 7 = .ok (.iconst 0, 1) := by decide +kernel
theorem d4_8 : decode jdk_52_method_16_code 8 = .ok (.iload_n 2, 1) := by decide +kernel
theorem d4_9 : decode jdk_52_method_16_code 9 = .ok (.invokestatic 115, 3) := by decide +kernel
theorem d4_12 : decode jdk_52_method_16_code 12 = .ok (.istore 4, 2) := by decide +kernel
theorem d4_14 : decode jdk_52_method_16_code 14 = .ok (.iload 4, 2) := by decide +kernel
theorem d4_16 : decode jdk_52_method_16_code 16 = .ok (.iload_n 2, 1) := by decide +kernel
theorem d4_17 : decode jdk_52_method_16_code 17 = .ok (.if_icmp .eq 40, 3) := by decide +kernel
theorem d4_57 : decode jdk_52_method_16_code 57 = .ok (.aload_n 3, 1) := by decide +kernel
theorem d4_58 : decode jdk_52_method_16_code 58 = .ok (.areturn, 1) := by decide +kernel
theorem d5_0 : decode jdk_52_method_21_code 0 = .ok (.iconst 0, 1) := by decide +kernel
theorem d5_1 : decode jdk_52_method_21_code 1 = .ok (.istore 5, 2) := by decide +kernel
theorem d5_3 : decode jdk_52_method_21_code 3 = .ok (.iload 5, 2) := by decide +kernel
theorem d5_5 : decode jdk_52_method_21_code 5 = .ok (.iload 4, 2) := by decide +kernel
theorem d5_7 : decode jdk_52_method_21_code 7 = .ok (.if_icmp .ge 37, 3) := by decide +kernel
theorem d5_10 : decode jdk_52_method_21_code 10 = .ok (.aload_n 0, 1) := by decide +kernel
theorem d5_11 : decode jdk_52_method_21_code 11 = .ok (.iload_n 1, 1) := by decide +kernel
theorem d5_12 : decode jdk_52_method_21_code 12 = .ok (.caload, 1) := by decide +kernel
theorem d5_13 : decode jdk_52_method_21_code 13 = .ok (.istore 6, 2) := by decide +kernel
theorem d5_15 : decode jdk_52_method_21_code 15 = .ok (.iload 6, 2) := by decide +kernel
theorem d5_17 : decode jdk_52_method_21_code 17 = .ok (.sipush 255, 3) := by decide +kernel
theorem d5_20 : decode jdk_52_method_21_code 20 = .ok (.if_icmp .le 6, 3) := by decide +kernel
theorem d5_26 : decode jdk_52_method_21_code 26 = .ok (.aload_n 2, 1) := by decide +kernel
theorem d5_27 : decode jdk_52_method_21_code 27 = .ok (.iload_n 3, 1) := by decide +kernel
theorem d5_28 : decode jdk_52_method_21_code 28 = .ok (.iload 6, 2) := by decide +kernel
theorem d5_30 : decode jdk_52_method_21_code 30 = .ok (.i2b, 1) := by decide +kernel
theorem d5_31 : decode jdk_52_method_21_code 31 = .ok (.bastore, 1) := by decide +kernel
theorem d5_32 : decode jdk_52_method_21_code 32 = .ok (.iinc 1 1, 3) := by decide +kernel
theorem d5_35 : decode jdk_52_method_21_code 35 = .ok (.iinc 3 1, 3) := by decide +kernel
theorem d5_38 : decode jdk_52_method_21_code 38 = .ok (.iinc 5 1, 3) := by decide +kernel
theorem d5_41 : decode jdk_52_method_21_code 41 = .ok (.goto (-38), 3) := by decide +kernel
theorem d5_44 : decode jdk_52_method_21_code 44 = .ok (.iload 4, 2) := by decide +kernel
theorem d5_46 : decode jdk_52_method_21_code 46 = .ok (.ireturn, 1) := by decide +kernel
theorem d6_0 : decode jdk_52_method_15_code 0 = .ok (.iload_n 1, 1) := by decide +kernel
theorem d6_1 : decode jdk_52_method_15_code 1 = .ok (.aload_n 0, 1) := by decide +kernel
theorem d6_2 : decode jdk_52_method_15_code 2 = .ok (.arraylength, 1) := by decide +kernel
theorem d6_3 : decode jdk_52_method_15_code 3 = .ok (.isub, 1) := by decide +kernel
theorem d6_4 : decode jdk_52_method_15_code 4 = .ok (.bipush 31, 2) := by decide +kernel
theorem d6_6 : decode jdk_52_method_15_code 6 = .ok (.iushr, 1) := by decide +kernel
theorem d6_7 : decode jdk_52_method_15_code 7 = .ok (.i2b, 1) := by decide +kernel
theorem d6_8 : decode jdk_52_method_15_code 8 = .ok (.ireturn, 1) := by decide +kernel
theorem d7_0 : decode prog_84_method_2_code 0 = .ok (.lload_n 0, 1) := by decide +kernel
theorem d7_1 : decode prog_84_method_2_code 1 = .ok (.lconst 1, 1) := by decide +kernel
theorem d7_2 : decode prog_84_method_2_code 2 = .ok (.lcmp, 1) := by decide +kernel
theorem d7_3 : decode prog_84_method_2_code 3 = .ok (.ifCond .lt 11, 3) := by decide +kernel
theorem d7_6 : decode prog_84_method_2_code 6 = .ok (.lload_n 0, 1) := by decide +kernel
theorem d7_7 : decode prog_84_method_2_code 7 = .ok (.ldc2_w 51, 3) := by decide +kernel
theorem d7_10 : decode prog_84_method_2_code 10 = .ok (.lcmp, 1) := by decide +kernel
theorem d7_11 : decode prog_84_method_2_code 11 = .ok (.ifCond .le 18, 3) := by decide +kernel
theorem d7_29 : decode prog_84_method_2_code 29 = .ok (.lload_n 0, 1) := by decide +kernel
theorem d7_30 : decode prog_84_method_2_code 30 = .ok (.l2i, 1) := by decide +kernel
theorem d7_31 : decode prog_84_method_2_code 31 = .ok (.invokestatic 57, 3) := by decide +kernel
theorem d7_34 : decode prog_84_method_2_code 34 = .ok (.areturn, 1) := by decide +kernel
theorem d8_0 : decode jdk_2329_method_4_code 0 = .ok (.iload_n 0, 1) := by decide +kernel
theorem d8_1 : decode jdk_2329_method_4_code 1 = .ok (.iconst 1, 1) := by decide +kernel
theorem d8_2 : decode jdk_2329_method_4_code 2 = .ok (.if_icmp .lt 9, 3) := by decide +kernel
theorem d8_5 : decode jdk_2329_method_4_code 5 = .ok (.iload_n 0, 1) := by decide +kernel
theorem d8_6 : decode jdk_2329_method_4_code 6 = .ok (.bipush 12, 2) := by decide +kernel
theorem d8_8 : decode jdk_2329_method_4_code 8 = .ok (.if_icmp .le 30, 3) := by decide +kernel
theorem d8_38 : decode jdk_2329_method_4_code 38 = .ok (.getstatic 82, 3) := by decide +kernel
theorem d8_41 : decode jdk_2329_method_4_code 41 = .ok (.iload_n 0, 1) := by decide +kernel
theorem d8_42 : decode jdk_2329_method_4_code 42 = .ok (.iconst 1, 1) := by decide +kernel
theorem d8_43 : decode jdk_2329_method_4_code 43 = .ok (.isub, 1) := by decide +kernel
theorem d8_44 : decode jdk_2329_method_4_code 44 = .ok (.aaload, 1) := by decide +kernel
theorem d8_45 : decode jdk_2329_method_4_code 45 = .ok (.areturn, 1) := by decide +kernel
theorem d9_0 : decode method_3_code 0 = .ok (.iload_n 0, 1) := by decide +kernel
theorem d9_1 : decode method_3_code 1 = .ok (.iconst 1, 1) := by decide +kernel
theorem d9_2 : decode method_3_code 2 = .ok (.if_icmp .ne 7, 3) := by decide +kernel
theorem d9_5 : decode method_3_code 5 = .ok (.getstatic 28, 3) := by decide +kernel
theorem d9_8 : decode method_3_code 8 = .ok (.areturn, 1) := by decide +kernel
theorem d9_9 : decode method_3_code 9 = .ok (.iload_n 0, 1) := by decide +kernel
theorem d9_10 : decode method_3_code 10 = .ok (.iconst 2, 1) := by decide +kernel
theorem d9_11 : decode method_3_code 11 = .ok (.if_icmp .ne 7, 3) := by decide +kernel
theorem d9_14 : decode method_3_code 14 = .ok (.getstatic 34, 3) := by decide +kernel
theorem d9_17 : decode method_3_code 17 = .ok (.areturn, 1) := by decide +kernel
theorem d9_18 : decode method_3_code 18 = .ok (.iload_n 0, 1) := by decide +kernel
theorem d9_19 : decode method_3_code 19 = .ok (.iconst 3, 1) := by decide +kernel
theorem d9_20 : decode method_3_code 20 = .ok (.if_icmp .ne 7, 3) := by decide +kernel
theorem d9_23 : decode method_3_code 23 = .ok (.getstatic 37, 3) := by decide +kernel
theorem d9_26 : decode method_3_code 26 = .ok (.areturn, 1) := by decide +kernel
theorem d9_27 : decode method_3_code 27 = .ok (.iload_n 0, 1) := by decide +kernel
theorem d9_28 : decode method_3_code 28 = .ok (.iconst 4, 1) := by decide +kernel
theorem d9_29 : decode method_3_code 29 = .ok (.if_icmp .ne 7, 3) := by decide +kernel
theorem d9_32 : decode method_3_code 32 = .ok (.getstatic 40, 3) := by decide +kernel
theorem d9_35 : decode method_3_code 35 = .ok (.areturn, 1) := by decide +kernel
theorem d9_36 : decode method_3_code 36 = .ok (.iload_n 0, 1) := by decide +kernel
theorem d9_37 : decode method_3_code 37 = .ok (.iconst 5, 1) := by decide +kernel
theorem d9_38 : decode method_3_code 38 = .ok (.if_icmp .ne 7, 3) := by decide +kernel
theorem d9_41 : decode method_3_code 41 = .ok (.getstatic 43, 3) := by decide +kernel
theorem d9_44 : decode method_3_code 44 = .ok (.areturn, 1) := by decide +kernel
theorem d9_45 : decode method_3_code 45 = .ok (.iload_n 0, 1) := by decide +kernel
theorem d9_46 : decode method_3_code 46 = .ok (.bipush 6, 2) := by decide +kernel
theorem d9_48 : decode method_3_code 48 = .ok (.if_icmp .ne 7, 3) := by decide +kernel
theorem d9_51 : decode method_3_code 51 = .ok (.getstatic 46, 3) := by decide +kernel
theorem d9_54 : decode method_3_code 54 = .ok (.areturn, 1) := by decide +kernel
theorem d9_55 : decode method_3_code 55 = .ok (.iload_n 0, 1) := by decide +kernel
theorem d9_56 : decode method_3_code 56 = .ok (.bipush 7, 2) := by decide +kernel
theorem d9_58 : decode method_3_code 58 = .ok (.if_icmp .ne 7, 3) := by decide +kernel
theorem d9_61 : decode method_3_code 61 = .ok (.getstatic 49, 3) := by decide +kernel
theorem d9_64 : decode method_3_code 64 = .ok (.areturn, 1) := by decide +kernel
theorem d9_65 : decode method_3_code 65 = .ok (.iload_n 0, 1) := by decide +kernel
theorem d9_66 : decode method_3_code 66 = .ok (.bipush 8, 2) := by decide +kernel
theorem d9_68 : decode method_3_code 68 = .ok (.if_icmp .ne 7, 3) := by decide +kernel
theorem d9_71 : decode method_3_code 71 = .ok (.getstatic 52, 3) := by decide +kernel
theorem d9_74 : decode method_3_code 74 = .ok (.areturn, 1) := by decide +kernel
theorem d9_75 : decode method_3_code 75 = .ok (.iload_n 0, 1) := by decide +kernel
theorem d9_76 : decode method_3_code 76 = .ok (.bipush 9, 2) := by decide +kernel
theorem d9_78 : decode method_3_code 78 = .ok (.if_icmp .ne 7, 3) := by decide +kernel
theorem d9_81 : decode method_3_code 81 = .ok (.getstatic 55, 3) := by decide +kernel
theorem d9_84 : decode method_3_code 84 = .ok (.areturn, 1) := by decide +kernel
theorem d9_85 : decode method_3_code 85 = .ok (.iload_n 0, 1) := by decide +kernel
theorem d9_86 : decode method_3_code 86 = .ok (.bipush 10, 2) := by decide +kernel
theorem d9_88 : decode method_3_code 88 = .ok (.if_icmp .ne 7, 3) := by decide +kernel
theorem d9_91 : decode method_3_code 91 = .ok (.getstatic 58, 3) := by decide +kernel
theorem d9_94 : decode method_3_code 94 = .ok (.areturn, 1) := by decide +kernel
theorem d9_95 : decode method_3_code 95 = .ok (.iload_n 0, 1) := by decide +kernel
theorem d9_96 : decode method_3_code 96 = .ok (.bipush 11, 2) := by decide +kernel
theorem d9_98 : decode method_3_code 98 = .ok (.if_icmp .ne 7, 3) := by decide +kernel
theorem d9_101 : decode method_3_code 101 = .ok (.getstatic 61, 3) := by decide +kernel
theorem d9_104 : decode method_3_code 104 = .ok (.areturn, 1) := by decide +kernel
theorem d9_105 : decode method_3_code 105 = .ok (.getstatic 64, 3) := by decide +kernel
theorem d9_108 : decode method_3_code 108 = .ok (.areturn, 1) := by decide +kernel
theorem pn_0 : plainName "java/lang/StringUTF16" = true := by first | (simp [plainName, overriddenIn]; done) | decide +kernel
theorem pn_1 : plainName "java/lang/String" = true := by first | (simp [plainName, overriddenIn]; done) | decide +kernel
theorem pn_2 : plainName "java/time/Month" = true := by first | (simp [plainName, overriddenIn]; done) | decide +kernel
theorem pn_3 : plainName "com/example/ratchetbook/ratchetbook/tariff/AnnualMinimum" = true := by first | (simp [plainName, overriddenIn]; done) | decide +kernel
theorem pn_4 : plainName "com/example/ratchetbook/ratchetbook/tariff/AnnualMinimumMonthNumberedPinLaw" = true := by first | (simp [plainName, overriddenIn]; done) | decide +kernel
theorem pd_0 : parseMethodDescriptor "([CI[BII)I" = some ⟨[(.array .char), .int, (.array .byte), .int, .int], some .int⟩ := by decide +kernel
theorem pd_1 : parseMethodDescriptor "([CII)[B" = some ⟨[(.array .char), .int, .int], some (.array .byte)⟩ := by decide +kernel
theorem pd_2 : parseMethodDescriptor "([BI)B" = some ⟨[(.array .byte), .int], some .byte⟩ := by decide +kernel
theorem pd_3 : parseMethodDescriptor "([CIILjava/lang/Void;)V" = some ⟨[(.array .char), .int, .int, (.object "java/lang/Void")], none⟩ := by decide +kernel
theorem pd_4 : parseMethodDescriptor "(I)Ljava/time/Month;" = some ⟨[.int], some (.object "java/time/Month")⟩ := by decide +kernel
theorem pd_5 : parseMethodDescriptor "([C)V" = some ⟨[(.array .char)], none⟩ := by decide +kernel
theorem pd_6 : parseMethodDescriptor "(JLjava/lang/String;)Ljava/time/Month;" = some ⟨[.long, (.object "java/lang/String")], some (.object "java/time/Month")⟩ := by decide +kernel
theorem ef_rmC2_2 (m : MethodId) (x0 : Addr) (x1 : Int32) (x2 : Addr) (x3 : Int32) (x4 : Int32) : entryFrame m #[(.ref x0), (.int x1), (.ref x2), (.int x3), (.int x4)] 7 = mkF m 0 #[.val (.ref x0), .val (.int x1), .val (.ref x2), .val (.int x3), .val (.int x4), .unset, .unset] [] := by first | (simp [entryFrame, mkF, argsToLocals, Value.category]; done) | rfl
theorem ef_rmC1_2 (m : MethodId) (x0 : Addr) (x1 : Int32) (x2 : Int32) : entryFrame m #[(.ref x0), (.int x1), (.int x2)] 6 = mkF m 0 #[.val (.ref x0), .val (.int x1), .val (.int x2), .unset, .unset, .unset] [] := by first | (simp [entryFrame, mkF, argsToLocals, Value.category]; done) | rfl
theorem ef_rmCo_2 (m : MethodId) (x0 : Addr) (x1 : Int32) : entryFrame m #[(.ref x0), (.int x1)] 2 = mkF m 0 #[.val (.ref x0), .val (.int x1)] [] := by first | (simp [entryFrame, mkF, argsToLocals, Value.category]; done) | rfl
theorem ef_rmS4_2 (m : MethodId) (x0 : Addr) (x1 : Addr) (x2 : Int32) (x3 : Int32) : entryFrame m #[(.ref x0), (.ref x1), (.int x2), (.int x3), .null] 6 = mkF m 0 #[.val (.ref x0), .val (.ref x1), .val (.int x2), .val (.int x3), .val .null, .unset] [] := by first | (simp [entryFrame, mkF, argsToLocals, Value.category]; done) | rfl
theorem ef_rmS1_2 (m : MethodId) (x0 : Addr) (x1 : Addr) : entryFrame m #[(.ref x0), (.ref x1)] 2 = mkF m 0 #[.val (.ref x0), .val (.ref x1)] [] := by first | (simp [entryFrame, mkF, argsToLocals, Value.category]; done) | rfl
theorem ef_rm8_0 (m : MethodId) (x0 : Int32) : entryFrame m #[(.int x0)] 1 = mkF m 0 #[.val (.int x0)] [] := by first | (simp [entryFrame, mkF, argsToLocals, Value.category]; done) | rfl
theorem ef_rm7_0 (m : MethodId) (x0 : Int64) (x1 : Addr) : entryFrame m #[(.long x0), (.ref x1)] 3 = mkF m 0 #[.val (.long x0), .second, .val (.ref x1)] [] := by first | (simp [entryFrame, mkF, argsToLocals, Value.category]; done) | rfl
theorem ef_rm9_0 (m : MethodId) (x0 : Int32) : entryFrame m #[(.int x0)] 1 = mkF m 0 #[.val (.int x0)] [] := by first | (simp [entryFrame, mkF, argsToLocals, Value.category]; done) | rfl
theorem ef_rm8_1 (m : MethodId) (x0 : Int32) : entryFrame m #[(.int x0)] 1 = mkF m 0 #[.val (.int x0)] [] := by first | (simp [entryFrame, mkF, argsToLocals, Value.category]; done) | rfl
theorem ef_rm7_1 (m : MethodId) (x0 : Int64) (x1 : Addr) : entryFrame m #[(.long x0), (.ref x1)] 3 = mkF m 0 #[.val (.long x0), .second, .val (.ref x1)] [] := by first | (simp [entryFrame, mkF, argsToLocals, Value.category]; done) | rfl
theorem ef_rm9_1 (m : MethodId) (x0 : Int32) : entryFrame m #[(.int x0)] 1 = mkF m 0 #[.val (.int x0)] [] := by first | (simp [entryFrame, mkF, argsToLocals, Value.category]; done) | rfl
theorem ef_rm8_2 (m : MethodId) (x0 : Int32) : entryFrame m #[(.int x0)] 1 = mkF m 0 #[.val (.int x0)] [] := by first | (simp [entryFrame, mkF, argsToLocals, Value.category]; done) | rfl
theorem ef_rm7_2 (m : MethodId) (x0 : Int64) (x1 : Addr) : entryFrame m #[(.long x0), (.ref x1)] 3 = mkF m 0 #[.val (.long x0), .second, .val (.ref x1)] [] := by first | (simp [entryFrame, mkF, argsToLocals, Value.category]; done) | rfl
theorem ef_rm9_2 (m : MethodId) (x0 : Int32) : entryFrame m #[(.int x0)] 1 = mkF m 0 #[.val (.int x0)] [] := by first | (simp [entryFrame, mkF, argsToLocals, Value.category]; done) | rfl
theorem ef_rm8_3 (m : MethodId) (x0 : Int32) : entryFrame m #[(.int x0)] 1 = mkF m 0 #[.val (.int x0)] [] := by first | (simp [entryFrame, mkF, argsToLocals, Value.category]; done) | rfl
theorem ef_rm7_3 (m : MethodId) (x0 : Int64) (x1 : Addr) : entryFrame m #[(.long x0), (.ref x1)] 3 = mkF m 0 #[.val (.long x0), .second, .val (.ref x1)] [] := by first | (simp [entryFrame, mkF, argsToLocals, Value.category]; done) | rfl
theorem ef_rm9_3 (m : MethodId) (x0 : Int32) : entryFrame m #[(.int x0)] 1 = mkF m 0 #[.val (.int x0)] [] := by first | (simp [entryFrame, mkF, argsToLocals, Value.category]; done) | rfl
theorem ef_rm8_4 (m : MethodId) (x0 : Int32) : entryFrame m #[(.int x0)] 1 = mkF m 0 #[.val (.int x0)] [] := by first | (simp [entryFrame, mkF, argsToLocals, Value.category]; done) | rfl
theorem ef_rm7_4 (m : MethodId) (x0 : Int64) (x1 : Addr) : entryFrame m #[(.long x0), (.ref x1)] 3 = mkF m 0 #[.val (.long x0), .second, .val (.ref x1)] [] := by first | (simp [entryFrame, mkF, argsToLocals, Value.category]; done) | rfl
theorem ef_rm9_4 (m : MethodId) (x0 : Int32) : entryFrame m #[(.int x0)] 1 = mkF m 0 #[.val (.int x0)] [] := by first | (simp [entryFrame, mkF, argsToLocals, Value.category]; done) | rfl
theorem ef_rm8_5 (m : MethodId) (x0 : Int32) : entryFrame m #[(.int x0)] 1 = mkF m 0 #[.val (.int x0)] [] := by first | (simp [entryFrame, mkF, argsToLocals, Value.category]; done) | rfl
theorem ef_rm7_5 (m : MethodId) (x0 : Int64) (x1 : Addr) : entryFrame m #[(.long x0), (.ref x1)] 3 = mkF m 0 #[.val (.long x0), .second, .val (.ref x1)] [] := by first | (simp [entryFrame, mkF, argsToLocals, Value.category]; done) | rfl
theorem ef_rm9_5 (m : MethodId) (x0 : Int32) : entryFrame m #[(.int x0)] 1 = mkF m 0 #[.val (.int x0)] [] := by first | (simp [entryFrame, mkF, argsToLocals, Value.category]; done) | rfl
theorem ef_rm8_6 (m : MethodId) (x0 : Int32) : entryFrame m #[(.int x0)] 1 = mkF m 0 #[.val (.int x0)] [] := by first | (simp [entryFrame, mkF, argsToLocals, Value.category]; done) | rfl
theorem ef_rm7_6 (m : MethodId) (x0 : Int64) (x1 : Addr) : entryFrame m #[(.long x0), (.ref x1)] 3 = mkF m 0 #[.val (.long x0), .second, .val (.ref x1)] [] := by first | (simp [entryFrame, mkF, argsToLocals, Value.category]; done) | rfl
theorem ef_rm9_6 (m : MethodId) (x0 : Int32) : entryFrame m #[(.int x0)] 1 = mkF m 0 #[.val (.int x0)] [] := by first | (simp [entryFrame, mkF, argsToLocals, Value.category]; done) | rfl
theorem ef_rm8_7 (m : MethodId) (x0 : Int32) : entryFrame m #[(.int x0)] 1 = mkF m 0 #[.val (.int x0)] [] := by first | (simp [entryFrame, mkF, argsToLocals, Value.category]; done) | rfl
theorem ef_rm7_7 (m : MethodId) (x0 : Int64) (x1 : Addr) : entryFrame m #[(.long x0), (.ref x1)] 3 = mkF m 0 #[.val (.long x0), .second, .val (.ref x1)] [] := by first | (simp [entryFrame, mkF, argsToLocals, Value.category]; done) | rfl
theorem ef_rm9_7 (m : MethodId) (x0 : Int32) : entryFrame m #[(.int x0)] 1 = mkF m 0 #[.val (.int x0)] [] := by first | (simp [entryFrame, mkF, argsToLocals, Value.category]; done) | rfl
theorem ef_rm8_8 (m : MethodId) (x0 : Int32) : entryFrame m #[(.int x0)] 1 = mkF m 0 #[.val (.int x0)] [] := by first | (simp [entryFrame, mkF, argsToLocals, Value.category]; done) | rfl
theorem ef_rm7_8 (m : MethodId) (x0 : Int64) (x1 : Addr) : entryFrame m #[(.long x0), (.ref x1)] 3 = mkF m 0 #[.val (.long x0), .second, .val (.ref x1)] [] := by first | (simp [entryFrame, mkF, argsToLocals, Value.category]; done) | rfl
theorem ef_rm9_8 (m : MethodId) (x0 : Int32) : entryFrame m #[(.int x0)] 1 = mkF m 0 #[.val (.int x0)] [] := by first | (simp [entryFrame, mkF, argsToLocals, Value.category]; done) | rfl
theorem ef_rm8_9 (m : MethodId) (x0 : Int32) : entryFrame m #[(.int x0)] 1 = mkF m 0 #[.val (.int x0)] [] := by first | (simp [entryFrame, mkF, argsToLocals, Value.category]; done) | rfl
theorem ef_rm7_9 (m : MethodId) (x0 : Int64) (x1 : Addr) : entryFrame m #[(.long x0), (.ref x1)] 3 = mkF m 0 #[.val (.long x0), .second, .val (.ref x1)] [] := by first | (simp [entryFrame, mkF, argsToLocals, Value.category]; done) | rfl
theorem ef_rm9_9 (m : MethodId) (x0 : Int32) : entryFrame m #[(.int x0)] 1 = mkF m 0 #[.val (.int x0)] [] := by first | (simp [entryFrame, mkF, argsToLocals, Value.category]; done) | rfl
theorem ef_rm8_10 (m : MethodId) (x0 : Int32) : entryFrame m #[(.int x0)] 1 = mkF m 0 #[.val (.int x0)] [] := by first | (simp [entryFrame, mkF, argsToLocals, Value.category]; done) | rfl
theorem ef_rm7_10 (m : MethodId) (x0 : Int64) (x1 : Addr) : entryFrame m #[(.long x0), (.ref x1)] 3 = mkF m 0 #[.val (.long x0), .second, .val (.ref x1)] [] := by first | (simp [entryFrame, mkF, argsToLocals, Value.category]; done) | rfl
theorem ef_rm9_10 (m : MethodId) (x0 : Int32) : entryFrame m #[(.int x0)] 1 = mkF m 0 #[.val (.int x0)] [] := by first | (simp [entryFrame, mkF, argsToLocals, Value.category]; done) | rfl
theorem ef_rm8_11 (m : MethodId) (x0 : Int32) : entryFrame m #[(.int x0)] 1 = mkF m 0 #[.val (.int x0)] [] := by first | (simp [entryFrame, mkF, argsToLocals, Value.category]; done) | rfl
theorem ef_rm7_11 (m : MethodId) (x0 : Int64) (x1 : Addr) : entryFrame m #[(.long x0), (.ref x1)] 3 = mkF m 0 #[.val (.long x0), .second, .val (.ref x1)] [] := by first | (simp [entryFrame, mkF, argsToLocals, Value.category]; done) | rfl
theorem ef_rm9_11 (m : MethodId) (x0 : Int32) : entryFrame m #[(.int x0)] 1 = mkF m 0 #[.val (.int x0)] [] := by first | (simp [entryFrame, mkF, argsToLocals, Value.category]; done) | rfl
theorem ef_rm0 (m : MethodId) (x0 : Int64) (x1 : Int32) : entryFrame m #[(.long x0), (.int x1)] maxLocals = mkF m 0 #[.val (.long x0), .second, .val (.int x1), .unset, .unset, .unset, .unset, .unset] [] := by first | (simp [entryFrame, mkF, argsToLocals, Value.category, maxLocals]; done) | rfl
theorem own_i2c (x : Int32) (h0 : 0 ≤ x.toInt) (h1 : x.toInt ≤ 65535) : x.toUInt32.toUInt16.toUInt32.toInt32 = x := by
  have h := c_i2c x
  exact Int32.toInt_inj.mp (by omega)
theorem own_narc (x : Int32) : nar .char x = x.toUInt32.toUInt16.toUInt32.toInt32 := rfl
theorem own_c8 (x : Int32) : ((x &&& (255 : Int32)).toUInt32.toUInt16.toUInt32.toInt32) = (x &&& (255 : Int32)) := by
  have h := c_and x (255 : Int32) (by decide)
  have h2 : (255 : Int32).toInt = 255 := rfl
  exact own_i2c _ h.1 (by omega)
theorem own_n8 (x : Int32) : nar .char (x &&& (255 : Int32)) = (x &&& (255 : Int32)) := own_c8 x
theorem own_nc {x : Int32} (h0 : ¬ (x < (0 : Int32))) (h1 : ¬ ((255 : Int32) < x)) : nar .char x = x := by
  have a0 : (0 : Int32).toInt = 0 := rfl
  have a1 : (255 : Int32).toInt = 255 := rfl
  rw [Int32.lt_iff_toInt_lt] at h0 h1
  exact own_i2c x (by omega) (by omega)
theorem own_ic {x : Int32} (h0 : ¬ (x < (0 : Int32))) (h1 : ¬ ((255 : Int32) < x)) : x.toUInt32.toUInt16.toUInt32.toInt32 = x := own_nc h0 h1
theorem own_ch8 (x : Int32) : nar .char (((x &&& (255 : Int32)).toUInt32.toUInt16.toUInt32.toInt32)) = (x &&& (255 : Int32)) := by
  have h := c_and x (255 : Int32) (by decide)
  have h2 : (255 : Int32).toInt = 255 := rfl
  rw [own_narc, own_i2c _ h.1 (by omega), own_i2c _ h.1 (by omega)]
theorem own_le255 (x : Int32) : ¬ ((255 : Int32) < (x &&& (255 : Int32))) := by
  have h := c_and x (255 : Int32) (by decide)
  rw [Int32.lt_iff_toInt_lt]; omega
theorem own_ge0 (x : Int32) : ¬ ((x &&& (255 : Int32)) < (0 : Int32)) := by
  have h := c_and x (255 : Int32) (by decide)
  have h2 : (0 : Int32).toInt = 0 := rfl
  rw [Int32.lt_iff_toInt_lt]; omega
theorem own_ob {c d : Int32} (c0 : ¬ (c < (0 : Int32))) (c1 : ¬ ((255 : Int32) < c)) (d0 : ¬ (d < (0 : Int32))) (d1 : ¬ ((255 : Int32) < d)) (h : nar .byte (c.toInt8.toInt32) = nar .byte (d.toInt8.toInt32)) : c = d := by
  have a0 : (0 : Int32).toInt = 0 := rfl
  have a1 : (255 : Int32).toInt = 255 := rfl
  rw [Int32.lt_iff_toInt_lt] at c0 c1 d0 d1
  have e : ∀ x : Int32, (nar .byte (x.toInt8.toInt32)).toInt = x.toInt.bmod 256 := fun x => by
    show (x.toInt8.toInt32.toInt8.toInt32).toInt = _
    rw [Int8.toInt_toInt32, Int32.toInt_toInt8, Int8.toInt_toInt32, Int32.toInt_toInt8]
    simp
  have q : (nar .byte (c.toInt8.toInt32)).toInt = (nar .byte (d.toInt8.toInt32)).toInt := by rw [h]
  rw [e, e] at q
  simp only [Int.bmod] at q
  apply Int32.toInt_inj.mp
  split at q <;> split at q <;> omega
theorem own_12 (i0 : Int64) : (((i0 &&& (9223372036854775807 : Int64)) - ((i0 &&& (9223372036854775807 : Int64)) / (12 : Int64)) * (12 : Int64)) + (1 : Int64)) = (1 : Int64) ∨ (((i0 &&& (9223372036854775807 : Int64)) - ((i0 &&& (9223372036854775807 : Int64)) / (12 : Int64)) * (12 : Int64)) + (1 : Int64)) = (2 : Int64) ∨ (((i0 &&& (9223372036854775807 : Int64)) - ((i0 &&& (9223372036854775807 : Int64)) / (12 : Int64)) * (12 : Int64)) + (1 : Int64)) = (3 : Int64) ∨ (((i0 &&& (9223372036854775807 : Int64)) - ((i0 &&& (9223372036854775807 : Int64)) / (12 : Int64)) * (12 : Int64)) + (1 : Int64)) = (4 : Int64) ∨ (((i0 &&& (9223372036854775807 : Int64)) - ((i0 &&& (9223372036854775807 : Int64)) / (12 : Int64)) * (12 : Int64)) + (1 : Int64)) = (5 : Int64) ∨ (((i0 &&& (9223372036854775807 : Int64)) - ((i0 &&& (9223372036854775807 : Int64)) / (12 : Int64)) * (12 : Int64)) + (1 : Int64)) = (6 : Int64) ∨ (((i0 &&& (9223372036854775807 : Int64)) - ((i0 &&& (9223372036854775807 : Int64)) / (12 : Int64)) * (12 : Int64)) + (1 : Int64)) = (7 : Int64) ∨ (((i0 &&& (9223372036854775807 : Int64)) - ((i0 &&& (9223372036854775807 : Int64)) / (12 : Int64)) * (12 : Int64)) + (1 : Int64)) = (8 : Int64) ∨ (((i0 &&& (9223372036854775807 : Int64)) - ((i0 &&& (9223372036854775807 : Int64)) / (12 : Int64)) * (12 : Int64)) + (1 : Int64)) = (9 : Int64) ∨ (((i0 &&& (9223372036854775807 : Int64)) - ((i0 &&& (9223372036854775807 : Int64)) / (12 : Int64)) * (12 : Int64)) + (1 : Int64)) = (10 : Int64) ∨ (((i0 &&& (9223372036854775807 : Int64)) - ((i0 &&& (9223372036854775807 : Int64)) / (12 : Int64)) * (12 : Int64)) + (1 : Int64)) = (11 : Int64) ∨ (((i0 &&& (9223372036854775807 : Int64)) - ((i0 &&& (9223372036854775807 : Int64)) / (12 : Int64)) * (12 : Int64)) + (1 : Int64)) = (12 : Int64) := by
  have h1 := (c_andSL i0 (9223372036854775807 : Int64)).2.2 (by decide)
  generalize (i0 &&& (9223372036854775807 : Int64)) = y at h1 ⊢
  have h2 := (c_lrem y (12 : Int64) 12 rfl).1 h1
  generalize (y - (y / (12 : Int64)) * (12 : Int64)) = r at h2 ⊢
  have h3 : r.toInt = y.toInt % 12 := h2
  have h4 : 0 ≤ y.toInt % 12 := Int.emod_nonneg _ (by decide)
  have h5 : y.toInt % 12 < 12 := Int.emod_lt_of_pos _ (by decide)
  have a1 : (1 : Int64).toInt = 1 := rfl
  have h6 : (r + (1 : Int64)).toInt = r.toInt + 1 := by
    rw [Int64.toInt_add, a1]; exact Int.bmod_eq_of_le (by omega) (by omega)
  have h7 : ∀ k : Int64, r.toInt + 1 = k.toInt → r + (1 : Int64) = k := fun k h => Int64.toInt_inj.mp (by rw [h6]; exact h)
  rcases (by omega : r.toInt = 0 ∨ r.toInt = 1 ∨ r.toInt = 2 ∨ r.toInt = 3 ∨ r.toInt = 4 ∨ r.toInt = 5 ∨ r.toInt = 6 ∨ r.toInt = 7 ∨ r.toInt = 8 ∨ r.toInt = 9 ∨ r.toInt = 10 ∨ r.toInt = 11) with h | h | h | h | h | h | h | h | h | h | h | h
  · exact Or.inl (h7 (1 : Int64) (by rw [h]; rfl))
  · exact Or.inr (Or.inl (h7 (2 : Int64) (by rw [h]; rfl)))
  · exact Or.inr (Or.inr (Or.inl (h7 (3 : Int64) (by rw [h]; rfl))))
  · exact Or.inr (Or.inr (Or.inr (Or.inl (h7 (4 : Int64) (by rw [h]; rfl)))))
  · exact Or.inr (Or.inr (Or.inr (Or.inr (Or.inl (h7 (5 : Int64) (by rw [h]; rfl))))))
  · exact Or.inr (Or.inr (Or.inr (Or.inr (Or.inr (Or.inl (h7 (6 : Int64) (by rw [h]; rfl)))))))
  · exact Or.inr (Or.inr (Or.inr (Or.inr (Or.inr (Or.inr (Or.inl (h7 (7 : Int64) (by rw [h]; rfl))))))))
  · exact Or.inr (Or.inr (Or.inr (Or.inr (Or.inr (Or.inr (Or.inr (Or.inl (h7 (8 : Int64) (by rw [h]; rfl)))))))))
  · exact Or.inr (Or.inr (Or.inr (Or.inr (Or.inr (Or.inr (Or.inr (Or.inr (Or.inl (h7 (9 : Int64) (by rw [h]; rfl))))))))))
  · exact Or.inr (Or.inr (Or.inr (Or.inr (Or.inr (Or.inr (Or.inr (Or.inr (Or.inr (Or.inl (h7 (10 : Int64) (by rw [h]; rfl)))))))))))
  · exact Or.inr (Or.inr (Or.inr (Or.inr (Or.inr (Or.inr (Or.inr (Or.inr (Or.inr (Or.inr (Or.inl (h7 (11 : Int64) (by rw [h]; rfl))))))))))))
  · exact Or.inr (Or.inr (Or.inr (Or.inr (Or.inr (Or.inr (Or.inr (Or.inr (Or.inr (Or.inr (Or.inr ((h7 (12 : Int64) (by rw [h]; rfl)))))))))))))
theorem own_eqS {Z : State} {args : Array Value} {t u : Jvm.Term} {a : Addr} (h : t.eval args Z none [] Z = some (.ref a)) (he : (Jvm.Cond.eq t u).value args Z none Z [] = some true) : u.eval args Z none [] Z = some (.ref a) := by
  obtain ⟨x, y, h1, h2, h3, h4⟩ := cmp_v (Or.inl he)
  cases h.symm.trans h1
  have q := gotT (eq_R h h2 rfl h3.2) he
  rw [q]; exact h2
def Q_rmC2_2 (Z : State) (a1 a2 : Addr) (k1 k2 : ClassId) (c0 c1 : Int32) (h0 : Heap) (n0 : Nat) : Option Value → Heap → List Loc → Prop := fun v h L => v = some (.int (2 : Int32)) ∧ Fr n0 L ∧ Keep h0 h [a2] ∧ Arv Z h a2 k2 .byte (2 : Int32) [(.int (nar .byte (c0.toInt8.toInt32))), (.int (nar .byte (c1.toInt8.toInt32)))] (.int (0 : Int32))
set_option maxRecDepth 65536 in
set_option maxHeartbeats 40000000 in
theorem rmC2_2 (l : Launch) (Z : State) (a0 : Array Value) (hw : ∀ d ∈ tables_1, d.before a0 Z = true) (ws : List Jvm.Cond) (a1 a2 : Addr) (k1 k2 : ClassId) (c0 c1 : Int32) (h0 : Heap) (n0 : Nat) (O : Old Z n0 h0) (V_a1 : Arv Z h0 a1 k1 .char (2 : Int32) [(.int c0), (.int c1)] (.int (0 : Int32))) (V_a2 : Arv Z h0 a2 k2 .byte (2 : Int32) [(.int (0 : Int32)), (.int (0 : Int32))] (.int (0 : Int32))) (g_a2 : n0 ≤ a2) (ne_a1_a2 : a1 ≠ a2) (hb0 : ¬ ((255 : Int32) < c0)) (hb1 : ¬ ((255 : Int32) < c1)) :
    MetFree l (⟨"java/lang/StringUTF16", "compress", "([CI[BII)I"⟩ : MethodName) (head1 (Jvm.Cond.code (⟨"java/lang/StringUTF16", "compress", "([CI[BII)I"⟩ : MethodName) jdk_52_method_21_code 7 (some .int) :: ws) ({ frames := 0, cells := 0, slots := 0, locals := 0 } : Room)) (fun a U => a = #[(.ref a1), (.int (0 : Int32)), (.ref a2), (.int (0 : Int32)), (.int (2 : Int32))] ∧ Z.Warmed39 U.vm ∧ U.heap = h0) (fun _ _ _ _ _ => True) (fun _ U o U' => ∃ v L, o = .returned v ∧ (Q_rmC2_2 Z a1 a2 k1 k2 c0 c1 h0 n0) v U'.heap L ∧ FrameEnd U o U' L ({ frames := 0, cells := 0, slots := 0, locals := 0 } : Room).cells ({ frames := 0, cells := 0, slots := 0, locals := 0 } : Room).slots) := by
  refine MetFree.of_bodySF (plainFor_of_name pn_0) hisR ?_
  intro p e s m args below meth c s₁ Bd hml0 hP hK
  obtain ⟨rfl, hZ, hh⟩ := hP
  have hx := Bd.exec
  have hby := Bd.bytes
  have hml : c.maxLocals = 7 := hml0
  have hown : s.vm.findClass "java/lang/StringUTF16" = some m.cls := findClass_of_methodNamed Bd.named
  have hnm := (name_of_methodNamed Bd.named Bd.method).1
  have hlk := BodyLoose.notSynchronized Bd
  have X0 : Stand p l e ({ frames := 0, cells := 0, slots := 0, locals := 0 } : Room) s m #[(.ref a1), (.int (0 : Int32)), (.ref a2), (.int (0 : Int32)), (.int (2 : Int32))] below meth c s₁ [] 0 0 := Stand.of_body Bd
  have e0 : s₁.heap = h0 := by rw [← hh, Bd.state]; rfl
  have N := Fr.nil n0
  have K := Keep.refl h0 [a2]
  obtain ⟨G, hG⟩ : ∃ G : State → JFrame → Prop, G = OwnG p e below s ({ frames := 0, cells := 0, slots := 0, locals := 0 } : Room).cells ({ frames := 0, cells := 0, slots := 0, locals := 0 } : Room).slots (Q_rmC2_2 Z a1 a2 k1 k2 c0 c1 h0 n0) := ⟨_, rfl⟩
  have gb : ∀ {T T' : State} {g g' : JFrame}, (∀ t, Steps p.tables e below (T'.setTop g') t → Steps p.tables e below (T.setTop g) t) → G T' g' → G T g := by subst hG; exact fun k h => own_by k h
  have go : ∀ {T : State} {locs : List Loc} {cells slots : Nat} {g : JFrame} {v : Option Value}, Stand p l e ({ frames := 0, cells := 0, slots := 0, locals := 0 } : Room) s m #[(.ref a1), (.int (0 : Int32)), (.ref a2), (.int (0 : Int32)), (.int (2 : Int32))] below meth c T locs cells slots → (meth.sig.returnType = none → v = none) → (∀ fs, (∀ (f : JFrame) (acts : List Action), f.method = m → f.locked = none → f.entered = [] → (doReturn e (T.setTop f) acts v).1 = T.setFrames fs) → Steps p.tables e below (T.setTop g) (T.setFrames fs)) → (Q_rmC2_2 Z a1 a2 k1 k2 c0 c1 h0 n0) v T.heap locs → cells ≤ ({ frames := 0, cells := 0, slots := 0, locals := 0 } : Room).cells → slots ≤ ({ frames := 0, cells := 0, slots := 0, locals := 0 } : Room).slots → G T g := by subst hG; exact fun X h1 h2 h3 h4 h5 => own_out X hlk h1 h2 h3 h4 h5
  show OwnG p e below s ({ frames := 0, cells := 0, slots := 0, locals := 0 } : Room).cells ({ frames := 0, cells := 0, slots := 0, locals := 0 } : Room).slots (Q_rmC2_2 Z a1 a2 k1 k2 c0 c1 h0 n0) s₁ (entryFrame m #[(.ref a1), (.int (0 : Int32)), (.ref a2), (.int (0 : Int32)), (.int (2 : Int32))] 7)
  rw [← hG, ef_rmC2_2 m a1 (0 : Int32) a2 (0 : Int32) (2 : Int32)]
  clear hG
  show G s₁ (mkF m 0 #[.val (.ref a1), .val (.int (0 : Int32)), .val (.ref a2), .val (.int (0 : Int32)), .val (.int (2 : Int32)), .unset, .unset] [])
  refine gb (fun _ k => XS.iconst X0.here hx rfl (hb hby d5_0) (XS.istore X0.here hx rfl (hb hby d5_1) rfl (l' := #[rv a1, iv 0, rv a2, iv 0, iv 2, iv 0, .unset]) rfl (XS.iload X0.here hx rfl (hb hby d5_3) rfl (XS.iload X0.here hx rfl (hb hby d5_5) rfl (XS.icmpNo X0.here hx rfl (hb hby d5_7) rfl (tlt (by decide : (0 : Int32) < (2 : Int32))).2.1 (XS.aloadN X0.here hx rfl (hb hby d5_10) rfl rfl k)))))) ?_
  show G s₁ (mkF m 11 #[rv a1, iv 0, rv a2, iv 0, iv 2, iv 0, .unset] [.ref a1])
  refine gb (fun _ k => XS.iloadN X0.here hx rfl (hb hby d5_11) rfl k) ?_
  show G s₁ (mkF m 12 #[rv a1, iv 0, rv a2, iv 0, iv 2, iv 0, .unset] [.int 0, .ref a1])
  have V'1 := V_a1
  obtain ⟨cl1, Ar1, qk1, sz1, nn1, hs1, ft1⟩ := V'1
  have hin1 : ¬ ((0 : Int32) < 0 ∨ cl1.slots.size ≤ ((0 : Int32)).toNatClampNeg) := inb_of sz1 ⟨by decide, by decide⟩
  have hat1 : cl1.slots[((0 : Int32)).toNatClampNeg]? = some (.int c0) := hs1.at hin1 rfl
  refine gb (X0.caload hx (j := (0 : Int32)) (v := (.int c0)) (by rw [e0]; exact Ar1.1) (State.isArrayOf_alike hZ.alike Ar1.2.1) Ar1.2.2 hin1 hat1 (g := (mkF m 12 #[rv a1, iv 0, rv a2, iv 0, iv 2, iv 0, .unset] [.int 0, .ref a1])) rfl rfl (hb hby d5_12)) ?_
  show G s₁ (mkF m 13 #[rv a1, iv 0, rv a2, iv 0, iv 2, iv 0, .unset] [.int c0])
  refine gb (fun _ k => XS.istore X0.here hx rfl (hb hby d5_13) rfl (l' := #[rv a1, iv 0, rv a2, iv 0, iv 2, iv 0, iv c0]) rfl (XS.iload X0.here hx rfl (hb hby d5_15) rfl (XS.sipush X0.here hx rfl (hb hby d5_17) (XS.icmpYes X0.here hx rfl (pc0 := 20) (pc' := 26) rfl (hb hby d5_20) rfl (flt hb0).2.2.2 (by decide) (by decide) (XS.aloadN X0.here hx rfl (hb hby d5_26) rfl rfl (XS.iloadN X0.here hx rfl (hb hby d5_27) rfl k)))))) ?_
  show G s₁ (mkF m 28 #[rv a1, iv 0, rv a2, iv 0, iv 2, iv 0, iv c0] [.int 0, .ref a2])
  refine gb (fun _ k => XS.iload X0.here hx rfl (hb hby d5_28) rfl (XS.i2b X0.here hx rfl (hb hby d5_30) rfl k)) ?_
  show G s₁ (mkF m 31 #[rv a1, iv 0, rv a2, iv 0, iv 2, iv 0, iv c0] [.int (c0.toInt8.toInt32), .int 0, .ref a2])
  have V'2 := V_a2
  obtain ⟨cl2, Ar2, qk2, sz2, nn2, hs2, ft2⟩ := V'2
  have hin2 : ¬ ((0 : Int32) < 0 ∨ cl2.slots.size ≤ ((0 : Int32)).toNatClampNeg) := inb_of sz2 ⟨by decide, by decide⟩
  obtain ⟨T3, h3, X3, e3, W3, st3⟩ := stB X0 hx hZ e0 Ar2 (j := (0 : Int32)) hin2 (g := (mkF m 31 #[rv a1, iv 0, rv a2, iv 0, iv 2, iv 0, iv c0] [.int (c0.toInt8.toInt32), .int 0, .ref a2])) rfl rfl (hb hby d5_31)
  have V_a2 : Arv Z h3 a2 k2 .byte (2 : Int32) [(.int (nar .byte (c0.toInt8.toInt32))), (.int (0 : Int32))] (.int (0 : Int32)) := Arv.set Ar2 qk2 sz2 nn2 hs2 ft2 (fits_nar_byte _) W3 0 rfl (Nat.le_of_ble_eq_true rfl)
  have V_a1 := V_a1.other W3 ne_a1_a2
  have O := O.wr W3 g_a2
  have K := K.wr W3 (Or.inl (List.mem_of_getElem? (i := 0) rfl))
  have N := Fr.snoc X3 N g_a2
  refine gb st3 ?_
  show G T3 (mkF m 32 #[rv a1, iv 0, rv a2, iv 0, iv 2, iv 0, iv c0] [])
  refine gb (fun _ k => XS.iinc X3.here hx rfl (hb hby d5_32) rfl (l' := #[rv a1, iv 1, rv a2, iv 0, iv 2, iv 0, iv c0]) rfl (XS.iinc X3.here hx rfl (hb hby d5_35) rfl (l' := #[rv a1, iv 1, rv a2, iv 1, iv 2, iv 0, iv c0]) rfl (XS.iinc X3.here hx rfl (hb hby d5_38) rfl (l' := #[rv a1, iv 1, rv a2, iv 1, iv 2, iv 1, iv c0]) rfl (XS.goto X3.here hx rfl (pc0 := 41) (pc' := 3) rfl (hb hby d5_41) (by decide) (by decide) (XS.iload X3.here hx rfl (hb hby d5_3) rfl (XS.iload X3.here hx rfl (hb hby d5_5) rfl k)))))) ?_
  show G T3 (mkF m 7 #[rv a1, iv 1, rv a2, iv 1, iv 2, iv 1, iv c0] [.int 2, .int 1])
  refine gb (fun _ k => XS.icmpNo X3.here hx rfl (hb hby d5_7) rfl (tlt (by decide : (1 : Int32) < (2 : Int32))).2.1 (XS.aloadN X3.here hx rfl (hb hby d5_10) rfl rfl (XS.iloadN X3.here hx rfl (hb hby d5_11) rfl k))) ?_
  show G T3 (mkF m 12 #[rv a1, iv 1, rv a2, iv 1, iv 2, iv 1, iv c0] [.int 1, .ref a1])
  have V'4 := V_a1
  obtain ⟨cl4, Ar4, qk4, sz4, nn4, hs4, ft4⟩ := V'4
  have hin4 : ¬ ((1 : Int32) < 0 ∨ cl4.slots.size ≤ ((1 : Int32)).toNatClampNeg) := inb_of sz4 ⟨by decide, by decide⟩
  have hat4 : cl4.slots[((1 : Int32)).toNatClampNeg]? = some (.int c1) := hs4.at hin4 rfl
  refine gb (X3.caload hx (j := (1 : Int32)) (v := (.int c1)) (by rw [e3]; exact Ar4.1) (State.isArrayOf_alike hZ.alike Ar4.2.1) Ar4.2.2 hin4 hat4 (g := (mkF m 12 #[rv a1, iv 1, rv a2, iv 1, iv 2, iv 1, iv c0] [.int 1, .ref a1])) rfl rfl (hb hby d5_12)) ?_
  show G T3 (mkF m 13 #[rv a1, iv 1, rv a2, iv 1, iv 2, iv 1, iv c0] [.int c1])
  refine gb (fun _ k => XS.istore X3.here hx rfl (hb hby d5_13) rfl (l' := #[rv a1, iv 1, rv a2, iv 1, iv 2, iv 1, iv c1]) rfl (XS.iload X3.here hx rfl (hb hby d5_15) rfl (XS.sipush X3.here hx rfl (hb hby d5_17) (XS.icmpYes X3.here hx rfl (pc0 := 20) (pc' := 26) rfl (hb hby d5_20) rfl (flt hb1).2.2.2 (by decide) (by decide) (XS.aloadN X3.here hx rfl (hb hby d5_26) rfl rfl (XS.iloadN X3.here hx rfl (hb hby d5_27) rfl k)))))) ?_
  show G T3 (mkF m 28 #[rv a1, iv 1, rv a2, iv 1, iv 2, iv 1, iv c1] [.int 1, .ref a2])
  refine gb (fun _ k => XS.iload X3.here hx rfl (hb hby d5_28) rfl (XS.i2b X3.here hx rfl (hb hby d5_30) rfl k)) ?_
  show G T3 (mkF m 31 #[rv a1, iv 1, rv a2, iv 1, iv 2, iv 1, iv c1] [.int (c1.toInt8.toInt32), .int 1, .ref a2])
  have V'5 := V_a2
  obtain ⟨cl5, Ar5, qk5, sz5, nn5, hs5, ft5⟩ := V'5
  have hin5 : ¬ ((1 : Int32) < 0 ∨ cl5.slots.size ≤ ((1 : Int32)).toNatClampNeg) := inb_of sz5 ⟨by decide, by decide⟩
  obtain ⟨T6, h6, X6, e6, W6, st6⟩ := stB X3 hx hZ e3 Ar5 (j := (1 : Int32)) hin5 (g := (mkF m 31 #[rv a1, iv 1, rv a2, iv 1, iv 2, iv 1, iv c1] [.int (c1.toInt8.toInt32), .int 1, .ref a2])) rfl rfl (hb hby d5_31)
  have V_a2 : Arv Z h6 a2 k2 .byte (2 : Int32) [(.int (nar .byte (c0.toInt8.toInt32))), (.int (nar .byte (c1.toInt8.toInt32)))] (.int (0 : Int32)) := Arv.set Ar5 qk5 sz5 nn5 hs5 ft5 (fits_nar_byte _) W6 1 rfl (Nat.le_of_ble_eq_true rfl)
  have V_a1 := V_a1.other W6 ne_a1_a2
  have O := O.wr W6 g_a2
  have K := K.wr W6 (Or.inl (List.mem_of_getElem? (i := 0) rfl))
  have N := Fr.snoc X6 N g_a2
  refine gb st6 ?_
  show G T6 (mkF m 32 #[rv a1, iv 1, rv a2, iv 1, iv 2, iv 1, iv c1] [])
  refine gb (fun _ k => XS.iinc X6.here hx rfl (hb hby d5_32) rfl (l' := #[rv a1, iv 2, rv a2, iv 1, iv 2, iv 1, iv c1]) rfl (XS.iinc X6.here hx rfl (hb hby d5_35) rfl (l' := #[rv a1, iv 2, rv a2, iv 2, iv 2, iv 1, iv c1]) rfl (XS.iinc X6.here hx rfl (hb hby d5_38) rfl (l' := #[rv a1, iv 2, rv a2, iv 2, iv 2, iv 2, iv c1]) rfl (XS.goto X6.here hx rfl (pc0 := 41) (pc' := 3) rfl (hb hby d5_41) (by decide) (by decide) (XS.iload X6.here hx rfl (hb hby d5_3) rfl (XS.iload X6.here hx rfl (hb hby d5_5) rfl k)))))) ?_
  show G T6 (mkF m 7 #[rv a1, iv 2, rv a2, iv 2, iv 2, iv 2, iv c1] [.int 2, .int 2])
  refine gb (fun _ k => XS.icmpYes X6.here hx rfl (pc0 := 7) (pc' := 44) rfl (hb hby d5_7) rfl (flt (by decide : ¬ ((2 : Int32) < (2 : Int32)))).2.1 (by decide) (by decide) (XS.iload X6.here hx rfl (hb hby d5_44) rfl k)) ?_
  show G T6 (mkF m 46 #[rv a1, iv 2, rv a2, iv 2, iv 2, iv 2, iv c1] [.int 2])
  exact go X6 (v := (some (.int (2 : Int32)))) (fun h => by rw [Bd.returns] at h; cases h) (fun fs hr => retOut X6 hx Bd.returns rfl (Or.inl ⟨rfl, by simp, _, rfl⟩) (hb hby d5_46) hr) (by rw [e6]; exact ⟨rfl, N, K, V_a2⟩) (by decide) (by decide)
def Q_rmC1_2 (Z : State) (a1 : Addr) (k1 : ClassId) (c0 c1 : Int32) (h0 : Heap) (n0 : Nat) : Option Value → Heap → List Loc → Prop := fun v h L => ∃ (b : Addr) (kb : ClassId), v = some (.ref b) ∧ Fr n0 L ∧ Keep h0 h [] ∧ n0 ≤ b ∧ h0.size ≤ b ∧ Arv Z h b kb .byte (2 : Int32) [(.int (nar .byte (c0.toInt8.toInt32))), (.int (nar .byte (c1.toInt8.toInt32)))] (.int (0 : Int32))
set_option maxRecDepth 65536 in
set_option maxHeartbeats 40000000 in
theorem rmC1_2 (l : Launch) (Z : State) (a0 : Array Value) (hw : ∀ d ∈ tables_1, d.before a0 Z = true) (ws : List Jvm.Cond) (a1 : Addr) (k1 : ClassId) (c0 c1 : Int32) (h0 : Heap) (n0 : Nat) (O : Old Z n0 h0) (V_a1 : Arv Z h0 a1 k1 .char (2 : Int32) [(.int c0), (.int c1)] (.int (0 : Int32))) (hb0 : ¬ ((255 : Int32) < c0)) (hb1 : ¬ ((255 : Int32) < c1)) :
    MetFree l (⟨"java/lang/StringUTF16", "compress", "([CII)[B"⟩ : MethodName) (head1 (Jvm.Cond.code (⟨"java/lang/StringUTF16", "compress", "([CII)[B"⟩ : MethodName) jdk_52_method_16_code 6 (some (.array .byte)) :: ws) ({ frames := 1, cells := 1, slots := 2, locals := 18 } : Room)) (fun a U => a = #[(.ref a1), (.int (0 : Int32)), (.int (2 : Int32))] ∧ Z.Warmed39 U.vm ∧ U.heap = h0) (fun _ _ _ _ _ => True) (fun _ U o U' => ∃ v L, o = .returned v ∧ (Q_rmC1_2 Z a1 k1 c0 c1 h0 n0) v U'.heap L ∧ FrameEnd U o U' L ({ frames := 1, cells := 1, slots := 2, locals := 18 } : Room).cells ({ frames := 1, cells := 1, slots := 2, locals := 18 } : Room).slots) := by
  refine MetFree.of_bodySF (plainFor_of_name pn_0) hisR ?_
  intro p e s m args below meth c s₁ Bd hml0 hP hK
  obtain ⟨rfl, hZ, hh⟩ := hP
  have hx := Bd.exec
  have hby := Bd.bytes
  have hml : c.maxLocals = 6 := hml0
  have hown : s.vm.findClass "java/lang/StringUTF16" = some m.cls := findClass_of_methodNamed Bd.named
  have hnm := (name_of_methodNamed Bd.named Bd.method).1
  have hlk := BodyLoose.notSynchronized Bd
  have X0 : Stand p l e ({ frames := 1, cells := 1, slots := 2, locals := 18 } : Room) s m #[(.ref a1), (.int (0 : Int32)), (.int (2 : Int32))] below meth c s₁ [] 0 0 := Stand.of_body Bd
  have e0 : s₁.heap = h0 := by rw [← hh, Bd.state]; rfl
  have N := Fr.nil n0
  have K := Keep.refl h0 []
  obtain ⟨G, hG⟩ : ∃ G : State → JFrame → Prop, G = OwnG p e below s ({ frames := 1, cells := 1, slots := 2, locals := 18 } : Room).cells ({ frames := 1, cells := 1, slots := 2, locals := 18 } : Room).slots (Q_rmC1_2 Z a1 k1 c0 c1 h0 n0) := ⟨_, rfl⟩
  have gb : ∀ {T T' : State} {g g' : JFrame}, (∀ t, Steps p.tables e below (T'.setTop g') t → Steps p.tables e below (T.setTop g) t) → G T' g' → G T g := by subst hG; exact fun k h => own_by k h
  have go : ∀ {T : State} {locs : List Loc} {cells slots : Nat} {g : JFrame} {v : Option Value}, Stand p l e ({ frames := 1, cells := 1, slots := 2, locals := 18 } : Room) s m #[(.ref a1), (.int (0 : Int32)), (.int (2 : Int32))] below meth c T locs cells slots → (meth.sig.returnType = none → v = none) → (∀ fs, (∀ (f : JFrame) (acts : List Action), f.method = m → f.locked = none → f.entered = [] → (doReturn e (T.setTop f) acts v).1 = T.setFrames fs) → Steps p.tables e below (T.setTop g) (T.setFrames fs)) → (Q_rmC1_2 Z a1 k1 c0 c1 h0 n0) v T.heap locs → cells ≤ ({ frames := 1, cells := 1, slots := 2, locals := 18 } : Room).cells → slots ≤ ({ frames := 1, cells := 1, slots := 2, locals := 18 } : Room).slots → G T g := by subst hG; exact fun X h1 h2 h3 h4 h5 => own_out X hlk h1 h2 h3 h4 h5
  show OwnG p e below s ({ frames := 1, cells := 1, slots := 2, locals := 18 } : Room).cells ({ frames := 1, cells := 1, slots := 2, locals := 18 } : Room).slots (Q_rmC1_2 Z a1 k1 c0 c1 h0 n0) s₁ (entryFrame m #[(.ref a1), (.int (0 : Int32)), (.int (2 : Int32))] 6)
  rw [← hG, ef_rmC1_2 m a1 (0 : Int32) (2 : Int32)]
  clear hG
  show G s₁ (mkF m 0 #[.val (.ref a1), .val (.int (0 : Int32)), .val (.int (2 : Int32)), .unset, .unset, .unset] [])
  refine gb (fun _ k => XS.iloadN X0.here hx rfl (hb hby d4_0) rfl k) ?_
  show G s₁ (mkF m 1 #[rv a1, iv 0, iv 2, .unset, .unset, .unset] [.int 2])
  obtain ⟨T1, h1, kA1, X1, e1, E1, A1, st1⟩ := newP X0 hx hZ (ow hw 21 rfl) e0 (g := (mkF m 1 #[rv a1, iv 0, iv 2, .unset, .unset, .unset] [.int 2])) rfl (hb hby d4_1) rfl (by decide) (cap := 2) (by decide) (by decide) (by decide) (by decide)
  obtain ⟨b1, g1⟩ : ∃ z, z = h0.size := ⟨_, rfl⟩
  rw [← g1] at A1 st1
  have g_b1 : n0 ≤ b1 := Nat.le_trans (by have := O.2.1; rw [O.1] at this; exact this) (Nat.le_of_eq g1.symm)
  have sz_b1 : h0.size ≤ b1 := Nat.le_trans K.1 (Nat.le_of_eq g1.symm)
  have ne_a1_b1 : a1 ≠ b1 := Nat.ne_of_lt (Nat.lt_of_lt_of_le V_a1.lt (Nat.le_of_eq g1.symm))
  have V_a1 := V_a1.ext E1
  have O := O.ext E1
  have K := K.ext E1
  have V_b1 : Arv Z h1 b1 kA1 .byte (2 : Int32) [(.int (0 : Int32)), (.int (0 : Int32))] (.int (0 : Int32)) := (Arv.new A1 (by decide)).pad (pad_rep [] (.int (0 : Int32)) 2)
  refine gb st1 ?_
  show G T1 (mkF m 3 #[rv a1, iv 0, iv 2, .unset, .unset, .unset] [.ref b1])
  refine gb (fun _ k => XS.astoreN X1.here hx rfl (hb hby d4_3) rfl rfl (l' := #[rv a1, iv 0, iv 2, rv b1, .unset, .unset]) rfl (XS.aloadN X1.here hx rfl (hb hby d4_4) rfl rfl (XS.iloadN X1.here hx rfl (hb hby d4_5) rfl (XS.aloadN X1.here hx rfl (hb hby d4_6) rfl rfl (XS.iconst X1.here hx rfl (hb hby d4_7) (XS.iloadN X1.here hx rfl (hb hby d4_8) rfl k)))))) ?_
  show G T1 (mkF m 9 #[rv a1, iv 0, iv 2, rv b1, .unset, .unset] [.int 2, .int 0, .ref b1, .int 0, .ref a1])
  obtain ⟨_, _, ⟨T2, Lz2, kz2, nz2⟩, -, X2, ⟨Lc2, hQ2, lq2, yq2, zq2⟩, st2⟩ := Jvm.LawKit.callS X1 hx (y := (⟨"java/lang/StringUTF16", "compress", "([CI[BII)I"⟩ : MethodName)) hown (mvT hZ (ow hw 22 rfl)) (mvT hZ (ow hw 23 rfl)) (mvT hZ (ow hw 19 rfl)) (mvT hZ (ow hw 24 rfl)) (by decide) (backOf (W := 0) (rmC2_2 l Z a0 hw [] a1 b1 k1 kA1 c0 c1 h1 n0 O V_a1 V_b1 g_b1 ne_a1_b1 hb0 hb1) hZ (ow hw 24 rfl) (ow hw 19 rfl) (by decide) (by decide)) (g := (mkF m 9 #[rv a1, iv 0, iv 2, rv b1, .unset, .unset] [.int 2, .int 0, .ref b1, .int 0, .ref a1])) rfl (by rw [hml]; rfl) (argsL := [(.ref a1), (.int (0 : Int32)), (.ref b1), (.int (0 : Int32)), (.int (2 : Int32))]) (rest := []) (lenOf pd_0 rfl) rfl (by show 2 * 0 + _ ≤ _; exact Nat.le_of_eq rfl) (hb hby d4_9) (fun _ _ => ⟨rfl, e1, (by decide : 1 + 0 ≤ _), (by decide : 2 + 0 ≤ _)⟩)
  dsimp only [Pt.U, Pt.locs, Pt.cells, Pt.slots] at X2 lq2 yq2 zq2 st2 hQ2
  subst lq2 yq2 zq2
  obtain ⟨h2, e2⟩ : ∃ z, z = T2.heap := ⟨_, rfl⟩
  rw [← e2] at hQ2
  replace e2 := e2.symm
  obtain ⟨rfl, Nq2, Kq2, hR2⟩ := hQ2
  have N := Fr.app N Nq2
  have V_a1 := V_a1.keep Kq2 (ninS ne_a1_b1 nin0)
  have V_b1 := hR2
  have O := O.keep Kq2 (allS g_b1 all0)
  have K := K.trans Kq2 (allS (Or.inr sz_b1) all0)
  refine gb st2 ?_
  show G T2 (mkF m 12 #[rv a1, iv 0, iv 2, rv b1, .unset, .unset] [.int 2])
  refine gb (fun _ k => XS.istore X2.here hx rfl (hb hby d4_12) rfl (l' := #[rv a1, iv 0, iv 2, rv b1, iv 2, .unset]) rfl (XS.iload X2.here hx rfl (hb hby d4_14) rfl (XS.iloadN X2.here hx rfl (hb hby d4_16) rfl (XS.icmpYes X2.here hx rfl (pc0 := 17) (pc' := 57) rfl (hb hby d4_17) rfl (teq (by decide : (2 : Int32) = (2 : Int32))).1 (by decide) (by decide) (XS.aloadN X2.here hx rfl (hb hby d4_57) rfl rfl k))))) ?_
  show G T2 (mkF m 58 #[rv a1, iv 0, iv 2, rv b1, iv 2, .unset] [.ref b1])
  exact go X2 (v := (some (.ref b1))) (fun h => by rw [Bd.returns] at h; cases h) (fun fs hr => retOut X2 hx Bd.returns rfl (Or.inr (Or.inr (Or.inr (Or.inr ⟨rfl, rfl, rfl⟩)))) (hb hby d4_58) hr) (by rw [e2]; exact ⟨_, _, rfl, N, K, g_b1, sz_b1, V_b1⟩) (by decide) (by decide)
def Q_rmCo_2 (Z : State) (a1 : Addr) (k1 : ClassId) (vs1 : List Value) (h0 : Heap) (n0 : Nat) : Option Value → Heap → List Loc → Prop := fun v h L => v = some (.int (0 : Int32)) ∧ L = [] ∧ h = h0
set_option maxRecDepth 65536 in
set_option maxHeartbeats 40000000 in
theorem rmCo_2 (l : Launch) (Z : State) (a0 : Array Value) (hw : ∀ d ∈ tables_1, d.before a0 Z = true) (ws : List Jvm.Cond) (a1 : Addr) (k1 : ClassId) (vs1 : List Value) (h0 : Heap) (n0 : Nat) (O : Old Z n0 h0) (V_a1 : Arv Z h0 a1 k1 .byte (2 : Int32) vs1 (.int (0 : Int32))) :
    MetFree l (⟨"java/lang/StringUTF16", "coderFromArrayLen", "([BI)B"⟩ : MethodName) (head1 (Jvm.Cond.code (⟨"java/lang/StringUTF16", "coderFromArrayLen", "([BI)B"⟩ : MethodName) jdk_52_method_15_code 2 (some .byte) :: ws) ({ frames := 0, cells := 0, slots := 0, locals := 0 } : Room)) (fun a U => a = #[(.ref a1), (.int (2 : Int32))] ∧ Z.Warmed39 U.vm ∧ U.heap = h0) (fun _ _ _ _ _ => True) (fun _ U o U' => ∃ v L, o = .returned v ∧ (Q_rmCo_2 Z a1 k1 vs1 h0 n0) v U'.heap L ∧ FrameEnd U o U' L ({ frames := 0, cells := 0, slots := 0, locals := 0 } : Room).cells ({ frames := 0, cells := 0, slots := 0, locals := 0 } : Room).slots) := by
  refine MetFree.of_bodySF (plainFor_of_name pn_0) hisR ?_
  intro p e s m args below meth c s₁ Bd hml0 hP hK
  obtain ⟨rfl, hZ, hh⟩ := hP
  have hx := Bd.exec
  have hby := Bd.bytes
  have hml : c.maxLocals = 2 := hml0
  have hown : s.vm.findClass "java/lang/StringUTF16" = some m.cls := findClass_of_methodNamed Bd.named
  have hnm := (name_of_methodNamed Bd.named Bd.method).1
  have hlk := BodyLoose.notSynchronized Bd
  have X0 : Stand p l e ({ frames := 0, cells := 0, slots := 0, locals := 0 } : Room) s m #[(.ref a1), (.int (2 : Int32))] below meth c s₁ [] 0 0 := Stand.of_body Bd
  have e0 : s₁.heap = h0 := by rw [← hh, Bd.state]; rfl
  have N := Fr.nil n0
  obtain ⟨G, hG⟩ : ∃ G : State → JFrame → Prop, G = OwnG p e below s ({ frames := 0, cells := 0, slots := 0, locals := 0 } : Room).cells ({ frames := 0, cells := 0, slots := 0, locals := 0 } : Room).slots (Q_rmCo_2 Z a1 k1 vs1 h0 n0) := ⟨_, rfl⟩
  have gb : ∀ {T T' : State} {g g' : JFrame}, (∀ t, Steps p.tables e below (T'.setTop g') t → Steps p.tables e below (T.setTop g) t) → G T' g' → G T g := by subst hG; exact fun k h => own_by k h
  have go : ∀ {T : State} {locs : List Loc} {cells slots : Nat} {g : JFrame} {v : Option Value}, Stand p l e ({ frames := 0, cells := 0, slots := 0, locals := 0 } : Room) s m #[(.ref a1), (.int (2 : Int32))] below meth c T locs cells slots → (meth.sig.returnType = none → v = none) → (∀ fs, (∀ (f : JFrame) (acts : List Action), f.method = m → f.locked = none → f.entered = [] → (doReturn e (T.setTop f) acts v).1 = T.setFrames fs) → Steps p.tables e below (T.setTop g) (T.setFrames fs)) → (Q_rmCo_2 Z a1 k1 vs1 h0 n0) v T.heap locs → cells ≤ ({ frames := 0, cells := 0, slots := 0, locals := 0 } : Room).cells → slots ≤ ({ frames := 0, cells := 0, slots := 0, locals := 0 } : Room).slots → G T g := by subst hG; exact fun X h1 h2 h3 h4 h5 => own_out X hlk h1 h2 h3 h4 h5
  show OwnG p e below s ({ frames := 0, cells := 0, slots := 0, locals := 0 } : Room).cells ({ frames := 0, cells := 0, slots := 0, locals := 0 } : Room).slots (Q_rmCo_2 Z a1 k1 vs1 h0 n0) s₁ (entryFrame m #[(.ref a1), (.int (2 : Int32))] 2)
  rw [← hG, ef_rmCo_2 m a1 (2 : Int32)]
  clear hG
  show G s₁ (mkF m 0 #[.val (.ref a1), .val (.int (2 : Int32))] [])
  refine gb (fun _ k => XS.iloadN X0.here hx rfl (hb hby d6_0) rfl (XS.aloadN X0.here hx rfl (hb hby d6_1) rfl rfl k)) ?_
  show G s₁ (mkF m 2 #[rv a1, iv 2] [.ref a1, .int 2])
  have V'1 := V_a1
  obtain ⟨cl1, Ar1, qk1, sz1, nn1, hs1, ft1⟩ := V'1
  refine gb (X0.arraylength hx (by rw [e0]; exact Ar1.1) (State.isArrayOf_alike hZ.alike Ar1.2.1) (g := (mkF m 2 #[rv a1, iv 2] [.ref a1, .int 2])) rfl rfl (hb hby d6_2)) ?_
  rw [len_of sz1 nn1]
  show G s₁ (mkF m 3 #[rv a1, iv 2] [.int 2, .int 2])
  refine gb (fun _ k => XS.isub X0.here hx rfl (hb hby d6_3) rfl (XS.bipush X0.here hx rfl (hb hby d6_4) (XS.iushr X0.here hx rfl (hb hby d6_6) rfl (XS.i2b X0.here hx rfl (hb hby d6_7) rfl k)))) ?_
  show G s₁ (mkF m 8 #[rv a1, iv 2] [.int 0])
  exact go X0 (v := (some (.int (0 : Int32)))) (fun h => by rw [Bd.returns] at h; cases h) (fun fs hr => retOut X0 hx Bd.returns rfl (Or.inl ⟨rfl, by simp, _, rfl⟩) (hb hby d6_8) hr) (⟨rfl, rfl, e0⟩) (by decide) (by decide)
def Q_rmS4_2 (Z : State) (a1 a2 : Addr) (k2 : ClassId) (c0 c1 : Int32) (h0 : Heap) (n0 : Nat) (zc : Int32) : Option Value → Heap → List Loc → Prop := fun v h L => ∃ (b : Addr) (kb : ClassId), v = none ∧ Fr n0 L ∧ Keep h0 h [a1] ∧ Exa Z h a1 "java/lang/String" ∧ Fld Z h a1 "java/lang/String" "coder" "B" (.int (0 : Int32)) ∧ Fld Z h a1 "java/lang/String" "value" "[B" (.ref b) ∧ n0 ≤ b ∧ h0.size ≤ b ∧ Arv Z h b kb .byte (2 : Int32) [(.int (nar .byte (c0.toInt8.toInt32))), (.int (nar .byte (c1.toInt8.toInt32)))] (.int (0 : Int32))
set_option maxRecDepth 65536 in
set_option maxHeartbeats 40000000 in
theorem rmS4_2 (l : Launch) (Z : State) (a0 : Array Value) (hw : ∀ d ∈ tables_1, d.before a0 Z = true) (ws : List Jvm.Cond) (a1 a2 : Addr) (k2 : ClassId) (c0 c1 : Int32) (h0 : Heap) (n0 : Nat) (O : Old Z n0 h0) (E_a1 : Exa Z h0 a1 "java/lang/String") (F_coder_a1 : Fld Z h0 a1 "java/lang/String" "coder" "B" (.int (0 : Int32))) (F_value_a1 : Fld Z h0 a1 "java/lang/String" "value" "[B" .null) (g_a1 : n0 ≤ a1) (V_a2 : Arv Z h0 a2 k2 .char (2 : Int32) [(.int c0), (.int c1)] (.int (0 : Int32))) (ne_a2_a1 : a2 ≠ a1) (hb0 : ¬ ((255 : Int32) < c0)) (hb1 : ¬ ((255 : Int32) < c1)) (zc : Int32) (S_cs : Sta Z Z.heap "java/lang/String" "COMPACT_STRINGS" "Z" (.int zc)) (hzc : ¬ zc = (0 : Int32)) :
    MetFree l (⟨"java/lang/String", "<init>", "([CIILjava/lang/Void;)V"⟩ : MethodName) (head1 (Jvm.Cond.code (⟨"java/lang/String", "<init>", "([CIILjava/lang/Void;)V"⟩ : MethodName) jdk_42_method_149_code 6 none :: ws) ({ frames := 2, cells := 1, slots := 2, locals := 35 } : Room)) (fun a U => a = #[(.ref a1), (.ref a2), (.int (0 : Int32)), (.int (2 : Int32)), .null] ∧ Z.Warmed39 U.vm ∧ U.heap = h0) (fun _ _ _ _ _ => True) (fun _ U o U' => ∃ v L, o = .returned v ∧ (Q_rmS4_2 Z a1 a2 k2 c0 c1 h0 n0 zc) v U'.heap L ∧ FrameEnd U o U' L ({ frames := 2, cells := 1, slots := 2, locals := 35 } : Room).cells ({ frames := 2, cells := 1, slots := 2, locals := 35 } : Room).slots) := by
  refine MetFree.of_bodySF (plainFor_of_name pn_1) hisR ?_
  intro p e s m args below meth c s₁ Bd hml0 hP hK
  obtain ⟨rfl, hZ, hh⟩ := hP
  have hx := Bd.exec
  have hby := Bd.bytes
  have hml : c.maxLocals = 6 := hml0
  have hown : s.vm.findClass "java/lang/String" = some m.cls := findClass_of_methodNamed Bd.named
  have hnm := (name_of_methodNamed Bd.named Bd.method).1
  have hlk := BodyLoose.notSynchronized Bd
  have X0 : Stand p l e ({ frames := 2, cells := 1, slots := 2, locals := 35 } : Room) s m #[(.ref a1), (.ref a2), (.int (0 : Int32)), (.int (2 : Int32)), .null] below meth c s₁ [] 0 0 := Stand.of_body Bd
  have e0 : s₁.heap = h0 := by rw [← hh, Bd.state]; rfl
  have N := Fr.nil n0
  have K := Keep.refl h0 [a1]
  obtain ⟨G, hG⟩ : ∃ G : State → JFrame → Prop, G = OwnG p e below s ({ frames := 2, cells := 1, slots := 2, locals := 35 } : Room).cells ({ frames := 2, cells := 1, slots := 2, locals := 35 } : Room).slots (Q_rmS4_2 Z a1 a2 k2 c0 c1 h0 n0 zc) := ⟨_, rfl⟩
  have gb : ∀ {T T' : State} {g g' : JFrame}, (∀ t, Steps p.tables e below (T'.setTop g') t → Steps p.tables e below (T.setTop g) t) → G T' g' → G T g := by subst hG; exact fun k h => own_by k h
  have go : ∀ {T : State} {locs : List Loc} {cells slots : Nat} {g : JFrame} {v : Option Value}, Stand p l e ({ frames := 2, cells := 1, slots := 2, locals := 35 } : Room) s m #[(.ref a1), (.ref a2), (.int (0 : Int32)), (.int (2 : Int32)), .null] below meth c T locs cells slots → (meth.sig.returnType = none → v = none) → (∀ fs, (∀ (f : JFrame) (acts : List Action), f.method = m → f.locked = none → f.entered = [] → (doReturn e (T.setTop f) acts v).1 = T.setFrames fs) → Steps p.tables e below (T.setTop g) (T.setFrames fs)) → (Q_rmS4_2 Z a1 a2 k2 c0 c1 h0 n0 zc) v T.heap locs → cells ≤ ({ frames := 2, cells := 1, slots := 2, locals := 35 } : Room).cells → slots ≤ ({ frames := 2, cells := 1, slots := 2, locals := 35 } : Room).slots → G T g := by subst hG; exact fun X h1 h2 h3 h4 h5 => own_out X hlk h1 h2 h3 h4 h5
  show OwnG p e below s ({ frames := 2, cells := 1, slots := 2, locals := 35 } : Room).cells ({ frames := 2, cells := 1, slots := 2, locals := 35 } : Room).slots (Q_rmS4_2 Z a1 a2 k2 c0 c1 h0 n0 zc) s₁ (entryFrame m #[(.ref a1), (.ref a2), (.int (0 : Int32)), (.int (2 : Int32)), .null] 6)
  rw [← hG, ef_rmS4_2 m a1 a2 (0 : Int32) (2 : Int32)]
  clear hG
  show G s₁ (mkF m 0 #[.val (.ref a1), .val (.ref a2), .val (.int (0 : Int32)), .val (.int (2 : Int32)), .val .null, .unset] [])
  refine gb (fun _ k => XS.aloadN X0.here hx rfl (hb hby d2_0) rfl rfl k) ?_
  show G s₁ (mkF m 1 #[rv a1, rv a2, iv 0, iv 2, .val .null, .unset] [.ref a1])
  obtain ⟨T1, X1, e1, st1⟩ := initO X0 hx hZ hown (ow hw 13 rfl) (ow hw 14 rfl) (ow hw 15 rfl) e0 (g := (mkF m 1 #[rv a1, rv a2, iv 0, iv 2, .val .null, .unset] [.ref a1])) rfl (by rw [hml]; rfl) rfl (hb hby d2_1) (by decide) (W := 0) (by show 2 * 0 + _ ≤ _; exact Nat.le_of_eq rfl) (by decide)
  refine gb st1 ?_
  show G T1 (mkF m 4 #[rv a1, rv a2, iv 0, iv 2, .val .null, .unset] [])
  refine gb (fun _ k => XS.iloadN X1.here hx rfl (hb hby d2_4) rfl (XS.ifYes X1.here hx rfl (pc0 := 5) (pc' := 27) rfl (hb hby d2_5) rfl ((if0 _ _).trans (feq (by decide : ¬ ((2 : Int32) = (0 : Int32)))).2) (by decide) (by decide) k)) ?_
  show G T1 (mkF m 27 #[rv a1, rv a2, iv 0, iv 2, .val .null, .unset] [])
  obtain ⟨T2, X2, e2, st2⟩ := getS2 X1 hx hZ hown (host := "") (Or.inl (ow hw 16 rfl)) Via.refl e1 (S_cs.ext O.2) (g := (mkF m 27 #[rv a1, rv a2, iv 0, iv 2, .val .null, .unset] [])) rfl (hb hby d2_27)
  refine gb st2 ?_
  show G T2 (mkF m 30 #[rv a1, rv a2, iv 0, iv 2, .val .null, .unset] [.int zc])
  refine gb (fun _ k => XS.ifNo X2.here hx rfl (hb hby d2_30) rfl ((if0 _ _).trans (feq hzc).1) (XS.aloadN X2.here hx rfl (hb hby d2_33) rfl rfl (XS.iloadN X2.here hx rfl (hb hby d2_34) rfl (XS.iloadN X2.here hx rfl (hb hby d2_35) rfl k)))) ?_
  show G T2 (mkF m 36 #[rv a1, rv a2, iv 0, iv 2, .val .null, .unset] [.int 2, .int 0, .ref a2])
  have lt_a1 := E_a1.lt
  have lt_a2 := V_a2.lt
  have szK := K.1
  obtain ⟨_, _, ⟨T3, Lz3, kz3, nz3⟩, -, X3, ⟨Lc3, hQ3, lq3, yq3, zq3⟩, st3⟩ := Jvm.LawKit.callS X2 hx (y := (⟨"java/lang/StringUTF16", "compress", "([CII)[B"⟩ : MethodName)) hown (mvT hZ (ow hw 17 rfl)) (mvT hZ (ow hw 18 rfl)) (mvT hZ (ow hw 19 rfl)) (mvT hZ (ow hw 20 rfl)) (by decide) (backOf (W := 0) (rmC1_2 l Z a0 hw [] a2 k2 c0 c1 h0 n0 O V_a2 hb0 hb1) hZ (ow hw 20 rfl) (ow hw 19 rfl) (by decide) (by decide)) (g := (mkF m 36 #[rv a1, rv a2, iv 0, iv 2, .val .null, .unset] [.int 2, .int 0, .ref a2])) rfl (by rw [hml]; rfl) (argsL := [(.ref a2), (.int (0 : Int32)), (.int (2 : Int32))]) (rest := []) (lenOf pd_1 rfl) rfl (by show 2 * 0 + _ ≤ _; exact Nat.le_of_eq rfl) (hb hby d2_36) (fun _ _ => ⟨rfl, e2, (by decide : 0 + 1 ≤ _), (by decide : 0 + 2 ≤ _)⟩)
  dsimp only [Pt.U, Pt.locs, Pt.cells, Pt.slots] at X3 lq3 yq3 zq3 st3 hQ3
  subst lq3 yq3 zq3
  obtain ⟨h3, e3⟩ : ∃ z, z = T3.heap := ⟨_, rfl⟩
  rw [← e3] at hQ3
  replace e3 := e3.symm
  obtain ⟨b3, kb3, rfl, Nq3, Kq3, hR3⟩ := hQ3
  have N := Fr.app N Nq3
  have E_a1 := E_a1.keep Kq3
  have F_coder_a1 := F_coder_a1.keep Kq3 nin0
  have F_value_a1 := F_value_a1.keep Kq3 nin0
  have V_a2 := V_a2.keep Kq3 nin0
  obtain ⟨g_b3, sz_b3, V_b3⟩ := hR3
  have O := O.keep Kq3 all0
  have K := K.trans Kq3 all0
  have ne_a1_b3 : a1 ≠ b3 := Nat.ne_of_lt (Nat.lt_of_lt_of_le lt_a1 sz_b3)
  have ne_a2_b3 : a2 ≠ b3 := Nat.ne_of_lt (Nat.lt_of_lt_of_le lt_a2 sz_b3)
  have sz_b3 := Nat.le_trans szK sz_b3
  refine gb st3 ?_
  show G T3 (mkF m 39 #[rv a1, rv a2, iv 0, iv 2, .val .null, .unset] [.ref b3])
  refine gb (fun _ k => XS.astore X3.here hx rfl (hb hby d2_39) rfl rfl (l' := #[rv a1, rv a2, iv 0, iv 2, .val .null, rv b3]) rfl (XS.aloadN X3.here hx rfl (hb hby d2_41) rfl rfl (XS.aload X3.here hx rfl (hb hby d2_42) rfl rfl (XS.iloadN X3.here hx rfl (hb hby d2_44) rfl k)))) ?_
  show G T3 (mkF m 45 #[rv a1, rv a2, iv 0, iv 2, .val .null, rv b3] [.int 2, .ref b3, .ref a1])
  obtain ⟨_, _, ⟨T4, Lz4, kz4, nz4⟩, -, X4, ⟨Lc4, hQ4, lq4, yq4, zq4⟩, st4⟩ := Jvm.LawKit.callS X3 hx (y := (⟨"java/lang/StringUTF16", "coderFromArrayLen", "([BI)B"⟩ : MethodName)) hown (mvT hZ (ow hw 25 rfl)) (mvT hZ (ow hw 26 rfl)) (mvT hZ (ow hw 19 rfl)) (mvT hZ (ow hw 27 rfl)) (by decide) (backOf (W := 1) (rmCo_2 l Z a0 hw [] b3 kb3 _ h3 n0 O V_b3) hZ (ow hw 27 rfl) (ow hw 19 rfl) (by decide) (by decide)) (g := (mkF m 45 #[rv a1, rv a2, iv 0, iv 2, .val .null, rv b3] [.int 2, .ref b3, .ref a1])) rfl (by rw [hml]; rfl) (argsL := [(.ref b3), (.int (2 : Int32))]) (rest := [(.ref a1)]) (lenOf pd_2 rfl) rfl (by show 2 * 0 + _ ≤ _; exact Nat.le_of_eq rfl) (hb hby d2_45) (fun _ _ => ⟨rfl, e3, (by decide : 1 + 0 ≤ _), (by decide : 2 + 0 ≤ _)⟩)
  dsimp only [Pt.U, Pt.locs, Pt.cells, Pt.slots] at X4 lq4 yq4 zq4 st4 hQ4
  subst lq4 yq4 zq4
  obtain ⟨rfl, rfl, e4⟩ := hQ4
  try rw [List.append_nil] at X4
  refine gb st4 ?_
  show G T4 (mkF m 48 #[rv a1, rv a2, iv 0, iv 2, .val .null, rv b3] [.int 0, .ref a1])
  obtain ⟨T5, h5, X5, e5, W5, st5⟩ := putFN X4 hx hZ hown (ow hw 28 rfl) Via.refl e4 F_coder_a1 E_a1 (Or.inr ⟨(ow hw 29 rfl), rfl, hnm⟩) (ow hw 4 rfl) (ty := .byte) (v' := (.int (0 : Int32))) (by decide) rfl (by decide) (g := (mkF m 48 #[rv a1, rv a2, iv 0, iv 2, .val .null, rv b3] [.int 0, .ref a1])) rfl rfl (hb hby d2_48)
  refine gb st5 ?_
  have F_coder_a1 := F_coder_a1.same W5
  have E_a1 := E_a1.wr W5
  have F_value_a1 := F_value_a1.other W5 (Or.inr (slot_ne (Or.inr (ow hw 31 rfl)) (Or.inr (ow hw 29 rfl)) (by decide) (t := (.array .byte)) (t' := .byte) (by decide) (by decide)))
  have V_a2 := V_a2.other W5 ne_a2_a1
  have V_b3 := V_b3.other W5 (Ne.symm ne_a1_b3)
  have O := O.wr W5 g_a1
  have K := K.wr W5 (Or.inl (List.mem_of_getElem? (i := 0) rfl))
  have N := Fr.snoc X5 N g_a1
  show G T5 (mkF m 51 #[rv a1, rv a2, iv 0, iv 2, .val .null, rv b3] [])
  refine gb (fun _ k => XS.aloadN X5.here hx rfl (hb hby d2_51) rfl rfl (XS.aload X5.here hx rfl (hb hby d2_52) rfl rfl k)) ?_
  show G T5 (mkF m 54 #[rv a1, rv a2, iv 0, iv 2, .val .null, rv b3] [.ref b3, .ref a1])
  obtain ⟨T6, h6, X6, e6, W6, st6⟩ := putF X5 hx hZ hown (host := "") (Or.inl (ow hw 30 rfl)) Via.refl e5 F_value_a1 E_a1 (Or.inr ⟨(ow hw 31 rfl), rfl, hnm⟩) (ow hw 4 rfl) (ty := (.array .byte)) (by decide) rfl rfl (g := (mkF m 54 #[rv a1, rv a2, iv 0, iv 2, .val .null, rv b3] [.ref b3, .ref a1])) rfl rfl (hb hby d2_54)
  refine gb st6 ?_
  have F_value_a1 := F_value_a1.same W6
  have E_a1 := E_a1.wr W6
  have V_a2 := V_a2.other W6 ne_a2_a1
  have V_b3 := V_b3.other W6 (Ne.symm ne_a1_b3)
  have F_coder_a1 := F_coder_a1.other W6 (Or.inr (slot_ne (Or.inr (ow hw 29 rfl)) (Or.inr (ow hw 31 rfl)) (by decide) (t := .byte) (t' := (.array .byte)) (by decide) (by decide)))
  have O := O.wr W6 g_a1
  have K := K.wr W6 (Or.inl (List.mem_of_getElem? (i := 0) rfl))
  have N := Fr.snoc X6 N g_a1
  show G T6 (mkF m 57 #[rv a1, rv a2, iv 0, iv 2, .val .null, rv b3] [])
  exact go X6 (v := none) (fun _ => rfl) (fun fs hr => X6.returnOut hx Bd.returns (hb hby d2_57) hr) (by rw [e6]; exact ⟨_, _, rfl, N, K, E_a1, F_coder_a1, F_value_a1, g_b3, sz_b3, V_b3⟩) (by decide) (by decide)
def Q_rmS1_2 (Z : State) (a1 a2 : Addr) (k2 : ClassId) (c0 c1 : Int32) (h0 : Heap) (n0 : Nat) (zc : Int32) : Option Value → Heap → List Loc → Prop := fun v h L => ∃ (b : Addr) (kb : ClassId), v = none ∧ Fr n0 L ∧ Keep h0 h [a1] ∧ Exa Z h a1 "java/lang/String" ∧ Fld Z h a1 "java/lang/String" "coder" "B" (.int (0 : Int32)) ∧ Fld Z h a1 "java/lang/String" "value" "[B" (.ref b) ∧ n0 ≤ b ∧ h0.size ≤ b ∧ Arv Z h b kb .byte (2 : Int32) [(.int (nar .byte (c0.toInt8.toInt32))), (.int (nar .byte (c1.toInt8.toInt32)))] (.int (0 : Int32))
set_option maxRecDepth 65536 in
set_option maxHeartbeats 40000000 in
theorem rmS1_2 (l : Launch) (Z : State) (a0 : Array Value) (hw : ∀ d ∈ tables_1, d.before a0 Z = true) (ws : List Jvm.Cond) (a1 a2 : Addr) (k2 : ClassId) (c0 c1 : Int32) (h0 : Heap) (n0 : Nat) (O : Old Z n0 h0) (E_a1 : Exa Z h0 a1 "java/lang/String") (F_coder_a1 : Fld Z h0 a1 "java/lang/String" "coder" "B" (.int (0 : Int32))) (F_value_a1 : Fld Z h0 a1 "java/lang/String" "value" "[B" .null) (g_a1 : n0 ≤ a1) (V_a2 : Arv Z h0 a2 k2 .char (2 : Int32) [(.int c0), (.int c1)] (.int (0 : Int32))) (ne_a2_a1 : a2 ≠ a1) (hb0 : ¬ ((255 : Int32) < c0)) (hb1 : ¬ ((255 : Int32) < c1)) (zc : Int32) (S_cs : Sta Z Z.heap "java/lang/String" "COMPACT_STRINGS" "Z" (.int zc)) (hzc : ¬ zc = (0 : Int32)) :
    MetFree l (⟨"java/lang/String", "<init>", "([C)V"⟩ : MethodName) (head1 (Jvm.Cond.code (⟨"java/lang/String", "<init>", "([C)V"⟩ : MethodName) jdk_42_method_3_code 2 none :: ws) ({ frames := 3, cells := 1, slots := 2, locals := 52 } : Room)) (fun a U => a = #[(.ref a1), (.ref a2)] ∧ Z.Warmed39 U.vm ∧ U.heap = h0) (fun _ _ _ _ _ => True) (fun _ U o U' => ∃ v L, o = .returned v ∧ (Q_rmS1_2 Z a1 a2 k2 c0 c1 h0 n0 zc) v U'.heap L ∧ FrameEnd U o U' L ({ frames := 3, cells := 1, slots := 2, locals := 52 } : Room).cells ({ frames := 3, cells := 1, slots := 2, locals := 52 } : Room).slots) := by
  refine MetFree.of_bodySF (plainFor_of_name pn_1) hisR ?_
  intro p e s m args below meth c s₁ Bd hml0 hP hK
  obtain ⟨rfl, hZ, hh⟩ := hP
  have hx := Bd.exec
  have hby := Bd.bytes
  have hml : c.maxLocals = 2 := hml0
  have hown : s.vm.findClass "java/lang/String" = some m.cls := findClass_of_methodNamed Bd.named
  have hnm := (name_of_methodNamed Bd.named Bd.method).1
  have hlk := BodyLoose.notSynchronized Bd
  have X0 : Stand p l e ({ frames := 3, cells := 1, slots := 2, locals := 52 } : Room) s m #[(.ref a1), (.ref a2)] below meth c s₁ [] 0 0 := Stand.of_body Bd
  have e0 : s₁.heap = h0 := by rw [← hh, Bd.state]; rfl
  have N := Fr.nil n0
  have K := Keep.refl h0 [a1]
  obtain ⟨G, hG⟩ : ∃ G : State → JFrame → Prop, G = OwnG p e below s ({ frames := 3, cells := 1, slots := 2, locals := 52 } : Room).cells ({ frames := 3, cells := 1, slots := 2, locals := 52 } : Room).slots (Q_rmS1_2 Z a1 a2 k2 c0 c1 h0 n0 zc) := ⟨_, rfl⟩
  have gb : ∀ {T T' : State} {g g' : JFrame}, (∀ t, Steps p.tables e below (T'.setTop g') t → Steps p.tables e below (T.setTop g) t) → G T' g' → G T g := by subst hG; exact fun k h => own_by k h
  have go : ∀ {T : State} {locs : List Loc} {cells slots : Nat} {g : JFrame} {v : Option Value}, Stand p l e ({ frames := 3, cells := 1, slots := 2, locals := 52 } : Room) s m #[(.ref a1), (.ref a2)] below meth c T locs cells slots → (meth.sig.returnType = none → v = none) → (∀ fs, (∀ (f : JFrame) (acts : List Action), f.method = m → f.locked = none → f.entered = [] → (doReturn e (T.setTop f) acts v).1 = T.setFrames fs) → Steps p.tables e below (T.setTop g) (T.setFrames fs)) → (Q_rmS1_2 Z a1 a2 k2 c0 c1 h0 n0 zc) v T.heap locs → cells ≤ ({ frames := 3, cells := 1, slots := 2, locals := 52 } : Room).cells → slots ≤ ({ frames := 3, cells := 1, slots := 2, locals := 52 } : Room).slots → G T g := by subst hG; exact fun X h1 h2 h3 h4 h5 => own_out X hlk h1 h2 h3 h4 h5
  show OwnG p e below s ({ frames := 3, cells := 1, slots := 2, locals := 52 } : Room).cells ({ frames := 3, cells := 1, slots := 2, locals := 52 } : Room).slots (Q_rmS1_2 Z a1 a2 k2 c0 c1 h0 n0 zc) s₁ (entryFrame m #[(.ref a1), (.ref a2)] 2)
  rw [← hG, ef_rmS1_2 m a1 a2]
  clear hG
  show G s₁ (mkF m 0 #[.val (.ref a1), .val (.ref a2)] [])
  refine gb (fun _ k => XS.aloadN X0.here hx rfl (hb hby d1_0) rfl rfl (XS.aloadN X0.here hx rfl (hb hby d1_1) rfl rfl (XS.iconst X0.here hx rfl (hb hby d1_2) (XS.aloadN X0.here hx rfl (hb hby d1_3) rfl rfl k)))) ?_
  show G s₁ (mkF m 4 #[rv a1, rv a2] [.ref a2, .int 0, .ref a2, .ref a1])
  have V'1 := V_a2
  obtain ⟨cl1, Ar1, qk1, sz1, nn1, hs1, ft1⟩ := V'1
  refine gb (X0.arraylength hx (by rw [e0]; exact Ar1.1) (State.isArrayOf_alike hZ.alike Ar1.2.1) (g := (mkF m 4 #[rv a1, rv a2] [.ref a2, .int 0, .ref a2, .ref a1])) rfl rfl (hb hby d1_4)) ?_
  rw [len_of sz1 nn1]
  show G s₁ (mkF m 5 #[rv a1, rv a2] [.int 2, .int 0, .ref a2, .ref a1])
  refine gb (fun _ k => XS.aconstNull X0.here hx rfl (hb hby d1_5) k) ?_
  show G s₁ (mkF m 6 #[rv a1, rv a2] [.null, .int 2, .int 0, .ref a2, .ref a1])
  obtain ⟨_, _, ⟨T2, Lz2, kz2, nz2⟩, -, X2, ⟨Lc2, hQ2, lq2, yq2, zq2⟩, st2⟩ := X0.specialBack hx (y := (⟨"java/lang/String", "<init>", "([CIILjava/lang/Void;)V"⟩ : MethodName)) rfl hown (mvT hZ (ow hw 9 rfl)) (mvT hZ (ow hw 10 rfl)) (mvT hZ (ow hw 12 rfl)) (by decide) (backOf (W := 0) (rmS4_2 l Z a0 hw [] a1 a2 k2 c0 c1 h0 n0 O E_a1 F_coder_a1 F_value_a1 g_a1 V_a2 ne_a2_a1 hb0 hb1 zc S_cs hzc) hZ (ow hw 12 rfl) (ow hw 5 rfl) (by decide) (by decide)) (g := (mkF m 6 #[rv a1, rv a2] [.null, .int 2, .int 0, .ref a2, .ref a1])) rfl (by rw [hml]; rfl) (Steps.refl _) (a := a1) (argsL := [(.ref a2), (.int (0 : Int32)), (.int (2 : Int32)), .null]) (rest := []) (lenOf pd_3 rfl) rfl (by show 2 * 0 + _ ≤ _; exact Nat.le_of_eq rfl) (hb hby d1_6) (fun _ _ => ⟨rfl, e0, (by decide : 0 + 1 ≤ _), (by decide : 0 + 2 ≤ _)⟩)
  dsimp only [Pt.U, Pt.locs, Pt.cells, Pt.slots] at X2 lq2 yq2 zq2 st2 hQ2
  subst lq2 yq2 zq2
  obtain ⟨h2, e2⟩ : ∃ z, z = T2.heap := ⟨_, rfl⟩
  rw [← e2] at hQ2
  replace e2 := e2.symm
  obtain ⟨b2, kb2, rfl, Nq2, Kq2, hR2⟩ := hQ2
  have N := Fr.app N Nq2
  have E_a1 := E_a1.keep Kq2
  have V_a2 := V_a2.keep Kq2 (ninS ne_a2_a1 nin0)
  obtain ⟨E_a1, Fc2, Fv2, gb2, sb2, Vb2⟩ := hR2
  have O := O.keep Kq2 (allS g_a1 all0)
  have K := K.trans Kq2 (allS (Or.inl (List.mem_of_getElem? (i := 0) rfl)) all0)
  refine gb (fun _ k => st2.trans k) ?_
  show G T2 (mkF m 9 #[rv a1, rv a2] [])
  exact go X2 (v := none) (fun _ => rfl) (fun fs hr => X2.returnOut hx Bd.returns (hb hby d1_9) hr) (by rw [e2]; exact ⟨_, _, rfl, N, K, E_a1, Fc2, Fv2, gb2, sb2, Vb2⟩) (by decide) (by decide)
def Q_rm8_0 (Z : State) (h0 : Heap) (n0 : Nat) (w_JANUARY : Addr) (wE : Addr) : Option Value → Heap → List Loc → Prop := fun v h L => v = some (.ref w_JANUARY) ∧ L = [] ∧ h = h0
set_option maxRecDepth 65536 in
set_option maxHeartbeats 40000000 in
theorem rm8_0 (l : Launch) (Z : State) (a0 : Array Value) (hw : ∀ d ∈ tables_1, d.before a0 Z = true) (ws : List Jvm.Cond) (h0 : Heap) (n0 : Nat) (O : Old Z n0 h0) (w_JANUARY : Addr) (wE : Addr) (cE : Cell) (S_E : Sta Z Z.heap "java/time/Month" "ENUMS" "[Ljava/time/Month;" (.ref wE)) (ArE : Arr Z Z.heap wE cE (.object "java/time/Month")) (szE : cE.slots.size = (12 : Int32).toNatClampNeg) (hel : cE.slots[((0 : Int32)).toNatClampNeg]? = some (.ref w_JANUARY)) :
    MetFree l (⟨"java/time/Month", "of", "(I)Ljava/time/Month;"⟩ : MethodName) (head1 (Jvm.Cond.code (⟨"java/time/Month", "of", "(I)Ljava/time/Month;"⟩ : MethodName) jdk_2329_method_4_code 1 (some (.object "java/time/Month")) :: ws) ({ frames := 0, cells := 0, slots := 0, locals := 0 } : Room)) (fun a U => a = #[(.int (1 : Int32))] ∧ Z.Warmed39 U.vm ∧ U.heap = h0) (fun _ _ _ _ _ => True) (fun _ U o U' => ∃ v L, o = .returned v ∧ (Q_rm8_0 Z h0 n0 w_JANUARY wE) v U'.heap L ∧ FrameEnd U o U' L ({ frames := 0, cells := 0, slots := 0, locals := 0 } : Room).cells ({ frames := 0, cells := 0, slots := 0, locals := 0 } : Room).slots) := by
  refine MetFree.of_bodySF (plainFor_of_name pn_2) hisR ?_
  intro p e s m args below meth c s₁ Bd hml0 hP hK
  obtain ⟨rfl, hZ, hh⟩ := hP
  have hx := Bd.exec
  have hby := Bd.bytes
  have hml : c.maxLocals = 1 := hml0
  have hown : s.vm.findClass "java/time/Month" = some m.cls := findClass_of_methodNamed Bd.named
  have hnm := (name_of_methodNamed Bd.named Bd.method).1
  have hlk := BodyLoose.notSynchronized Bd
  have X0 : Stand p l e ({ frames := 0, cells := 0, slots := 0, locals := 0 } : Room) s m #[(.int (1 : Int32))] below meth c s₁ [] 0 0 := Stand.of_body Bd
  have e0 : s₁.heap = h0 := by rw [← hh, Bd.state]; rfl
  have N := Fr.nil n0
  obtain ⟨G, hG⟩ : ∃ G : State → JFrame → Prop, G = OwnG p e below s ({ frames := 0, cells := 0, slots := 0, locals := 0 } : Room).cells ({ frames := 0, cells := 0, slots := 0, locals := 0 } : Room).slots (Q_rm8_0 Z h0 n0 w_JANUARY wE) := ⟨_, rfl⟩
  have gb : ∀ {T T' : State} {g g' : JFrame}, (∀ t, Steps p.tables e below (T'.setTop g') t → Steps p.tables e below (T.setTop g) t) → G T' g' → G T g := by subst hG; exact fun k h => own_by k h
  have go : ∀ {T : State} {locs : List Loc} {cells slots : Nat} {g : JFrame} {v : Option Value}, Stand p l e ({ frames := 0, cells := 0, slots := 0, locals := 0 } : Room) s m #[(.int (1 : Int32))] below meth c T locs cells slots → (meth.sig.returnType = none → v = none) → (∀ fs, (∀ (f : JFrame) (acts : List Action), f.method = m → f.locked = none → f.entered = [] → (doReturn e (T.setTop f) acts v).1 = T.setFrames fs) → Steps p.tables e below (T.setTop g) (T.setFrames fs)) → (Q_rm8_0 Z h0 n0 w_JANUARY wE) v T.heap locs → cells ≤ ({ frames := 0, cells := 0, slots := 0, locals := 0 } : Room).cells → slots ≤ ({ frames := 0, cells := 0, slots := 0, locals := 0 } : Room).slots → G T g := by subst hG; exact fun X h1 h2 h3 h4 h5 => own_out X hlk h1 h2 h3 h4 h5
  show OwnG p e below s ({ frames := 0, cells := 0, slots := 0, locals := 0 } : Room).cells ({ frames := 0, cells := 0, slots := 0, locals := 0 } : Room).slots (Q_rm8_0 Z h0 n0 w_JANUARY wE) s₁ (entryFrame m #[(.int (1 : Int32))] 1)
  rw [← hG, ef_rm8_0 m (1 : Int32)]
  clear hG
  show G s₁ (mkF m 0 #[.val (.int (1 : Int32))] [])
  refine gb (fun _ k => XS.iloadN X0.here hx rfl (hb hby d8_0) rfl (XS.iconst X0.here hx rfl (hb hby d8_1) (XS.icmpNo X0.here hx rfl (hb hby d8_2) rfl (flt (by decide : ¬ ((1 : Int32) < (1 : Int32)))).1 (XS.iloadN X0.here hx rfl (hb hby d8_5) rfl (XS.bipush X0.here hx rfl (hb hby d8_6) (XS.icmpYes X0.here hx rfl (pc0 := 8) (pc' := 38) rfl (hb hby d8_8) rfl (flt (by decide : ¬ ((12 : Int32) < (1 : Int32)))).2.2.2 (by decide) (by decide) k)))))) ?_
  show G s₁ (mkF m 38 #[iv 1] [])
  obtain ⟨T1, X1, e1, st1⟩ := getS2 X0 hx hZ hown (host := "") (Or.inl (ow hw 41 rfl)) Via.refl e0 (S_E.ext O.2) (g := (mkF m 38 #[iv 1] [])) rfl (hb hby d8_38)
  refine gb st1 ?_
  show G T1 (mkF m 41 #[iv 1] [.ref wE])
  refine gb (fun _ k => XS.iloadN X1.here hx rfl (hb hby d8_41) rfl (XS.iconst X1.here hx rfl (hb hby d8_42) (XS.isub X1.here hx rfl (hb hby d8_43) rfl k))) ?_
  show G T1 (mkF m 44 #[iv 1] [.int 0, .ref wE])
  have ArE' := ArE.ext O.2
  refine gb (X1.aaload hx (j := (0 : Int32)) (v := .ref w_JANUARY) (by rw [e1]; exact ArE'.1) (State.isArrayOf_alike hZ.alike ArE'.2.1) rfl ArE'.2.2 (inb_of szE ⟨by decide, by decide⟩) hel (g := (mkF m 44 #[iv 1] [.int 0, .ref wE])) rfl rfl (hb hby d8_44)) ?_
  show G T1 (mkF m 45 #[iv 1] [.ref w_JANUARY])
  exact go X1 (v := (some (.ref w_JANUARY))) (fun h => by rw [Bd.returns] at h; cases h) (fun fs hr => retOut X1 hx Bd.returns rfl (Or.inr (Or.inr (Or.inr (Or.inr ⟨rfl, rfl, rfl⟩)))) (hb hby d8_45) hr) (⟨rfl, rfl, e1⟩) (by decide) (by decide)
def Q_rm7_0 (Z : State) (a1 : Addr) (h0 : Heap) (n0 : Nat) (w_JANUARY : Addr) (wE : Addr) : Option Value → Heap → List Loc → Prop := fun v h L => v = some (.ref w_JANUARY) ∧ L = [] ∧ h = h0
set_option maxRecDepth 65536 in
set_option maxHeartbeats 40000000 in
theorem rm7_0 (l : Launch) (Z : State) (a0 : Array Value) (hw : ∀ d ∈ tables_1, d.before a0 Z = true) (ws : List Jvm.Cond) (a1 : Addr) (h0 : Heap) (n0 : Nat) (O : Old Z n0 h0) (w_JANUARY : Addr) (wE : Addr) (cE : Cell) (S_E : Sta Z Z.heap "java/time/Month" "ENUMS" "[Ljava/time/Month;" (.ref wE)) (ArE : Arr Z Z.heap wE cE (.object "java/time/Month")) (szE : cE.slots.size = (12 : Int32).toNatClampNeg) (hel : cE.slots[((0 : Int32)).toNatClampNeg]? = some (.ref w_JANUARY)) :
    MetFree l (⟨"com/example/ratchetbook/ratchetbook/tariff/AnnualMinimum", "monthNumbered", "(JLjava/lang/String;)Ljava/time/Month;"⟩ : MethodName) (head1 (Jvm.Cond.code (⟨"com/example/ratchetbook/ratchetbook/tariff/AnnualMinimum", "monthNumbered", "(JLjava/lang/String;)Ljava/time/Month;"⟩ : MethodName) prog_84_method_2_code 3 (some (.object "java/time/Month")) :: ws) ({ frames := 1, cells := 0, slots := 0, locals := 12 } : Room)) (fun a U => a = #[(.long (1 : Int64)), (.ref a1)] ∧ Z.Warmed39 U.vm ∧ U.heap = h0) (fun _ _ _ _ _ => True) (fun _ U o U' => ∃ v L, o = .returned v ∧ (Q_rm7_0 Z a1 h0 n0 w_JANUARY wE) v U'.heap L ∧ FrameEnd U o U' L ({ frames := 1, cells := 0, slots := 0, locals := 12 } : Room).cells ({ frames := 1, cells := 0, slots := 0, locals := 12 } : Room).slots) := by
  refine MetFree.of_bodySF (plainFor_of_name pn_3) hisR ?_
  intro p e s m args below meth c s₁ Bd hml0 hP hK
  obtain ⟨rfl, hZ, hh⟩ := hP
  have hx := Bd.exec
  have hby := Bd.bytes
  have hml : c.maxLocals = 3 := hml0
  have hown : s.vm.findClass "com/example/ratchetbook/ratchetbook/tariff/AnnualMinimum" = some m.cls := findClass_of_methodNamed Bd.named
  have hnm := (name_of_methodNamed Bd.named Bd.method).1
  have hlk := BodyLoose.notSynchronized Bd
  have X0 : Stand p l e ({ frames := 1, cells := 0, slots := 0, locals := 12 } : Room) s m #[(.long (1 : Int64)), (.ref a1)] below meth c s₁ [] 0 0 := Stand.of_body Bd
  have e0 : s₁.heap = h0 := by rw [← hh, Bd.state]; rfl
  have N := Fr.nil n0
  obtain ⟨G, hG⟩ : ∃ G : State → JFrame → Prop, G = OwnG p e below s ({ frames := 1, cells := 0, slots := 0, locals := 12 } : Room).cells ({ frames := 1, cells := 0, slots := 0, locals := 12 } : Room).slots (Q_rm7_0 Z a1 h0 n0 w_JANUARY wE) := ⟨_, rfl⟩
  have gb : ∀ {T T' : State} {g g' : JFrame}, (∀ t, Steps p.tables e below (T'.setTop g') t → Steps p.tables e below (T.setTop g) t) → G T' g' → G T g := by subst hG; exact fun k h => own_by k h
  have go : ∀ {T : State} {locs : List Loc} {cells slots : Nat} {g : JFrame} {v : Option Value}, Stand p l e ({ frames := 1, cells := 0, slots := 0, locals := 12 } : Room) s m #[(.long (1 : Int64)), (.ref a1)] below meth c T locs cells slots → (meth.sig.returnType = none → v = none) → (∀ fs, (∀ (f : JFrame) (acts : List Action), f.method = m → f.locked = none → f.entered = [] → (doReturn e (T.setTop f) acts v).1 = T.setFrames fs) → Steps p.tables e below (T.setTop g) (T.setFrames fs)) → (Q_rm7_0 Z a1 h0 n0 w_JANUARY wE) v T.heap locs → cells ≤ ({ frames := 1, cells := 0, slots := 0, locals := 12 } : Room).cells → slots ≤ ({ frames := 1, cells := 0, slots := 0, locals := 12 } : Room).slots → G T g := by subst hG; exact fun X h1 h2 h3 h4 h5 => own_out X hlk h1 h2 h3 h4 h5
  show OwnG p e below s ({ frames := 1, cells := 0, slots := 0, locals := 12 } : Room).cells ({ frames := 1, cells := 0, slots := 0, locals := 12 } : Room).slots (Q_rm7_0 Z a1 h0 n0 w_JANUARY wE) s₁ (entryFrame m #[(.long (1 : Int64)), (.ref a1)] 3)
  rw [← hG, ef_rm7_0 m (1 : Int64) a1]
  clear hG
  show G s₁ (mkF m 0 #[.val (.long (1 : Int64)), .second, .val (.ref a1)] [])
  refine gb (fun _ k => XS.lloadN X0.here hx rfl (hb hby d7_0) rfl (XS.lconst X0.here hx rfl (hb hby d7_1) (XS.lcmp X0.here hx rfl (hb hby d7_2) rfl (XS.ifNo X0.here hx rfl (hb hby d7_3) rfl ((if0 _ _).trans (flt (fun q => (by decide : ¬ ((1 : Int64) < (1 : Int64))) ((own_lt _ _).mp q))).1) (XS.lloadN X0.here hx rfl (hb hby d7_6) rfl k))))) ?_
  show G s₁ (mkF m 7 #[jv 1, .second, rv a1] [.long 1])
  refine gb (X0.ldc2Long hx hown (mvT hZ (ow hw 36 rfl)) (g := (mkF m 7 #[jv 1, .second, rv a1] [.long 1])) rfl (hb hby d7_7)) ?_
  show G s₁ (mkF m 10 #[jv 1, .second, rv a1] [.long 12, .long 1])
  refine gb (fun _ k => XS.lcmp X0.here hx rfl (hb hby d7_10) rfl (XS.ifYes X0.here hx rfl (pc0 := 11) (pc' := 29) rfl (hb hby d7_11) rfl ((if0 _ _).trans (flt (fun q => (by decide : ¬ ((12 : Int64) < (1 : Int64))) ((own_gt _ _).mp q))).2.2.2) (by decide) (by decide) (XS.lloadN X0.here hx rfl (hb hby d7_29) rfl (XS.l2i X0.here hx rfl (hb hby d7_30) rfl k)))) ?_
  show G s₁ (mkF m 31 #[jv 1, .second, rv a1] [.int 1])
  obtain ⟨_, _, ⟨T1, Lz1, kz1, nz1⟩, -, X1, ⟨Lc1, hQ1, lq1, yq1, zq1⟩, st1⟩ := Jvm.LawKit.callS X0 hx (y := (⟨"java/time/Month", "of", "(I)Ljava/time/Month;"⟩ : MethodName)) hown (mvT hZ (ow hw 37 rfl)) (mvT hZ (ow hw 38 rfl)) (mvT hZ (ow hw 39 rfl)) (mvT hZ (ow hw 40 rfl)) (by decide) (backOf (W := 0) (rm8_0 l Z a0 hw [] h0 n0 O w_JANUARY wE cE S_E ArE szE hel) hZ (ow hw 40 rfl) (ow hw 39 rfl) (by decide) (by decide)) (g := (mkF m 31 #[jv 1, .second, rv a1] [.int 1])) rfl (by rw [hml]; rfl) (argsL := [(.int (1 : Int32))]) (rest := []) (lenOf pd_4 rfl) rfl (by show 2 * 0 + _ ≤ _; exact Nat.le_of_eq rfl) (hb hby d7_31) (fun _ _ => ⟨rfl, e0, (by decide : 0 + 0 ≤ _), (by decide : 0 + 0 ≤ _)⟩)
  dsimp only [Pt.U, Pt.locs, Pt.cells, Pt.slots] at X1 lq1 yq1 zq1 st1 hQ1
  subst lq1 yq1 zq1
  obtain ⟨rfl, rfl, e1⟩ := hQ1
  try rw [List.append_nil] at X1
  refine gb st1 ?_
  show G T1 (mkF m 34 #[jv 1, .second, rv a1] [.ref w_JANUARY])
  exact go X1 (v := (some (.ref w_JANUARY))) (fun h => by rw [Bd.returns] at h; cases h) (fun fs hr => retOut X1 hx Bd.returns rfl (Or.inr (Or.inr (Or.inr (Or.inr ⟨rfl, rfl, rfl⟩)))) (hb hby d7_34) hr) (⟨rfl, rfl, e1⟩) (by decide) (by decide)
def Q_rm9_0 (Z : State) (h0 : Heap) (n0 : Nat) (w_JANUARY : Addr) : Option Value → Heap → List Loc → Prop := fun v h L => v = some (.ref w_JANUARY) ∧ L = [] ∧ h = h0
set_option maxRecDepth 65536 in
set_option maxHeartbeats 40000000 in
theorem rm9_0 (l : Launch) (Z : State) (a0 : Array Value) (hw : ∀ d ∈ tables_1, d.before a0 Z = true) (ws : List Jvm.Cond) (h0 : Heap) (n0 : Nat) (O : Old Z n0 h0) (w_JANUARY : Addr) (S_JANUARY : Sta Z Z.heap "java/time/Month" "JANUARY" "Ljava/time/Month;" (.ref w_JANUARY)) :
    MetFree l (⟨"com/example/ratchetbook/ratchetbook/tariff/AnnualMinimumMonthNumberedPinLaw", "expected", "(I)Ljava/time/Month;"⟩ : MethodName) (head1 (Jvm.Cond.code (⟨"com/example/ratchetbook/ratchetbook/tariff/AnnualMinimumMonthNumberedPinLaw", "expected", "(I)Ljava/time/Month;"⟩ : MethodName) method_3_code 1 (some (.object "java/time/Month")) :: ws) ({ frames := 0, cells := 0, slots := 0, locals := 0 } : Room)) (fun a U => a = #[(.int (1 : Int32))] ∧ Z.Warmed39 U.vm ∧ U.heap = h0) (fun _ _ _ _ _ => True) (fun _ U o U' => ∃ v L, o = .returned v ∧ (Q_rm9_0 Z h0 n0 w_JANUARY) v U'.heap L ∧ FrameEnd U o U' L ({ frames := 0, cells := 0, slots := 0, locals := 0 } : Room).cells ({ frames := 0, cells := 0, slots := 0, locals := 0 } : Room).slots) := by
  refine MetFree.of_bodySF (plainFor_of_name pn_4) hisR ?_
  intro p e s m args below meth c s₁ Bd hml0 hP hK
  obtain ⟨rfl, hZ, hh⟩ := hP
  have hx := Bd.exec
  have hby := Bd.bytes
  have hml : c.maxLocals = 1 := hml0
  have hown : s.vm.findClass "com/example/ratchetbook/ratchetbook/tariff/AnnualMinimumMonthNumberedPinLaw" = some m.cls := findClass_of_methodNamed Bd.named
  have hnm := (name_of_methodNamed Bd.named Bd.method).1
  have hlk := BodyLoose.notSynchronized Bd
  have X0 : Stand p l e ({ frames := 0, cells := 0, slots := 0, locals := 0 } : Room) s m #[(.int (1 : Int32))] below meth c s₁ [] 0 0 := Stand.of_body Bd
  have e0 : s₁.heap = h0 := by rw [← hh, Bd.state]; rfl
  have N := Fr.nil n0
  obtain ⟨G, hG⟩ : ∃ G : State → JFrame → Prop, G = OwnG p e below s ({ frames := 0, cells := 0, slots := 0, locals := 0 } : Room).cells ({ frames := 0, cells := 0, slots := 0, locals := 0 } : Room).slots (Q_rm9_0 Z h0 n0 w_JANUARY) := ⟨_, rfl⟩
  have gb : ∀ {T T' : State} {g g' : JFrame}, (∀ t, Steps p.tables e below (T'.setTop g') t → Steps p.tables e below (T.setTop g) t) → G T' g' → G T g := by subst hG; exact fun k h => own_by k h
  have go : ∀ {T : State} {locs : List Loc} {cells slots : Nat} {g : JFrame} {v : Option Value}, Stand p l e ({ frames := 0, cells := 0, slots := 0, locals := 0 } : Room) s m #[(.int (1 : Int32))] below meth c T locs cells slots → (meth.sig.returnType = none → v = none) → (∀ fs, (∀ (f : JFrame) (acts : List Action), f.method = m → f.locked = none → f.entered = [] → (doReturn e (T.setTop f) acts v).1 = T.setFrames fs) → Steps p.tables e below (T.setTop g) (T.setFrames fs)) → (Q_rm9_0 Z h0 n0 w_JANUARY) v T.heap locs → cells ≤ ({ frames := 0, cells := 0, slots := 0, locals := 0 } : Room).cells → slots ≤ ({ frames := 0, cells := 0, slots := 0, locals := 0 } : Room).slots → G T g := by subst hG; exact fun X h1 h2 h3 h4 h5 => own_out X hlk h1 h2 h3 h4 h5
  show OwnG p e below s ({ frames := 0, cells := 0, slots := 0, locals := 0 } : Room).cells ({ frames := 0, cells := 0, slots := 0, locals := 0 } : Room).slots (Q_rm9_0 Z h0 n0 w_JANUARY) s₁ (entryFrame m #[(.int (1 : Int32))] 1)
  rw [← hG, ef_rm9_0 m (1 : Int32)]
  clear hG
  show G s₁ (mkF m 0 #[.val (.int (1 : Int32))] [])
  refine gb (fun _ k => XS.iloadN X0.here hx rfl (hb hby d9_0) rfl (XS.iconst X0.here hx rfl (hb hby d9_1) (XS.icmpNo X0.here hx rfl (hb hby d9_2) rfl (teq (by decide : (1 : Int32) = (1 : Int32))).2 k))) ?_
  show G s₁ (mkF m 5 #[iv 1] [])
  obtain ⟨T1, X1, e1, st1⟩ := getS2 X0 hx hZ hown (host := "") (Or.inl (ow hw 50 rfl)) Via.refl e0 (S_JANUARY.ext O.2) (g := (mkF m 5 #[iv 1] [])) rfl (hb hby d9_5)
  refine gb st1 ?_
  show G T1 (mkF m 8 #[iv 1] [.ref w_JANUARY])
  exact go X1 (v := (some (.ref w_JANUARY))) (fun h => by rw [Bd.returns] at h; cases h) (fun fs hr => retOut X1 hx Bd.returns rfl (Or.inr (Or.inr (Or.inr (Or.inr ⟨rfl, rfl, rfl⟩)))) (hb hby d9_8) hr) (⟨rfl, rfl, e1⟩) (by decide) (by decide)
def Q_rm8_1 (Z : State) (h0 : Heap) (n0 : Nat) (w_FEBRUARY : Addr) (wE : Addr) : Option Value → Heap → List Loc → Prop := fun v h L => v = some (.ref w_FEBRUARY) ∧ L = [] ∧ h = h0
set_option maxRecDepth 65536 in
set_option maxHeartbeats 40000000 in
theorem rm8_1 (l : Launch) (Z : State) (a0 : Array Value) (hw : ∀ d ∈ tables_1, d.before a0 Z = true) (ws : List Jvm.Cond) (h0 : Heap) (n0 : Nat) (O : Old Z n0 h0) (w_FEBRUARY : Addr) (wE : Addr) (cE : Cell) (S_E : Sta Z Z.heap "java/time/Month" "ENUMS" "[Ljava/time/Month;" (.ref wE)) (ArE : Arr Z Z.heap wE cE (.object "java/time/Month")) (szE : cE.slots.size = (12 : Int32).toNatClampNeg) (hel : cE.slots[((1 : Int32)).toNatClampNeg]? = some (.ref w_FEBRUARY)) :
    MetFree l (⟨"java/time/Month", "of", "(I)Ljava/time/Month;"⟩ : MethodName) (head1 (Jvm.Cond.code (⟨"java/time/Month", "of", "(I)Ljava/time/Month;"⟩ : MethodName) jdk_2329_method_4_code 1 (some (.object "java/time/Month")) :: ws) ({ frames := 0, cells := 0, slots := 0, locals := 0 } : Room)) (fun a U => a = #[(.int (2 : Int32))] ∧ Z.Warmed39 U.vm ∧ U.heap = h0) (fun _ _ _ _ _ => True) (fun _ U o U' => ∃ v L, o = .returned v ∧ (Q_rm8_1 Z h0 n0 w_FEBRUARY wE) v U'.heap L ∧ FrameEnd U o U' L ({ frames := 0, cells := 0, slots := 0, locals := 0 } : Room).cells ({ frames := 0, cells := 0, slots := 0, locals := 0 } : Room).slots) := by
  refine MetFree.of_bodySF (plainFor_of_name pn_2) hisR ?_
  intro p e s m args below meth c s₁ Bd hml0 hP hK
  obtain ⟨rfl, hZ, hh⟩ := hP
  have hx := Bd.exec
  have hby := Bd.bytes
  have hml : c.maxLocals = 1 := hml0
  have hown : s.vm.findClass "java/time/Month" = some m.cls := findClass_of_methodNamed Bd.named
  have hnm := (name_of_methodNamed Bd.named Bd.method).1
  have hlk := BodyLoose.notSynchronized Bd
  have X0 : Stand p l e ({ frames := 0, cells := 0, slots := 0, locals := 0 } : Room) s m #[(.int (2 : Int32))] below meth c s₁ [] 0 0 := Stand.of_body Bd
  have e0 : s₁.heap = h0 := by rw [← hh, Bd.state]; rfl
  have N := Fr.nil n0
  obtain ⟨G, hG⟩ : ∃ G : State → JFrame → Prop, G = OwnG p e below s ({ frames := 0, cells := 0, slots := 0, locals := 0 } : Room).cells ({ frames := 0, cells := 0, slots := 0, locals := 0 } : Room).slots (Q_rm8_1 Z h0 n0 w_FEBRUARY wE) := ⟨_, rfl⟩
  have gb : ∀ {T T' : State} {g g' : JFrame}, (∀ t, Steps p.tables e below (T'.setTop g') t → Steps p.tables e below (T.setTop g) t) → G T' g' → G T g := by subst hG; exact fun k h => own_by k h
  have go : ∀ {T : State} {locs : List Loc} {cells slots : Nat} {g : JFrame} {v : Option Value}, Stand p l e ({ frames := 0, cells := 0, slots := 0, locals := 0 } : Room) s m #[(.int (2 : Int32))] below meth c T locs cells slots → (meth.sig.returnType = none → v = none) → (∀ fs, (∀ (f : JFrame) (acts : List Action), f.method = m → f.locked = none → f.entered = [] → (doReturn e (T.setTop f) acts v).1 = T.setFrames fs) → Steps p.tables e below (T.setTop g) (T.setFrames fs)) → (Q_rm8_1 Z h0 n0 w_FEBRUARY wE) v T.heap locs → cells ≤ ({ frames := 0, cells := 0, slots := 0, locals := 0 } : Room).cells → slots ≤ ({ frames := 0, cells := 0, slots := 0, locals := 0 } : Room).slots → G T g := by subst hG; exact fun X h1 h2 h3 h4 h5 => own_out X hlk h1 h2 h3 h4 h5
  show OwnG p e below s ({ frames := 0, cells := 0, slots := 0, locals := 0 } : Room).cells ({ frames := 0, cells := 0, slots := 0, locals := 0 } : Room).slots (Q_rm8_1 Z h0 n0 w_FEBRUARY wE) s₁ (entryFrame m #[(.int (2 : Int32))] 1)
  rw [← hG, ef_rm8_1 m (2 : Int32)]
  clear hG
  show G s₁ (mkF m 0 #[.val (.int (2 : Int32))] [])
  refine gb (fun _ k => XS.iloadN X0.here hx rfl (hb hby d8_0) rfl (XS.iconst X0.here hx rfl (hb hby d8_1) (XS.icmpNo X0.here hx rfl (hb hby d8_2) rfl (flt (by decide : ¬ ((2 : Int32) < (1 : Int32)))).1 (XS.iloadN X0.here hx rfl (hb hby d8_5) rfl (XS.bipush X0.here hx rfl (hb hby d8_6) (XS.icmpYes X0.here hx rfl (pc0 := 8) (pc' := 38) rfl (hb hby d8_8) rfl (flt (by decide : ¬ ((12 : Int32) < (2 : Int32)))).2.2.2 (by decide) (by decide) k)))))) ?_
  show G s₁ (mkF m 38 #[iv 2] [])
  obtain ⟨T1, X1, e1, st1⟩ := getS2 X0 hx hZ hown (host := "") (Or.inl (ow hw 41 rfl)) Via.refl e0 (S_E.ext O.2) (g := (mkF m 38 #[iv 2] [])) rfl (hb hby d8_38)
  refine gb st1 ?_
  show G T1 (mkF m 41 #[iv 2] [.ref wE])
  refine gb (fun _ k => XS.iloadN X1.here hx rfl (hb hby d8_41) rfl (XS.iconst X1.here hx rfl (hb hby d8_42) (XS.isub X1.here hx rfl (hb hby d8_43) rfl k))) ?_
  show G T1 (mkF m 44 #[iv 2] [.int 1, .ref wE])
  have ArE' := ArE.ext O.2
  refine gb (X1.aaload hx (j := (1 : Int32)) (v := .ref w_FEBRUARY) (by rw [e1]; exact ArE'.1) (State.isArrayOf_alike hZ.alike ArE'.2.1) rfl ArE'.2.2 (inb_of szE ⟨by decide, by decide⟩) hel (g := (mkF m 44 #[iv 2] [.int 1, .ref wE])) rfl rfl (hb hby d8_44)) ?_
  show G T1 (mkF m 45 #[iv 2] [.ref w_FEBRUARY])
  exact go X1 (v := (some (.ref w_FEBRUARY))) (fun h => by rw [Bd.returns] at h; cases h) (fun fs hr => retOut X1 hx Bd.returns rfl (Or.inr (Or.inr (Or.inr (Or.inr ⟨rfl, rfl, rfl⟩)))) (hb hby d8_45) hr) (⟨rfl, rfl, e1⟩) (by decide) (by decide)
def Q_rm7_1 (Z : State) (a1 : Addr) (h0 : Heap) (n0 : Nat) (w_FEBRUARY : Addr) (wE : Addr) : Option Value → Heap → List Loc → Prop := fun v h L => v = some (.ref w_FEBRUARY) ∧ L = [] ∧ h = h0
set_option maxRecDepth 65536 in
set_option maxHeartbeats 40000000 in
theorem rm7_1 (l : Launch) (Z : State) (a0 : Array Value) (hw : ∀ d ∈ tables_1, d.before a0 Z = true) (ws : List Jvm.Cond) (a1 : Addr) (h0 : Heap) (n0 : Nat) (O : Old Z n0 h0) (w_FEBRUARY : Addr) (wE : Addr) (cE : Cell) (S_E : Sta Z Z.heap "java/time/Month" "ENUMS" "[Ljava/time/Month;" (.ref wE)) (ArE : Arr Z Z.heap wE cE (.object "java/time/Month")) (szE : cE.slots.size = (12 : Int32).toNatClampNeg) (hel : cE.slots[((1 : Int32)).toNatClampNeg]? = some (.ref w_FEBRUARY)) :
    MetFree l (⟨"com/example/ratchetbook/ratchetbook/tariff/AnnualMinimum", "monthNumbered", "(JLjava/lang/String;)Ljava/time/Month;"⟩ : MethodName) (head1 (Jvm.Cond.code (⟨"com/example/ratchetbook/ratchetbook/tariff/AnnualMinimum", "monthNumbered", "(JLjava/lang/String;)Ljava/time/Month;"⟩ : MethodName) prog_84_method_2_code 3 (some (.object "java/time/Month")) :: ws) ({ frames := 1, cells := 0, slots := 0, locals := 12 } : Room)) (fun a U => a = #[(.long (2 : Int64)), (.ref a1)] ∧ Z.Warmed39 U.vm ∧ U.heap = h0) (fun _ _ _ _ _ => True) (fun _ U o U' => ∃ v L, o = .returned v ∧ (Q_rm7_1 Z a1 h0 n0 w_FEBRUARY wE) v U'.heap L ∧ FrameEnd U o U' L ({ frames := 1, cells := 0, slots := 0, locals := 12 } : Room).cells ({ frames := 1, cells := 0, slots := 0, locals := 12 } : Room).slots) := by
  refine MetFree.of_bodySF (plainFor_of_name pn_3) hisR ?_
  intro p e s m args below meth c s₁ Bd hml0 hP hK
  obtain ⟨rfl, hZ, hh⟩ := hP
  have hx := Bd.exec
  have hby := Bd.bytes
  have hml : c.maxLocals = 3 := hml0
  have hown : s.vm.findClass "com/example/ratchetbook/ratchetbook/tariff/AnnualMinimum" = some m.cls := findClass_of_methodNamed Bd.named
  have hnm := (name_of_methodNamed Bd.named Bd.method).1
  have hlk := BodyLoose.notSynchronized Bd
  have X0 : Stand p l e ({ frames := 1, cells := 0, slots := 0, locals := 12 } : Room) s m #[(.long (2 : Int64)), (.ref a1)] below meth c s₁ [] 0 0 := Stand.of_body Bd
  have e0 : s₁.heap = h0 := by rw [← hh, Bd.state]; rfl
  have N := Fr.nil n0
  obtain ⟨G, hG⟩ : ∃ G : State → JFrame → Prop, G = OwnG p e below s ({ frames := 1, cells := 0, slots := 0, locals := 12 } : Room).cells ({ frames := 1, cells := 0, slots := 0, locals := 12 } : Room).slots (Q_rm7_1 Z a1 h0 n0 w_FEBRUARY wE) := ⟨_, rfl⟩
  have gb : ∀ {T T' : State} {g g' : JFrame}, (∀ t, Steps p.tables e below (T'.setTop g') t → Steps p.tables e below (T.setTop g) t) → G T' g' → G T g := by subst hG; exact fun k h => own_by k h
  have go : ∀ {T : State} {locs : List Loc} {cells slots : Nat} {g : JFrame} {v : Option Value}, Stand p l e ({ frames := 1, cells := 0, slots := 0, locals := 12 } : Room) s m #[(.long (2 : Int64)), (.ref a1)] below meth c T locs cells slots → (meth.sig.returnType = none → v = none) → (∀ fs, (∀ (f : JFrame) (acts : List Action), f.method = m → f.locked = none → f.entered = [] → (doReturn e (T.setTop f) acts v).1 = T.setFrames fs) → Steps p.tables e below (T.setTop g) (T.setFrames fs)) → (Q_rm7_1 Z a1 h0 n0 w_FEBRUARY wE) v T.heap locs → cells ≤ ({ frames := 1, cells := 0, slots := 0, locals := 12 } : Room).cells → slots ≤ ({ frames := 1, cells := 0, slots := 0, locals := 12 } : Room).slots → G T g := by subst hG; exact fun X h1 h2 h3 h4 h5 => own_out X hlk h1 h2 h3 h4 h5
  show OwnG p e below s ({ frames := 1, cells := 0, slots := 0, locals := 12 } : Room).cells ({ frames := 1, cells := 0, slots := 0, locals := 12 } : Room).slots (Q_rm7_1 Z a1 h0 n0 w_FEBRUARY wE) s₁ (entryFrame m #[(.long (2 : Int64)), (.ref a1)] 3)
  rw [← hG, ef_rm7_1 m (2 : Int64) a1]
  clear hG
  show G s₁ (mkF m 0 #[.val (.long (2 : Int64)), .second, .val (.ref a1)] [])
  refine gb (fun _ k => XS.lloadN X0.here hx rfl (hb hby d7_0) rfl (XS.lconst X0.here hx rfl (hb hby d7_1) (XS.lcmp X0.here hx rfl (hb hby d7_2) rfl (XS.ifNo X0.here hx rfl (hb hby d7_3) rfl ((if0 _ _).trans (flt (fun q => (by decide : ¬ ((2 : Int64) < (1 : Int64))) ((own_lt _ _).mp q))).1) (XS.lloadN X0.here hx rfl (hb hby d7_6) rfl k))))) ?_
  show G s₁ (mkF m 7 #[jv 2, .second, rv a1] [.long 2])
  refine gb (X0.ldc2Long hx hown (mvT hZ (ow hw 36 rfl)) (g := (mkF m 7 #[jv 2, .second, rv a1] [.long 2])) rfl (hb hby d7_7)) ?_
  show G s₁ (mkF m 10 #[jv 2, .second, rv a1] [.long 12, .long 2])
  refine gb (fun _ k => XS.lcmp X0.here hx rfl (hb hby d7_10) rfl (XS.ifYes X0.here hx rfl (pc0 := 11) (pc' := 29) rfl (hb hby d7_11) rfl ((if0 _ _).trans (flt (fun q => (by decide : ¬ ((12 : Int64) < (2 : Int64))) ((own_gt _ _).mp q))).2.2.2) (by decide) (by decide) (XS.lloadN X0.here hx rfl (hb hby d7_29) rfl (XS.l2i X0.here hx rfl (hb hby d7_30) rfl k)))) ?_
  show G s₁ (mkF m 31 #[jv 2, .second, rv a1] [.int 2])
  obtain ⟨_, _, ⟨T1, Lz1, kz1, nz1⟩, -, X1, ⟨Lc1, hQ1, lq1, yq1, zq1⟩, st1⟩ := Jvm.LawKit.callS X0 hx (y := (⟨"java/time/Month", "of", "(I)Ljava/time/Month;"⟩ : MethodName)) hown (mvT hZ (ow hw 37 rfl)) (mvT hZ (ow hw 38 rfl)) (mvT hZ (ow hw 39 rfl)) (mvT hZ (ow hw 40 rfl)) (by decide) (backOf (W := 0) (rm8_1 l Z a0 hw [] h0 n0 O w_FEBRUARY wE cE S_E ArE szE hel) hZ (ow hw 40 rfl) (ow hw 39 rfl) (by decide) (by decide)) (g := (mkF m 31 #[jv 2, .second, rv a1] [.int 2])) rfl (by rw [hml]; rfl) (argsL := [(.int (2 : Int32))]) (rest := []) (lenOf pd_4 rfl) rfl (by show 2 * 0 + _ ≤ _; exact Nat.le_of_eq rfl) (hb hby d7_31) (fun _ _ => ⟨rfl, e0, (by decide : 0 + 0 ≤ _), (by decide : 0 + 0 ≤ _)⟩)
  dsimp only [Pt.U, Pt.locs, Pt.cells, Pt.slots] at X1 lq1 yq1 zq1 st1 hQ1
  subst lq1 yq1 zq1
  obtain ⟨rfl, rfl, e1⟩ := hQ1
  try rw [List.append_nil] at X1
  refine gb st1 ?_
  show G T1 (mkF m 34 #[jv 2, .second, rv a1] [.ref w_FEBRUARY])
  exact go X1 (v := (some (.ref w_FEBRUARY))) (fun h => by rw [Bd.returns] at h; cases h) (fun fs hr => retOut X1 hx Bd.returns rfl (Or.inr (Or.inr (Or.inr (Or.inr ⟨rfl, rfl, rfl⟩)))) (hb hby d7_34) hr) (⟨rfl, rfl, e1⟩) (by decide) (by decide)
def Q_rm9_1 (Z : State) (h0 : Heap) (n0 : Nat) (w_FEBRUARY : Addr) : Option Value → Heap → List Loc → Prop := fun v h L => v = some (.ref w_FEBRUARY) ∧ L = [] ∧ h = h0
set_option maxRecDepth 65536 in
set_option maxHeartbeats 40000000 in
theorem rm9_1 (l : Launch) (Z : State) (a0 : Array Value) (hw : ∀ d ∈ tables_1, d.before a0 Z = true) (ws : List Jvm.Cond) (h0 : Heap) (n0 : Nat) (O : Old Z n0 h0) (w_FEBRUARY : Addr) (S_FEBRUARY : Sta Z Z.heap "java/time/Month" "FEBRUARY" "Ljava/time/Month;" (.ref w_FEBRUARY)) :
    MetFree l (⟨"com/example/ratchetbook/ratchetbook/tariff/AnnualMinimumMonthNumberedPinLaw", "expected", "(I)Ljava/time/Month;"⟩ : MethodName) (head1 (Jvm.Cond.code (⟨"com/example/ratchetbook/ratchetbook/tariff/AnnualMinimumMonthNumberedPinLaw", "expected", "(I)Ljava/time/Month;"⟩ : MethodName) method_3_code 1 (some (.object "java/time/Month")) :: ws) ({ frames := 0, cells := 0, slots := 0, locals := 0 } : Room)) (fun a U => a = #[(.int (2 : Int32))] ∧ Z.Warmed39 U.vm ∧ U.heap = h0) (fun _ _ _ _ _ => True) (fun _ U o U' => ∃ v L, o = .returned v ∧ (Q_rm9_1 Z h0 n0 w_FEBRUARY) v U'.heap L ∧ FrameEnd U o U' L ({ frames := 0, cells := 0, slots := 0, locals := 0 } : Room).cells ({ frames := 0, cells := 0, slots := 0, locals := 0 } : Room).slots) := by
  refine MetFree.of_bodySF (plainFor_of_name pn_4) hisR ?_
  intro p e s m args below meth c s₁ Bd hml0 hP hK
  obtain ⟨rfl, hZ, hh⟩ := hP
  have hx := Bd.exec
  have hby := Bd.bytes
  have hml : c.maxLocals = 1 := hml0
  have hown : s.vm.findClass "com/example/ratchetbook/ratchetbook/tariff/AnnualMinimumMonthNumberedPinLaw" = some m.cls := findClass_of_methodNamed Bd.named
  have hnm := (name_of_methodNamed Bd.named Bd.method).1
  have hlk := BodyLoose.notSynchronized Bd
  have X0 : Stand p l e ({ frames := 0, cells := 0, slots := 0, locals := 0 } : Room) s m #[(.int (2 : Int32))] below meth c s₁ [] 0 0 := Stand.of_body Bd
  have e0 : s₁.heap = h0 := by rw [← hh, Bd.state]; rfl
  have N := Fr.nil n0
  obtain ⟨G, hG⟩ : ∃ G : State → JFrame → Prop, G = OwnG p e below s ({ frames := 0, cells := 0, slots := 0, locals := 0 } : Room).cells ({ frames := 0, cells := 0, slots := 0, locals := 0 } : Room).slots (Q_rm9_1 Z h0 n0 w_FEBRUARY) := ⟨_, rfl⟩
  have gb : ∀ {T T' : State} {g g' : JFrame}, (∀ t, Steps p.tables e below (T'.setTop g') t → Steps p.tables e below (T.setTop g) t) → G T' g' → G T g := by subst hG; exact fun k h => own_by k h
  have go : ∀ {T : State} {locs : List Loc} {cells slots : Nat} {g : JFrame} {v : Option Value}, Stand p l e ({ frames := 0, cells := 0, slots := 0, locals := 0 } : Room) s m #[(.int (2 : Int32))] below meth c T locs cells slots → (meth.sig.returnType = none → v = none) → (∀ fs, (∀ (f : JFrame) (acts : List Action), f.method = m → f.locked = none → f.entered = [] → (doReturn e (T.setTop f) acts v).1 = T.setFrames fs) → Steps p.tables e below (T.setTop g) (T.setFrames fs)) → (Q_rm9_1 Z h0 n0 w_FEBRUARY) v T.heap locs → cells ≤ ({ frames := 0, cells := 0, slots := 0, locals := 0 } : Room).cells → slots ≤ ({ frames := 0, cells := 0, slots := 0, locals := 0 } : Room).slots → G T g := by subst hG; exact fun X h1 h2 h3 h4 h5 => own_out X hlk h1 h2 h3 h4 h5
  show OwnG p e below s ({ frames := 0, cells := 0, slots := 0, locals := 0 } : Room).cells ({ frames := 0, cells := 0, slots := 0, locals := 0 } : Room).slots (Q_rm9_1 Z h0 n0 w_FEBRUARY) s₁ (entryFrame m #[(.int (2 : Int32))] 1)
  rw [← hG, ef_rm9_1 m (2 : Int32)]
  clear hG
  show G s₁ (mkF m 0 #[.val (.int (2 : Int32))] [])
  refine gb (fun _ k => XS.iloadN X0.here hx rfl (hb hby d9_0) rfl (XS.iconst X0.here hx rfl (hb hby d9_1) (XS.icmpYes X0.here hx rfl (pc0 := 2) (pc' := 9) rfl (hb hby d9_2) rfl (feq (by decide : ¬ ((2 : Int32) = (1 : Int32)))).2 (by decide) (by decide) (XS.iloadN X0.here hx rfl (hb hby d9_9) rfl (XS.iconst X0.here hx rfl (hb hby d9_10) (XS.icmpNo X0.here hx rfl (hb hby d9_11) rfl (teq (by decide : (2 : Int32) = (2 : Int32))).2 k)))))) ?_
  show G s₁ (mkF m 14 #[iv 2] [])
  obtain ⟨T1, X1, e1, st1⟩ := getS2 X0 hx hZ hown (host := "") (Or.inl (ow hw 51 rfl)) Via.refl e0 (S_FEBRUARY.ext O.2) (g := (mkF m 14 #[iv 2] [])) rfl (hb hby d9_14)
  refine gb st1 ?_
  show G T1 (mkF m 17 #[iv 2] [.ref w_FEBRUARY])
  exact go X1 (v := (some (.ref w_FEBRUARY))) (fun h => by rw [Bd.returns] at h; cases h) (fun fs hr => retOut X1 hx Bd.returns rfl (Or.inr (Or.inr (Or.inr (Or.inr ⟨rfl, rfl, rfl⟩)))) (hb hby d9_17) hr) (⟨rfl, rfl, e1⟩) (by decide) (by decide)
def Q_rm8_2 (Z : State) (h0 : Heap) (n0 : Nat) (w_MARCH : Addr) (wE : Addr) : Option Value → Heap → List Loc → Prop := fun v h L => v = some (.ref w_MARCH) ∧ L = [] ∧ h = h0
set_option maxRecDepth 65536 in
set_option maxHeartbeats 40000000 in
theorem rm8_2 (l : Launch) (Z : State) (a0 : Array Value) (hw : ∀ d ∈ tables_1, d.before a0 Z = true) (ws : List Jvm.Cond) (h0 : Heap) (n0 : Nat) (O : Old Z n0 h0) (w_MARCH : Addr) (wE : Addr) (cE : Cell) (S_E : Sta Z Z.heap "java/time/Month" "ENUMS" "[Ljava/time/Month;" (.ref wE)) (ArE : Arr Z Z.heap wE cE (.object "java/time/Month")) (szE : cE.slots.size = (12 : Int32).toNatClampNeg) (hel : cE.slots[((2 : Int32)).toNatClampNeg]? = some (.ref w_MARCH)) :
    MetFree l (⟨"java/time/Month", "of", "(I)Ljava/time/Month;"⟩ : MethodName) (head1 (Jvm.Cond.code (⟨"java/time/Month", "of", "(I)Ljava/time/Month;"⟩ : MethodName) jdk_2329_method_4_code 1 (some (.object "java/time/Month")) :: ws) ({ frames := 0, cells := 0, slots := 0, locals := 0 } : Room)) (fun a U => a = #[(.int (3 : Int32))] ∧ Z.Warmed39 U.vm ∧ U.heap = h0) (fun _ _ _ _ _ => True) (fun _ U o U' => ∃ v L, o = .returned v ∧ (Q_rm8_2 Z h0 n0 w_MARCH wE) v U'.heap L ∧ FrameEnd U o U' L ({ frames := 0, cells := 0, slots := 0, locals := 0 } : Room).cells ({ frames := 0, cells := 0, slots := 0, locals := 0 } : Room).slots) := by
  refine MetFree.of_bodySF (plainFor_of_name pn_2) hisR ?_
  intro p e s m args below meth c s₁ Bd hml0 hP hK
  obtain ⟨rfl, hZ, hh⟩ := hP
  have hx := Bd.exec
  have hby := Bd.bytes
  have hml : c.maxLocals = 1 := hml0
  have hown : s.vm.findClass "java/time/Month" = some m.cls := findClass_of_methodNamed Bd.named
  have hnm := (name_of_methodNamed Bd.named Bd.method).1
  have hlk := BodyLoose.notSynchronized Bd
  have X0 : Stand p l e ({ frames := 0, cells := 0, slots := 0, locals := 0 } : Room) s m #[(.int (3 : Int32))] below meth c s₁ [] 0 0 := Stand.of_body Bd
  have e0 : s₁.heap = h0 := by rw [← hh, Bd.state]; rfl
  have N := Fr.nil n0
  obtain ⟨G, hG⟩ : ∃ G : State → JFrame → Prop, G = OwnG p e below s ({ frames := 0, cells := 0, slots := 0, locals := 0 } : Room).cells ({ frames := 0, cells := 0, slots := 0, locals := 0 } : Room).slots (Q_rm8_2 Z h0 n0 w_MARCH wE) := ⟨_, rfl⟩
  have gb : ∀ {T T' : State} {g g' : JFrame}, (∀ t, Steps p.tables e below (T'.setTop g') t → Steps p.tables e below (T.setTop g) t) → G T' g' → G T g := by subst hG; exact fun k h => own_by k h
  have go : ∀ {T : State} {locs : List Loc} {cells slots : Nat} {g : JFrame} {v : Option Value}, Stand p l e ({ frames := 0, cells := 0, slots := 0, locals := 0 } : Room) s m #[(.int (3 : Int32))] below meth c T locs cells slots → (meth.sig.returnType = none → v = none) → (∀ fs, (∀ (f : JFrame) (acts : List Action), f.method = m → f.locked = none → f.entered = [] → (doReturn e (T.setTop f) acts v).1 = T.setFrames fs) → Steps p.tables e below (T.setTop g) (T.setFrames fs)) → (Q_rm8_2 Z h0 n0 w_MARCH wE) v T.heap locs → cells ≤ ({ frames := 0, cells := 0, slots := 0, locals := 0 } : Room).cells → slots ≤ ({ frames := 0, cells := 0, slots := 0, locals := 0 } : Room).slots → G T g := by subst hG; exact fun X h1 h2 h3 h4 h5 => own_out X hlk h1 h2 h3 h4 h5
  show OwnG p e below s ({ frames := 0, cells := 0, slots := 0, locals := 0 } : Room).cells ({ frames := 0, cells := 0, slots := 0, locals := 0 } : Room).slots (Q_rm8_2 Z h0 n0 w_MARCH wE) s₁ (entryFrame m #[(.int (3 : Int32))] 1)
  rw [← hG, ef_rm8_2 m (3 : Int32)]
  clear hG
  show G s₁ (mkF m 0 #[.val (.int (3 : Int32))] [])
  refine gb (fun _ k => XS.iloadN X0.here hx rfl (hb hby d8_0) rfl (XS.iconst X0.here hx rfl (hb hby d8_1) (XS.icmpNo X0.here hx rfl (hb hby d8_2) rfl (flt (by decide : ¬ ((3 : Int32) < (1 : Int32)))).1 (XS.iloadN X0.here hx rfl (hb hby d8_5) rfl (XS.bipush X0.here hx rfl (hb hby d8_6) (XS.icmpYes X0.here hx rfl (pc0 := 8) (pc' := 38) rfl (hb hby d8_8) rfl (flt (by decide : ¬ ((12 : Int32) < (3 : Int32)))).2.2.2 (by decide) (by decide) k)))))) ?_
  show G s₁ (mkF m 38 #[iv 3] [])
  obtain ⟨T1, X1, e1, st1⟩ := getS2 X0 hx hZ hown (host := "") (Or.inl (ow hw 41 rfl)) Via.refl e0 (S_E.ext O.2) (g := (mkF m 38 #[iv 3] [])) rfl (hb hby d8_38)
  refine gb st1 ?_
  show G T1 (mkF m 41 #[iv 3] [.ref wE])
  refine gb (fun _ k => XS.iloadN X1.here hx rfl (hb hby d8_41) rfl (XS.iconst X1.here hx rfl (hb hby d8_42) (XS.isub X1.here hx rfl (hb hby d8_43) rfl k))) ?_
  show G T1 (mkF m 44 #[iv 3] [.int 2, .ref wE])
  have ArE' := ArE.ext O.2
  refine gb (X1.aaload hx (j := (2 : Int32)) (v := .ref w_MARCH) (by rw [e1]; exact ArE'.1) (State.isArrayOf_alike hZ.alike ArE'.2.1) rfl ArE'.2.2 (inb_of szE ⟨by decide, by decide⟩) hel (g := (mkF m 44 #[iv 3] [.int 2, .ref wE])) rfl rfl (hb hby d8_44)) ?_
  show G T1 (mkF m 45 #[iv 3] [.ref w_MARCH])
  exact go X1 (v := (some (.ref w_MARCH))) (fun h => by rw [Bd.returns] at h; cases h) (fun fs hr => retOut X1 hx Bd.returns rfl (Or.inr (Or.inr (Or.inr (Or.inr ⟨rfl, rfl, rfl⟩)))) (hb hby d8_45) hr) (⟨rfl, rfl, e1⟩) (by decide) (by decide)
def Q_rm7_2 (Z : State) (a1 : Addr) (h0 : Heap) (n0 : Nat) (w_MARCH : Addr) (wE : Addr) : Option Value → Heap → List Loc → Prop := fun v h L => v = some (.ref w_MARCH) ∧ L = [] ∧ h = h0
set_option maxRecDepth 65536 in
set_option maxHeartbeats 40000000 in
theorem rm7_2 (l : Launch) (Z : State) (a0 : Array Value) (hw : ∀ d ∈ tables_1, d.before a0 Z = true) (ws : List Jvm.Cond) (a1 : Addr) (h0 : Heap) (n0 : Nat) (O : Old Z n0 h0) (w_MARCH : Addr) (wE : Addr) (cE : Cell) (S_E : Sta Z Z.heap "java/time/Month" "ENUMS" "[Ljava/time/Month;" (.ref wE)) (ArE : Arr Z Z.heap wE cE (.object "java/time/Month")) (szE : cE.slots.size = (12 : Int32).toNatClampNeg) (hel : cE.slots[((2 : Int32)).toNatClampNeg]? = some (.ref w_MARCH)) :
    MetFree l (⟨"com/example/ratchetbook/ratchetbook/tariff/AnnualMinimum", "monthNumbered", "(JLjava/lang/String;)Ljava/time/Month;"⟩ : MethodName) (head1 (Jvm.Cond.code (⟨"com/example/ratchetbook/ratchetbook/tariff/AnnualMinimum", "monthNumbered", "(JLjava/lang/String;)Ljava/time/Month;"⟩ : MethodName) prog_84_method_2_code 3 (some (.object "java/time/Month")) :: ws) ({ frames := 1, cells := 0, slots := 0, locals := 12 } : Room)) (fun a U => a = #[(.long (3 : Int64)), (.ref a1)] ∧ Z.Warmed39 U.vm ∧ U.heap = h0) (fun _ _ _ _ _ => True) (fun _ U o U' => ∃ v L, o = .returned v ∧ (Q_rm7_2 Z a1 h0 n0 w_MARCH wE) v U'.heap L ∧ FrameEnd U o U' L ({ frames := 1, cells := 0, slots := 0, locals := 12 } : Room).cells ({ frames := 1, cells := 0, slots := 0, locals := 12 } : Room).slots) := by
  refine MetFree.of_bodySF (plainFor_of_name pn_3) hisR ?_
  intro p e s m args below meth c s₁ Bd hml0 hP hK
  obtain ⟨rfl, hZ, hh⟩ := hP
  have hx := Bd.exec
  have hby := Bd.bytes
  have hml : c.maxLocals = 3 := hml0
  have hown : s.vm.findClass "com/example/ratchetbook/ratchetbook/tariff/AnnualMinimum" = some m.cls := findClass_of_methodNamed Bd.named
  have hnm := (name_of_methodNamed Bd.named Bd.method).1
  have hlk := BodyLoose.notSynchronized Bd
  have X0 : Stand p l e ({ frames := 1, cells := 0, slots := 0, locals := 12 } : Room) s m #[(.long (3 : Int64)), (.ref a1)] below meth c s₁ [] 0 0 := Stand.of_body Bd
  have e0 : s₁.heap = h0 := by rw [← hh, Bd.state]; rfl
  have N := Fr.nil n0
  obtain ⟨G, hG⟩ : ∃ G : State → JFrame → Prop, G = OwnG p e below s ({ frames := 1, cells := 0, slots := 0, locals := 12 } : Room).cells ({ frames := 1, cells := 0, slots := 0, locals := 12 } : Room).slots (Q_rm7_2 Z a1 h0 n0 w_MARCH wE) := ⟨_, rfl⟩
  have gb : ∀ {T T' : State} {g g' : JFrame}, (∀ t, Steps p.tables e below (T'.setTop g') t → Steps p.tables e below (T.setTop g) t) → G T' g' → G T g := by subst hG; exact fun k h => own_by k h
  have go : ∀ {T : State} {locs : List Loc} {cells slots : Nat} {g : JFrame} {v : Option Value}, Stand p l e ({ frames := 1, cells := 0, slots := 0, locals := 12 } : Room) s m #[(.long (3 : Int64)), (.ref a1)] below meth c T locs cells slots → (meth.sig.returnType = none → v = none) → (∀ fs, (∀ (f : JFrame) (acts : List Action), f.method = m → f.locked = none → f.entered = [] → (doReturn e (T.setTop f) acts v).1 = T.setFrames fs) → Steps p.tables e below (T.setTop g) (T.setFrames fs)) → (Q_rm7_2 Z a1 h0 n0 w_MARCH wE) v T.heap locs → cells ≤ ({ frames := 1, cells := 0, slots := 0, locals := 12 } : Room).cells → slots ≤ ({ frames := 1, cells := 0, slots := 0, locals := 12 } : Room).slots → G T g := by subst hG; exact fun X h1 h2 h3 h4 h5 => own_out X hlk h1 h2 h3 h4 h5
  show OwnG p e below s ({ frames := 1, cells := 0, slots := 0, locals := 12 } : Room).cells ({ frames := 1, cells := 0, slots := 0, locals := 12 } : Room).slots (Q_rm7_2 Z a1 h0 n0 w_MARCH wE) s₁ (entryFrame m #[(.long (3 : Int64)), (.ref a1)] 3)
  rw [← hG, ef_rm7_2 m (3 : Int64) a1]
  clear hG
  show G s₁ (mkF m 0 #[.val (.long (3 : Int64)), .second, .val (.ref a1)] [])
  refine gb (fun _ k => XS.lloadN X0.here hx rfl (hb hby d7_0) rfl (XS.lconst X0.here hx rfl (hb hby d7_1) (XS.lcmp X0.here hx rfl (hb hby d7_2) rfl (XS.ifNo X0.here hx rfl (hb hby d7_3) rfl ((if0 _ _).trans (flt (fun q => (by decide : ¬ ((3 : Int64) < (1 : Int64))) ((own_lt _ _).mp q))).1) (XS.lloadN X0.here hx rfl (hb hby d7_6) rfl k))))) ?_
  show G s₁ (mkF m 7 #[jv 3, .second, rv a1] [.long 3])
  refine gb (X0.ldc2Long hx hown (mvT hZ (ow hw 36 rfl)) (g := (mkF m 7 #[jv 3, .second, rv a1] [.long 3])) rfl (hb hby d7_7)) ?_
  show G s₁ (mkF m 10 #[jv 3, .second, rv a1] [.long 12, .long 3])
  refine gb (fun _ k => XS.lcmp X0.here hx rfl (hb hby d7_10) rfl (XS.ifYes X0.here hx rfl (pc0 := 11) (pc' := 29) rfl (hb hby d7_11) rfl ((if0 _ _).trans (flt (fun q => (by decide : ¬ ((12 : Int64) < (3 : Int64))) ((own_gt _ _).mp q))).2.2.2) (by decide) (by decide) (XS.lloadN X0.here hx rfl (hb hby d7_29) rfl (XS.l2i X0.here hx rfl (hb hby d7_30) rfl k)))) ?_
  show G s₁ (mkF m 31 #[jv 3, .second, rv a1] [.int 3])
  obtain ⟨_, _, ⟨T1, Lz1, kz1, nz1⟩, -, X1, ⟨Lc1, hQ1, lq1, yq1, zq1⟩, st1⟩ := Jvm.LawKit.callS X0 hx (y := (⟨"java/time/Month", "of", "(I)Ljava/time/Month;"⟩ : MethodName)) hown (mvT hZ (ow hw 37 rfl)) (mvT hZ (ow hw 38 rfl)) (mvT hZ (ow hw 39 rfl)) (mvT hZ (ow hw 40 rfl)) (by decide) (backOf (W := 0) (rm8_2 l Z a0 hw [] h0 n0 O w_MARCH wE cE S_E ArE szE hel) hZ (ow hw 40 rfl) (ow hw 39 rfl) (by decide) (by decide)) (g := (mkF m 31 #[jv 3, .second, rv a1] [.int 3])) rfl (by rw [hml]; rfl) (argsL := [(.int (3 : Int32))]) (rest := []) (lenOf pd_4 rfl) rfl (by show 2 * 0 + _ ≤ _; exact Nat.le_of_eq rfl) (hb hby d7_31) (fun _ _ => ⟨rfl, e0, (by decide : 0 + 0 ≤ _), (by decide : 0 + 0 ≤ _)⟩)
  dsimp only [Pt.U, Pt.locs, Pt.cells, Pt.slots] at X1 lq1 yq1 zq1 st1 hQ1
  subst lq1 yq1 zq1
  obtain ⟨rfl, rfl, e1⟩ := hQ1
  try rw [List.append_nil] at X1
  refine gb st1 ?_
  show G T1 (mkF m 34 #[jv 3, .second, rv a1] [.ref w_MARCH])
  exact go X1 (v := (some (.ref w_MARCH))) (fun h => by rw [Bd.returns] at h; cases h) (fun fs hr => retOut X1 hx Bd.returns rfl (Or.inr (Or.inr (Or.inr (Or.inr ⟨rfl, rfl, rfl⟩)))) (hb hby d7_34) hr) (⟨rfl, rfl, e1⟩) (by decide) (by decide)
def Q_rm9_2 (Z : State) (h0 : Heap) (n0 : Nat) (w_MARCH : Addr) : Option Value → Heap → List Loc → Prop := fun v h L => v = some (.ref w_MARCH) ∧ L = [] ∧ h = h0
set_option maxRecDepth 65536 in
set_option maxHeartbeats 40000000 in
theorem rm9_2 (l : Launch) (Z : State) (a0 : Array Value) (hw : ∀ d ∈ tables_1, d.before a0 Z = true) (ws : List Jvm.Cond) (h0 : Heap) (n0 : Nat) (O : Old Z n0 h0) (w_MARCH : Addr) (S_MARCH : Sta Z Z.heap "java/time/Month" "MARCH" "Ljava/time/Month;" (.ref w_MARCH)) :
    MetFree l (⟨"com/example/ratchetbook/ratchetbook/tariff/AnnualMinimumMonthNumberedPinLaw", "expected", "(I)Ljava/time/Month;"⟩ : MethodName) (head1 (Jvm.Cond.code (⟨"com/example/ratchetbook/ratchetbook/tariff/AnnualMinimumMonthNumberedPinLaw", "expected", "(I)Ljava/time/Month;"⟩ : MethodName) method_3_code 1 (some (.object "java/time/Month")) :: ws) ({ frames := 0, cells := 0, slots := 0, locals := 0 } : Room)) (fun a U => a = #[(.int (3 : Int32))] ∧ Z.Warmed39 U.vm ∧ U.heap = h0) (fun _ _ _ _ _ => True) (fun _ U o U' => ∃ v L, o = .returned v ∧ (Q_rm9_2 Z h0 n0 w_MARCH) v U'.heap L ∧ FrameEnd U o U' L ({ frames := 0, cells := 0, slots := 0, locals := 0 } : Room).cells ({ frames := 0, cells := 0, slots := 0, locals := 0 } : Room).slots) := by
  refine MetFree.of_bodySF (plainFor_of_name pn_4) hisR ?_
  intro p e s m args below meth c s₁ Bd hml0 hP hK
  obtain ⟨rfl, hZ, hh⟩ := hP
  have hx := Bd.exec
  have hby := Bd.bytes
  have hml : c.maxLocals = 1 := hml0
  have hown : s.vm.findClass "com/example/ratchetbook/ratchetbook/tariff/AnnualMinimumMonthNumberedPinLaw" = some m.cls := findClass_of_methodNamed Bd.named
  have hnm := (name_of_methodNamed Bd.named Bd.method).1
  have hlk := BodyLoose.notSynchronized Bd
  have X0 : Stand p l e ({ frames := 0, cells := 0, slots := 0, locals := 0 } : Room) s m #[(.int (3 : Int32))] below meth c s₁ [] 0 0 := Stand.of_body Bd
  have e0 : s₁.heap = h0 := by rw [← hh, Bd.state]; rfl
  have N := Fr.nil n0
  obtain ⟨G, hG⟩ : ∃ G : State → JFrame → Prop, G = OwnG p e below s ({ frames := 0, cells := 0, slots := 0, locals := 0 } : Room).cells ({ frames := 0, cells := 0, slots := 0, locals := 0 } : Room).slots (Q_rm9_2 Z h0 n0 w_MARCH) := ⟨_, rfl⟩
  have gb : ∀ {T T' : State} {g g' : JFrame}, (∀ t, Steps p.tables e below (T'.setTop g') t → Steps p.tables e below (T.setTop g) t) → G T' g' → G T g := by subst hG; exact fun k h => own_by k h
  have go : ∀ {T : State} {locs : List Loc} {cells slots : Nat} {g : JFrame} {v : Option Value}, Stand p l e ({ frames := 0, cells := 0, slots := 0, locals := 0 } : Room) s m #[(.int (3 : Int32))] below meth c T locs cells slots → (meth.sig.returnType = none → v = none) → (∀ fs, (∀ (f : JFrame) (acts : List Action), f.method = m → f.locked = none → f.entered = [] → (doReturn e (T.setTop f) acts v).1 = T.setFrames fs) → Steps p.tables e below (T.setTop g) (T.setFrames fs)) → (Q_rm9_2 Z h0 n0 w_MARCH) v T.heap locs → cells ≤ ({ frames := 0, cells := 0, slots := 0, locals := 0 } : Room).cells → slots ≤ ({ frames := 0, cells := 0, slots := 0, locals := 0 } : Room).slots → G T g := by subst hG; exact fun X h1 h2 h3 h4 h5 => own_out X hlk h1 h2 h3 h4 h5
  show OwnG p e below s ({ frames := 0, cells := 0, slots := 0, locals := 0 } : Room).cells ({ frames := 0, cells := 0, slots := 0, locals := 0 } : Room).slots (Q_rm9_2 Z h0 n0 w_MARCH) s₁ (entryFrame m #[(.int (3 : Int32))] 1)
  rw [← hG, ef_rm9_2 m (3 : Int32)]
  clear hG
  show G s₁ (mkF m 0 #[.val (.int (3 : Int32))] [])
  refine gb (fun _ k => XS.iloadN X0.here hx rfl (hb hby d9_0) rfl (XS.iconst X0.here hx rfl (hb hby d9_1) (XS.icmpYes X0.here hx rfl (pc0 := 2) (pc' := 9) rfl (hb hby d9_2) rfl (feq (by decide : ¬ ((3 : Int32) = (1 : Int32)))).2 (by decide) (by decide) (XS.iloadN X0.here hx rfl (hb hby d9_9) rfl (XS.iconst X0.here hx rfl (hb hby d9_10) (XS.icmpYes X0.here hx rfl (pc0 := 11) (pc' := 18) rfl (hb hby d9_11) rfl (feq (by decide : ¬ ((3 : Int32) = (2 : Int32)))).2 (by decide) (by decide) k)))))) ?_
  show G s₁ (mkF m 18 #[iv 3] [])
  refine gb (fun _ k => XS.iloadN X0.here hx rfl (hb hby d9_18) rfl (XS.iconst X0.here hx rfl (hb hby d9_19) (XS.icmpNo X0.here hx rfl (hb hby d9_20) rfl (teq (by decide : (3 : Int32) = (3 : Int32))).2 k))) ?_
  show G s₁ (mkF m 23 #[iv 3] [])
  obtain ⟨T1, X1, e1, st1⟩ := getS2 X0 hx hZ hown (host := "") (Or.inl (ow hw 48 rfl)) Via.refl e0 (S_MARCH.ext O.2) (g := (mkF m 23 #[iv 3] [])) rfl (hb hby d9_23)
  refine gb st1 ?_
  show G T1 (mkF m 26 #[iv 3] [.ref w_MARCH])
  exact go X1 (v := (some (.ref w_MARCH))) (fun h => by rw [Bd.returns] at h; cases h) (fun fs hr => retOut X1 hx Bd.returns rfl (Or.inr (Or.inr (Or.inr (Or.inr ⟨rfl, rfl, rfl⟩)))) (hb hby d9_26) hr) (⟨rfl, rfl, e1⟩) (by decide) (by decide)
def Q_rm8_3 (Z : State) (h0 : Heap) (n0 : Nat) (w_APRIL : Addr) (wE : Addr) : Option Value → Heap → List Loc → Prop := fun v h L => v = some (.ref w_APRIL) ∧ L = [] ∧ h = h0
set_option maxRecDepth 65536 in
set_option maxHeartbeats 40000000 in
theorem rm8_3 (l : Launch) (Z : State) (a0 : Array Value) (hw : ∀ d ∈ tables_1, d.before a0 Z = true) (ws : List Jvm.Cond) (h0 : Heap) (n0 : Nat) (O : Old Z n0 h0) (w_APRIL : Addr) (wE : Addr) (cE : Cell) (S_E : Sta Z Z.heap "java/time/Month" "ENUMS" "[Ljava/time/Month;" (.ref wE)) (ArE : Arr Z Z.heap wE cE (.object "java/time/Month")) (szE : cE.slots.size = (12 : Int32).toNatClampNeg) (hel : cE.slots[((3 : Int32)).toNatClampNeg]? = some (.ref w_APRIL)) :
    MetFree l (⟨"java/time/Month", "of", "(I)Ljava/time/Month;"⟩ : MethodName) (head1 (Jvm.Cond.code (⟨"java/time/Month", "of", "(I)Ljava/time/Month;"⟩ : MethodName) jdk_2329_method_4_code 1 (some (.object "java/time/Month")) :: ws) ({ frames := 0, cells := 0, slots := 0, locals := 0 } : Room)) (fun a U => a = #[(.int (4 : Int32))] ∧ Z.Warmed39 U.vm ∧ U.heap = h0) (fun _ _ _ _ _ => True) (fun _ U o U' => ∃ v L, o = .returned v ∧ (Q_rm8_3 Z h0 n0 w_APRIL wE) v U'.heap L ∧ FrameEnd U o U' L ({ frames := 0, cells := 0, slots := 0, locals := 0 } : Room).cells ({ frames := 0, cells := 0, slots := 0, locals := 0 } : Room).slots) := by
  refine MetFree.of_bodySF (plainFor_of_name pn_2) hisR ?_
  intro p e s m args below meth c s₁ Bd hml0 hP hK
  obtain ⟨rfl, hZ, hh⟩ := hP
  have hx := Bd.exec
  have hby := Bd.bytes
  have hml : c.maxLocals = 1 := hml0
  have hown : s.vm.findClass "java/time/Month" = some m.cls := findClass_of_methodNamed Bd.named
  have hnm := (name_of_methodNamed Bd.named Bd.method).1
  have hlk := BodyLoose.notSynchronized Bd
  have X0 : Stand p l e ({ frames := 0, cells := 0, slots := 0, locals := 0 } : Room) s m #[(.int (4 : Int32))] below meth c s₁ [] 0 0 := Stand.of_body Bd
  have e0 : s₁.heap = h0 := by rw [← hh, Bd.state]; rfl
  have N := Fr.nil n0
  obtain ⟨G, hG⟩ : ∃ G : State → JFrame → Prop, G = OwnG p e below s ({ frames := 0, cells := 0, slots := 0, locals := 0 } : Room).cells ({ frames := 0, cells := 0, slots := 0, locals := 0 } : Room).slots (Q_rm8_3 Z h0 n0 w_APRIL wE) := ⟨_, rfl⟩
  have gb : ∀ {T T' : State} {g g' : JFrame}, (∀ t, Steps p.tables e below (T'.setTop g') t → Steps p.tables e below (T.setTop g) t) → G T' g' → G T g := by subst hG; exact fun k h => own_by k h
  have go : ∀ {T : State} {locs : List Loc} {cells slots : Nat} {g : JFrame} {v : Option Value}, Stand p l e ({ frames := 0, cells := 0, slots := 0, locals := 0 } : Room) s m #[(.int (4 : Int32))] below meth c T locs cells slots → (meth.sig.returnType = none → v = none) → (∀ fs, (∀ (f : JFrame) (acts : List Action), f.method = m → f.locked = none → f.entered = [] → (doReturn e (T.setTop f) acts v).1 = T.setFrames fs) → Steps p.tables e below (T.setTop g) (T.setFrames fs)) → (Q_rm8_3 Z h0 n0 w_APRIL wE) v T.heap locs → cells ≤ ({ frames := 0, cells := 0, slots := 0, locals := 0 } : Room).cells → slots ≤ ({ frames := 0, cells := 0, slots := 0, locals := 0 } : Room).slots → G T g := by subst hG; exact fun X h1 h2 h3 h4 h5 => own_out X hlk h1 h2 h3 h4 h5
  show OwnG p e below s ({ frames := 0, cells := 0, slots := 0, locals := 0 } : Room).cells ({ frames := 0, cells := 0, slots := 0, locals := 0 } : Room).slots (Q_rm8_3 Z h0 n0 w_APRIL wE) s₁ (entryFrame m #[(.int (4 : Int32))] 1)
  rw [← hG, ef_rm8_3 m (4 : Int32)]
  clear hG
  show G s₁ (mkF m 0 #[.val (.int (4 : Int32))] [])
  refine gb (fun _ k => XS.iloadN X0.here hx rfl (hb hby d8_0) rfl (XS.iconst X0.here hx rfl (hb hby d8_1) (XS.icmpNo X0.here hx rfl (hb hby d8_2) rfl (flt (by decide : ¬ ((4 : Int32) < (1 : Int32)))).1 (XS.iloadN X0.here hx rfl (hb hby d8_5) rfl (XS.bipush X0.here hx rfl (hb hby d8_6) (XS.icmpYes X0.here hx rfl (pc0 := 8) (pc' := 38) rfl (hb hby d8_8) rfl (flt (by decide : ¬ ((12 : Int32) < (4 : Int32)))).2.2.2 (by decide) (by decide) k)))))) ?_
  show G s₁ (mkF m 38 #[iv 4] [])
  obtain ⟨T1, X1, e1, st1⟩ := getS2 X0 hx hZ hown (host := "") (Or.inl (ow hw 41 rfl)) Via.refl e0 (S_E.ext O.2) (g := (mkF m 38 #[iv 4] [])) rfl (hb hby d8_38)
  refine gb st1 ?_
  show G T1 (mkF m 41 #[iv 4] [.ref wE])
  refine gb (fun _ k => XS.iloadN X1.here hx rfl (hb hby d8_41) rfl (XS.iconst X1.here hx rfl (hb hby d8_42) (XS.isub X1.here hx rfl (hb hby d8_43) rfl k))) ?_
  show G T1 (mkF m 44 #[iv 4] [.int 3, .ref wE])
  have ArE' := ArE.ext O.2
  refine gb (X1.aaload hx (j := (3 : Int32)) (v := .ref w_APRIL) (by rw [e1]; exact ArE'.1) (State.isArrayOf_alike hZ.alike ArE'.2.1) rfl ArE'.2.2 (inb_of szE ⟨by decide, by decide⟩) hel (g := (mkF m 44 #[iv 4] [.int 3, .ref wE])) rfl rfl (hb hby d8_44)) ?_
  show G T1 (mkF m 45 #[iv 4] [.ref w_APRIL])
  exact go X1 (v := (some (.ref w_APRIL))) (fun h => by rw [Bd.returns] at h; cases h) (fun fs hr => retOut X1 hx Bd.returns rfl (Or.inr (Or.inr (Or.inr (Or.inr ⟨rfl, rfl, rfl⟩)))) (hb hby d8_45) hr) (⟨rfl, rfl, e1⟩) (by decide) (by decide)
def Q_rm7_3 (Z : State) (a1 : Addr) (h0 : Heap) (n0 : Nat) (w_APRIL : Addr) (wE : Addr) : Option Value → Heap → List Loc → Prop := fun v h L => v = some (.ref w_APRIL) ∧ L = [] ∧ h = h0
set_option maxRecDepth 65536 in
set_option maxHeartbeats 40000000 in
theorem rm7_3 (l : Launch) (Z : State) (a0 : Array Value) (hw : ∀ d ∈ tables_1, d.before a0 Z = true) (ws : List Jvm.Cond) (a1 : Addr) (h0 : Heap) (n0 : Nat) (O : Old Z n0 h0) (w_APRIL : Addr) (wE : Addr) (cE : Cell) (S_E : Sta Z Z.heap "java/time/Month" "ENUMS" "[Ljava/time/Month;" (.ref wE)) (ArE : Arr Z Z.heap wE cE (.object "java/time/Month")) (szE : cE.slots.size = (12 : Int32).toNatClampNeg) (hel : cE.slots[((3 : Int32)).toNatClampNeg]? = some (.ref w_APRIL)) :
    MetFree l (⟨"com/example/ratchetbook/ratchetbook/tariff/AnnualMinimum", "monthNumbered", "(JLjava/lang/String;)Ljava/time/Month;"⟩ : MethodName) (head1 (Jvm.Cond.code (⟨"com/example/ratchetbook/ratchetbook/tariff/AnnualMinimum", "monthNumbered", "(JLjava/lang/String;)Ljava/time/Month;"⟩ : MethodName) prog_84_method_2_code 3 (some (.object "java/time/Month")) :: ws) ({ frames := 1, cells := 0, slots := 0, locals := 12 } : Room)) (fun a U => a = #[(.long (4 : Int64)), (.ref a1)] ∧ Z.Warmed39 U.vm ∧ U.heap = h0) (fun _ _ _ _ _ => True) (fun _ U o U' => ∃ v L, o = .returned v ∧ (Q_rm7_3 Z a1 h0 n0 w_APRIL wE) v U'.heap L ∧ FrameEnd U o U' L ({ frames := 1, cells := 0, slots := 0, locals := 12 } : Room).cells ({ frames := 1, cells := 0, slots := 0, locals := 12 } : Room).slots) := by
  refine MetFree.of_bodySF (plainFor_of_name pn_3) hisR ?_
  intro p e s m args below meth c s₁ Bd hml0 hP hK
  obtain ⟨rfl, hZ, hh⟩ := hP
  have hx := Bd.exec
  have hby := Bd.bytes
  have hml : c.maxLocals = 3 := hml0
  have hown : s.vm.findClass "com/example/ratchetbook/ratchetbook/tariff/AnnualMinimum" = some m.cls := findClass_of_methodNamed Bd.named
  have hnm := (name_of_methodNamed Bd.named Bd.method).1
  have hlk := BodyLoose.notSynchronized Bd
  have X0 : Stand p l e ({ frames := 1, cells := 0, slots := 0, locals := 12 } : Room) s m #[(.long (4 : Int64)), (.ref a1)] below meth c s₁ [] 0 0 := Stand.of_body Bd
  have e0 : s₁.heap = h0 := by rw [← hh, Bd.state]; rfl
  have N := Fr.nil n0
  obtain ⟨G, hG⟩ : ∃ G : State → JFrame → Prop, G = OwnG p e below s ({ frames := 1, cells := 0, slots := 0, locals := 12 } : Room).cells ({ frames := 1, cells := 0, slots := 0, locals := 12 } : Room).slots (Q_rm7_3 Z a1 h0 n0 w_APRIL wE) := ⟨_, rfl⟩
  have gb : ∀ {T T' : State} {g g' : JFrame}, (∀ t, Steps p.tables e below (T'.setTop g') t → Steps p.tables e below (T.setTop g) t) → G T' g' → G T g := by subst hG; exact fun k h => own_by k h
  have go : ∀ {T : State} {locs : List Loc} {cells slots : Nat} {g : JFrame} {v : Option Value}, Stand p l e ({ frames := 1, cells := 0, slots := 0, locals := 12 } : Room) s m #[(.long (4 : Int64)), (.ref a1)] below meth c T locs cells slots → (meth.sig.returnType = none → v = none) → (∀ fs, (∀ (f : JFrame) (acts : List Action), f.method = m → f.locked = none → f.entered = [] → (doReturn e (T.setTop f) acts v).1 = T.setFrames fs) → Steps p.tables e below (T.setTop g) (T.setFrames fs)) → (Q_rm7_3 Z a1 h0 n0 w_APRIL wE) v T.heap locs → cells ≤ ({ frames := 1, cells := 0, slots := 0, locals := 12 } : Room).cells → slots ≤ ({ frames := 1, cells := 0, slots := 0, locals := 12 } : Room).slots → G T g := by subst hG; exact fun X h1 h2 h3 h4 h5 => own_out X hlk h1 h2 h3 h4 h5
  show OwnG p e below s ({ frames := 1, cells := 0, slots := 0, locals := 12 } : Room).cells ({ frames := 1, cells := 0, slots := 0, locals := 12 } : Room).slots (Q_rm7_3 Z a1 h0 n0 w_APRIL wE) s₁ (entryFrame m #[(.long (4 : Int64)), (.ref a1)] 3)
  rw [← hG, ef_rm7_3 m (4 : Int64) a1]
  clear hG
  show G s₁ (mkF m 0 #[.val (.long (4 : Int64)), .second, .val (.ref a1)] [])
  refine gb (fun _ k => XS.lloadN X0.here hx rfl (hb hby d7_0) rfl (XS.lconst X0.here hx rfl (hb hby d7_1) (XS.lcmp X0.here hx rfl (hb hby d7_2) rfl (XS.ifNo X0.here hx rfl (hb hby d7_3) rfl ((if0 _ _).trans (flt (fun q => (by decide : ¬ ((4 : Int64) < (1 : Int64))) ((own_lt _ _).mp q))).1) (XS.lloadN X0.here hx rfl (hb hby d7_6) rfl k))))) ?_
  show G s₁ (mkF m 7 #[jv 4, .second, rv a1] [.long 4])
  refine gb (X0.ldc2Long hx hown (mvT hZ (ow hw 36 rfl)) (g := (mkF m 7 #[jv 4, .second, rv a1] [.long 4])) rfl (hb hby d7_7)) ?_
  show G s₁ (mkF m 10 #[jv 4, .second, rv a1] [.long 12, .long 4])
  refine gb (fun _ k => XS.lcmp X0.here hx rfl (hb hby d7_10) rfl (XS.ifYes X0.here hx rfl (pc0 := 11) (pc' := 29) rfl (hb hby d7_11) rfl ((if0 _ _).trans (flt (fun q => (by decide : ¬ ((12 : Int64) < (4 : Int64))) ((own_gt _ _).mp q))).2.2.2) (by decide) (by decide) (XS.lloadN X0.here hx rfl (hb hby d7_29) rfl (XS.l2i X0.here hx rfl (hb hby d7_30) rfl k)))) ?_
  show G s₁ (mkF m 31 #[jv 4, .second, rv a1] [.int 4])
  obtain ⟨_, _, ⟨T1, Lz1, kz1, nz1⟩, -, X1, ⟨Lc1, hQ1, lq1, yq1, zq1⟩, st1⟩ := Jvm.LawKit.callS X0 hx (y := (⟨"java/time/Month", "of", "(I)Ljava/time/Month;"⟩ : MethodName)) hown (mvT hZ (ow hw 37 rfl)) (mvT hZ (ow hw 38 rfl)) (mvT hZ (ow hw 39 rfl)) (mvT hZ (ow hw 40 rfl)) (by decide) (backOf (W := 0) (rm8_3 l Z a0 hw [] h0 n0 O w_APRIL wE cE S_E ArE szE hel) hZ (ow hw 40 rfl) (ow hw 39 rfl) (by decide) (by decide)) (g := (mkF m 31 #[jv 4, .second, rv a1] [.int 4])) rfl (by rw [hml]; rfl) (argsL := [(.int (4 : Int32))]) (rest := []) (lenOf pd_4 rfl) rfl (by show 2 * 0 + _ ≤ _; exact Nat.le_of_eq rfl) (hb hby d7_31) (fun _ _ => ⟨rfl, e0, (by decide : 0 + 0 ≤ _), (by decide : 0 + 0 ≤ _)⟩)
  dsimp only [Pt.U, Pt.locs, Pt.cells, Pt.slots] at X1 lq1 yq1 zq1 st1 hQ1
  subst lq1 yq1 zq1
  obtain ⟨rfl, rfl, e1⟩ := hQ1
  try rw [List.append_nil] at X1
  refine gb st1 ?_
  show G T1 (mkF m 34 #[jv 4, .second, rv a1] [.ref w_APRIL])
  exact go X1 (v := (some (.ref w_APRIL))) (fun h => by rw [Bd.returns] at h; cases h) (fun fs hr => retOut X1 hx Bd.returns rfl (Or.inr (Or.inr (Or.inr (Or.inr ⟨rfl, rfl, rfl⟩)))) (hb hby d7_34) hr) (⟨rfl, rfl, e1⟩) (by decide) (by decide)
def Q_rm9_3 (Z : State) (h0 : Heap) (n0 : Nat) (w_APRIL : Addr) : Option Value → Heap → List Loc → Prop := fun v h L => v = some (.ref w_APRIL) ∧ L = [] ∧ h = h0
set_option maxRecDepth 65536 in
set_option maxHeartbeats 40000000 in
theorem rm9_3 (l : Launch) (Z : State) (a0 : Array Value) (hw : ∀ d ∈ tables_1, d.before a0 Z = true) (ws : List Jvm.Cond) (h0 : Heap) (n0 : Nat) (O : Old Z n0 h0) (w_APRIL : Addr) (S_APRIL : Sta Z Z.heap "java/time/Month" "APRIL" "Ljava/time/Month;" (.ref w_APRIL)) :
    MetFree l (⟨"com/example/ratchetbook/ratchetbook/tariff/AnnualMinimumMonthNumberedPinLaw", "expected", "(I)Ljava/time/Month;"⟩ : MethodName) (head1 (Jvm.Cond.code (⟨"com/example/ratchetbook/ratchetbook/tariff/AnnualMinimumMonthNumberedPinLaw", "expected", "(I)Ljava/time/Month;"⟩ : MethodName) method_3_code 1 (some (.object "java/time/Month")) :: ws) ({ frames := 0, cells := 0, slots := 0, locals := 0 } : Room)) (fun a U => a = #[(.int (4 : Int32))] ∧ Z.Warmed39 U.vm ∧ U.heap = h0) (fun _ _ _ _ _ => True) (fun _ U o U' => ∃ v L, o = .returned v ∧ (Q_rm9_3 Z h0 n0 w_APRIL) v U'.heap L ∧ FrameEnd U o U' L ({ frames := 0, cells := 0, slots := 0, locals := 0 } : Room).cells ({ frames := 0, cells := 0, slots := 0, locals := 0 } : Room).slots) := by
  refine MetFree.of_bodySF (plainFor_of_name pn_4) hisR ?_
  intro p e s m args below meth c s₁ Bd hml0 hP hK
  obtain ⟨rfl, hZ, hh⟩ := hP
  have hx := Bd.exec
  have hby := Bd.bytes
  have hml : c.maxLocals = 1 := hml0
  have hown : s.vm.findClass "com/example/ratchetbook/ratchetbook/tariff/AnnualMinimumMonthNumberedPinLaw" = some m.cls := findClass_of_methodNamed Bd.named
  have hnm := (name_of_methodNamed Bd.named Bd.method).1
  have hlk := BodyLoose.notSynchronized Bd
  have X0 : Stand p l e ({ frames := 0, cells := 0, slots := 0, locals := 0 } : Room) s m #[(.int (4 : Int32))] below meth c s₁ [] 0 0 := Stand.of_body Bd
  have e0 : s₁.heap = h0 := by rw [← hh, Bd.state]; rfl
  have N := Fr.nil n0
  obtain ⟨G, hG⟩ : ∃ G : State → JFrame → Prop, G = OwnG p e below s ({ frames := 0, cells := 0, slots := 0, locals := 0 } : Room).cells ({ frames := 0, cells := 0, slots := 0, locals := 0 } : Room).slots (Q_rm9_3 Z h0 n0 w_APRIL) := ⟨_, rfl⟩
  have gb : ∀ {T T' : State} {g g' : JFrame}, (∀ t, Steps p.tables e below (T'.setTop g') t → Steps p.tables e below (T.setTop g) t) → G T' g' → G T g := by subst hG; exact fun k h => own_by k h
  have go : ∀ {T : State} {locs : List Loc} {cells slots : Nat} {g : JFrame} {v : Option Value}, Stand p l e ({ frames := 0, cells := 0, slots := 0, locals := 0 } : Room) s m #[(.int (4 : Int32))] below meth c T locs cells slots → (meth.sig.returnType = none → v = none) → (∀ fs, (∀ (f : JFrame) (acts : List Action), f.method = m → f.locked = none → f.entered = [] → (doReturn e (T.setTop f) acts v).1 = T.setFrames fs) → Steps p.tables e below (T.setTop g) (T.setFrames fs)) → (Q_rm9_3 Z h0 n0 w_APRIL) v T.heap locs → cells ≤ ({ frames := 0, cells := 0, slots := 0, locals := 0 } : Room).cells → slots ≤ ({ frames := 0, cells := 0, slots := 0, locals := 0 } : Room).slots → G T g := by subst hG; exact fun X h1 h2 h3 h4 h5 => own_out X hlk h1 h2 h3 h4 h5
  show OwnG p e below s ({ frames := 0, cells := 0, slots := 0, locals := 0 } : Room).cells ({ frames := 0, cells := 0, slots := 0, locals := 0 } : Room).slots (Q_rm9_3 Z h0 n0 w_APRIL) s₁ (entryFrame m #[(.int (4 : Int32))] 1)
  rw [← hG, ef_rm9_3 m (4 : Int32)]
  clear hG
  show G s₁ (mkF m 0 #[.val (.int (4 : Int32))] [])
  refine gb (fun _ k => XS.iloadN X0.here hx rfl (hb hby d9_0) rfl (XS.iconst X0.here hx rfl (hb hby d9_1) (XS.icmpYes X0.here hx rfl (pc0 := 2) (pc' := 9) rfl (hb hby d9_2) rfl (feq (by decide : ¬ ((4 : Int32) = (1 : Int32)))).2 (by decide) (by decide) (XS.iloadN X0.here hx rfl (hb hby d9_9) rfl (XS.iconst X0.here hx rfl (hb hby d9_10) (XS.icmpYes X0.here hx rfl (pc0 := 11) (pc' := 18) rfl (hb hby d9_11) rfl (feq (by decide : ¬ ((4 : Int32) = (2 : Int32)))).2 (by decide) (by decide) k)))))) ?_
  show G s₁ (mkF m 18 #[iv 4] [])
  refine gb (fun _ k => XS.iloadN X0.here hx rfl (hb hby d9_18) rfl (XS.iconst X0.here hx rfl (hb hby d9_19) (XS.icmpYes X0.here hx rfl (pc0 := 20) (pc' := 27) rfl (hb hby d9_20) rfl (feq (by decide : ¬ ((4 : Int32) = (3 : Int32)))).2 (by decide) (by decide) (XS.iloadN X0.here hx rfl (hb hby d9_27) rfl (XS.iconst X0.here hx rfl (hb hby d9_28) (XS.icmpNo X0.here hx rfl (hb hby d9_29) rfl (teq (by decide : (4 : Int32) = (4 : Int32))).2 k)))))) ?_
  show G s₁ (mkF m 32 #[iv 4] [])
  obtain ⟨T1, X1, e1, st1⟩ := getS2 X0 hx hZ hown (host := "") (Or.inl (ow hw 46 rfl)) Via.refl e0 (S_APRIL.ext O.2) (g := (mkF m 32 #[iv 4] [])) rfl (hb hby d9_32)
  refine gb st1 ?_
  show G T1 (mkF m 35 #[iv 4] [.ref w_APRIL])
  exact go X1 (v := (some (.ref w_APRIL))) (fun h => by rw [Bd.returns] at h; cases h) (fun fs hr => retOut X1 hx Bd.returns rfl (Or.inr (Or.inr (Or.inr (Or.inr ⟨rfl, rfl, rfl⟩)))) (hb hby d9_35) hr) (⟨rfl, rfl, e1⟩) (by decide) (by decide)
def Q_rm8_4 (Z : State) (h0 : Heap) (n0 : Nat) (w_MAY : Addr) (wE : Addr) : Option Value → Heap → List Loc → Prop := fun v h L => v = some (.ref w_MAY) ∧ L = [] ∧ h = h0
set_option maxRecDepth 65536 in
set_option maxHeartbeats 40000000 in
theorem rm8_4 (l : Launch) (Z : State) (a0 : Array Value) (hw : ∀ d ∈ tables_1, d.before a0 Z = true) (ws : List Jvm.Cond) (h0 : Heap) (n0 : Nat) (O : Old Z n0 h0) (w_MAY : Addr) (wE : Addr) (cE : Cell) (S_E : Sta Z Z.heap "java/time/Month" "ENUMS" "[Ljava/time/Month;" (.ref wE)) (ArE : Arr Z Z.heap wE cE (.object "java/time/Month")) (szE : cE.slots.size = (12 : Int32).toNatClampNeg) (hel : cE.slots[((4 : Int32)).toNatClampNeg]? = some (.ref w_MAY)) :
    MetFree l (⟨"java/time/Month", "of", "(I)Ljava/time/Month;"⟩ : MethodName) (head1 (Jvm.Cond.code (⟨"java/time/Month", "of", "(I)Ljava/time/Month;"⟩ : MethodName) jdk_2329_method_4_code 1 (some (.object "java/time/Month")) :: ws) ({ frames := 0, cells := 0, slots := 0, locals := 0 } : Room)) (fun a U => a = #[(.int (5 : Int32))] ∧ Z.Warmed39 U.vm ∧ U.heap = h0) (fun _ _ _ _ _ => True) (fun _ U o U' => ∃ v L, o = .returned v ∧ (Q_rm8_4 Z h0 n0 w_MAY wE) v U'.heap L ∧ FrameEnd U o U' L ({ frames := 0, cells := 0, slots := 0, locals := 0 } : Room).cells ({ frames := 0, cells := 0, slots := 0, locals := 0 } : Room).slots) := by
  refine MetFree.of_bodySF (plainFor_of_name pn_2) hisR ?_
  intro p e s m args below meth c s₁ Bd hml0 hP hK
  obtain ⟨rfl, hZ, hh⟩ := hP
  have hx := Bd.exec
  have hby := Bd.bytes
  have hml : c.maxLocals = 1 := hml0
  have hown : s.vm.findClass "java/time/Month" = some m.cls := findClass_of_methodNamed Bd.named
  have hnm := (name_of_methodNamed Bd.named Bd.method).1
  have hlk := BodyLoose.notSynchronized Bd
  have X0 : Stand p l e ({ frames := 0, cells := 0, slots := 0, locals := 0 } : Room) s m #[(.int (5 : Int32))] below meth c s₁ [] 0 0 := Stand.of_body Bd
  have e0 : s₁.heap = h0 := by rw [← hh, Bd.state]; rfl
  have N := Fr.nil n0
  obtain ⟨G, hG⟩ : ∃ G : State → JFrame → Prop, G = OwnG p e below s ({ frames := 0, cells := 0, slots := 0, locals := 0 } : Room).cells ({ frames := 0, cells := 0, slots := 0, locals := 0 } : Room).slots (Q_rm8_4 Z h0 n0 w_MAY wE) := ⟨_, rfl⟩
  have gb : ∀ {T T' : State} {g g' : JFrame}, (∀ t, Steps p.tables e below (T'.setTop g') t → Steps p.tables e below (T.setTop g) t) → G T' g' → G T g := by subst hG; exact fun k h => own_by k h
  have go : ∀ {T : State} {locs : List Loc} {cells slots : Nat} {g : JFrame} {v : Option Value}, Stand p l e ({ frames := 0, cells := 0, slots := 0, locals := 0 } : Room) s m #[(.int (5 : Int32))] below meth c T locs cells slots → (meth.sig.returnType = none → v = none) → (∀ fs, (∀ (f : JFrame) (acts : List Action), f.method = m → f.locked = none → f.entered = [] → (doReturn e (T.setTop f) acts v).1 = T.setFrames fs) → Steps p.tables e below (T.setTop g) (T.setFrames fs)) → (Q_rm8_4 Z h0 n0 w_MAY wE) v T.heap locs → cells ≤ ({ frames := 0, cells := 0, slots := 0, locals := 0 } : Room).cells → slots ≤ ({ frames := 0, cells := 0, slots := 0, locals := 0 } : Room).slots → G T g := by subst hG; exact fun X h1 h2 h3 h4 h5 => own_out X hlk h1 h2 h3 h4 h5
  show OwnG p e below s ({ frames := 0, cells := 0, slots := 0, locals := 0 } : Room).cells ({ frames := 0, cells := 0, slots := 0, locals := 0 } : Room).slots (Q_rm8_4 Z h0 n0 w_MAY wE) s₁ (entryFrame m #[(.int (5 : Int32))] 1)
  rw [← hG, ef_rm8_4 m (5 : Int32)]
  clear hG
  show G s₁ (mkF m 0 #[.val (.int (5 : Int32))] [])
  refine gb (fun _ k => XS.iloadN X0.here hx rfl (hb hby d8_0) rfl (XS.iconst X0.here hx rfl (hb hby d8_1) (XS.icmpNo X0.here hx rfl (hb hby d8_2) rfl (flt (by decide : ¬ ((5 : Int32) < (1 : Int32)))).1 (XS.iloadN X0.here hx rfl (hb hby d8_5) rfl (XS.bipush X0.here hx rfl (hb hby d8_6) (XS.icmpYes X0.here hx rfl (pc0 := 8) (pc' := 38) rfl (hb hby d8_8) rfl (flt (by decide : ¬ ((12 : Int32) < (5 : Int32)))).2.2.2 (by decide) (by decide) k)))))) ?_
  show G s₁ (mkF m 38 #[iv 5] [])
  obtain ⟨T1, X1, e1, st1⟩ := getS2 X0 hx hZ hown (host := "") (Or.inl (ow hw 41 rfl)) Via.refl e0 (S_E.ext O.2) (g := (mkF m 38 #[iv 5] [])) rfl (hb hby d8_38)
  refine gb st1 ?_
  show G T1 (mkF m 41 #[iv 5] [.ref wE])
  refine gb (fun _ k => XS.iloadN X1.here hx rfl (hb hby d8_41) rfl (XS.iconst X1.here hx rfl (hb hby d8_42) (XS.isub X1.here hx rfl (hb hby d8_43) rfl k))) ?_
  show G T1 (mkF m 44 #[iv 5] [.int 4, .ref wE])
  have ArE' := ArE.ext O.2
  refine gb (X1.aaload hx (j := (4 : Int32)) (v := .ref w_MAY) (by rw [e1]; exact ArE'.1) (State.isArrayOf_alike hZ.alike ArE'.2.1) rfl ArE'.2.2 (inb_of szE ⟨by decide, by decide⟩) hel (g := (mkF m 44 #[iv 5] [.int 4, .ref wE])) rfl rfl (hb hby d8_44)) ?_
  show G T1 (mkF m 45 #[iv 5] [.ref w_MAY])
  exact go X1 (v := (some (.ref w_MAY))) (fun h => by rw [Bd.returns] at h; cases h) (fun fs hr => retOut X1 hx Bd.returns rfl (Or.inr (Or.inr (Or.inr (Or.inr ⟨rfl, rfl, rfl⟩)))) (hb hby d8_45) hr) (⟨rfl, rfl, e1⟩) (by decide) (by decide)
def Q_rm7_4 (Z : State) (a1 : Addr) (h0 : Heap) (n0 : Nat) (w_MAY : Addr) (wE : Addr) : Option Value → Heap → List Loc → Prop := fun v h L => v = some (.ref w_MAY) ∧ L = [] ∧ h = h0
set_option maxRecDepth 65536 in
set_option maxHeartbeats 40000000 in
theorem rm7_4 (l : Launch) (Z : State) (a0 : Array Value) (hw : ∀ d ∈ tables_1, d.before a0 Z = true) (ws : List Jvm.Cond) (a1 : Addr) (h0 : Heap) (n0 : Nat) (O : Old Z n0 h0) (w_MAY : Addr) (wE : Addr) (cE : Cell) (S_E : Sta Z Z.heap "java/time/Month" "ENUMS" "[Ljava/time/Month;" (.ref wE)) (ArE : Arr Z Z.heap wE cE (.object "java/time/Month")) (szE : cE.slots.size = (12 : Int32).toNatClampNeg) (hel : cE.slots[((4 : Int32)).toNatClampNeg]? = some (.ref w_MAY)) :
    MetFree l (⟨"com/example/ratchetbook/ratchetbook/tariff/AnnualMinimum", "monthNumbered", "(JLjava/lang/String;)Ljava/time/Month;"⟩ : MethodName) (head1 (Jvm.Cond.code (⟨"com/example/ratchetbook/ratchetbook/tariff/AnnualMinimum", "monthNumbered", "(JLjava/lang/String;)Ljava/time/Month;"⟩ : MethodName) prog_84_method_2_code 3 (some (.object "java/time/Month")) :: ws) ({ frames := 1, cells := 0, slots := 0, locals := 12 } : Room)) (fun a U => a = #[(.long (5 : Int64)), (.ref a1)] ∧ Z.Warmed39 U.vm ∧ U.heap = h0) (fun _ _ _ _ _ => True) (fun _ U o U' => ∃ v L, o = .returned v ∧ (Q_rm7_4 Z a1 h0 n0 w_MAY wE) v U'.heap L ∧ FrameEnd U o U' L ({ frames := 1, cells := 0, slots := 0, locals := 12 } : Room).cells ({ frames := 1, cells := 0, slots := 0, locals := 12 } : Room).slots) := by
  refine MetFree.of_bodySF (plainFor_of_name pn_3) hisR ?_
  intro p e s m args below meth c s₁ Bd hml0 hP hK
  obtain ⟨rfl, hZ, hh⟩ := hP
  have hx := Bd.exec
  have hby := Bd.bytes
  have hml : c.maxLocals = 3 := hml0
  have hown : s.vm.findClass "com/example/ratchetbook/ratchetbook/tariff/AnnualMinimum" = some m.cls := findClass_of_methodNamed Bd.named
  have hnm := (name_of_methodNamed Bd.named Bd.method).1
  have hlk := BodyLoose.notSynchronized Bd
  have X0 : Stand p l e ({ frames := 1, cells := 0, slots := 0, locals := 12 } : Room) s m #[(.long (5 : Int64)), (.ref a1)] below meth c s₁ [] 0 0 := Stand.of_body Bd
  have e0 : s₁.heap = h0 := by rw [← hh, Bd.state]; rfl
  have N := Fr.nil n0
  obtain ⟨G, hG⟩ : ∃ G : State → JFrame → Prop, G = OwnG p e below s ({ frames := 1, cells := 0, slots := 0, locals := 12 } : Room).cells ({ frames := 1, cells := 0, slots := 0, locals := 12 } : Room).slots (Q_rm7_4 Z a1 h0 n0 w_MAY wE) := ⟨_, rfl⟩
  have gb : ∀ {T T' : State} {g g' : JFrame}, (∀ t, Steps p.tables e below (T'.setTop g') t → Steps p.tables e below (T.setTop g) t) → G T' g' → G T g := by subst hG; exact fun k h => own_by k h
  have go : ∀ {T : State} {locs : List Loc} {cells slots : Nat} {g : JFrame} {v : Option Value}, Stand p l e ({ frames := 1, cells := 0, slots := 0, locals := 12 } : Room) s m #[(.long (5 : Int64)), (.ref a1)] below meth c T locs cells slots → (meth.sig.returnType = none → v = none) → (∀ fs, (∀ (f : JFrame) (acts : List Action), f.method = m → f.locked = none → f.entered = [] → (doReturn e (T.setTop f) acts v).1 = T.setFrames fs) → Steps p.tables e below (T.setTop g) (T.setFrames fs)) → (Q_rm7_4 Z a1 h0 n0 w_MAY wE) v T.heap locs → cells ≤ ({ frames := 1, cells := 0, slots := 0, locals := 12 } : Room).cells → slots ≤ ({ frames := 1, cells := 0, slots := 0, locals := 12 } : Room).slots → G T g := by subst hG; exact fun X h1 h2 h3 h4 h5 => own_out X hlk h1 h2 h3 h4 h5
  show OwnG p e below s ({ frames := 1, cells := 0, slots := 0, locals := 12 } : Room).cells ({ frames := 1, cells := 0, slots := 0, locals := 12 } : Room).slots (Q_rm7_4 Z a1 h0 n0 w_MAY wE) s₁ (entryFrame m #[(.long (5 : Int64)), (.ref a1)] 3)
  rw [← hG, ef_rm7_4 m (5 : Int64) a1]
  clear hG
  show G s₁ (mkF m 0 #[.val (.long (5 : Int64)), .second, .val (.ref a1)] [])
  refine gb (fun _ k => XS.lloadN X0.here hx rfl (hb hby d7_0) rfl (XS.lconst X0.here hx rfl (hb hby d7_1) (XS.lcmp X0.here hx rfl (hb hby d7_2) rfl (XS.ifNo X0.here hx rfl (hb hby d7_3) rfl ((if0 _ _).trans (flt (fun q => (by decide : ¬ ((5 : Int64) < (1 : Int64))) ((own_lt _ _).mp q))).1) (XS.lloadN X0.here hx rfl (hb hby d7_6) rfl k))))) ?_
  show G s₁ (mkF m 7 #[jv 5, .second, rv a1] [.long 5])
  refine gb (X0.ldc2Long hx hown (mvT hZ (ow hw 36 rfl)) (g := (mkF m 7 #[jv 5, .second, rv a1] [.long 5])) rfl (hb hby d7_7)) ?_
  show G s₁ (mkF m 10 #[jv 5, .second, rv a1] [.long 12, .long 5])
  refine gb (fun _ k => XS.lcmp X0.here hx rfl (hb hby d7_10) rfl (XS.ifYes X0.here hx rfl (pc0 := 11) (pc' := 29) rfl (hb hby d7_11) rfl ((if0 _ _).trans (flt (fun q => (by decide : ¬ ((12 : Int64) < (5 : Int64))) ((own_gt _ _).mp q))).2.2.2) (by decide) (by decide) (XS.lloadN X0.here hx rfl (hb hby d7_29) rfl (XS.l2i X0.here hx rfl (hb hby d7_30) rfl k)))) ?_
  show G s₁ (mkF m 31 #[jv 5, .second, rv a1] [.int 5])
  obtain ⟨_, _, ⟨T1, Lz1, kz1, nz1⟩, -, X1, ⟨Lc1, hQ1, lq1, yq1, zq1⟩, st1⟩ := Jvm.LawKit.callS X0 hx (y := (⟨"java/time/Month", "of", "(I)Ljava/time/Month;"⟩ : MethodName)) hown (mvT hZ (ow hw 37 rfl)) (mvT hZ (ow hw 38 rfl)) (mvT hZ (ow hw 39 rfl)) (mvT hZ (ow hw 40 rfl)) (by decide) (backOf (W := 0) (rm8_4 l Z a0 hw [] h0 n0 O w_MAY wE cE S_E ArE szE hel) hZ (ow hw 40 rfl) (ow hw 39 rfl) (by decide) (by decide)) (g := (mkF m 31 #[jv 5, .second, rv a1] [.int 5])) rfl (by rw [hml]; rfl) (argsL := [(.int (5 : Int32))]) (rest := []) (lenOf pd_4 rfl) rfl (by show 2 * 0 + _ ≤ _; exact Nat.le_of_eq rfl) (hb hby d7_31) (fun _ _ => ⟨rfl, e0, (by decide : 0 + 0 ≤ _), (by decide : 0 + 0 ≤ _)⟩)
  dsimp only [Pt.U, Pt.locs, Pt.cells, Pt.slots] at X1 lq1 yq1 zq1 st1 hQ1
  subst lq1 yq1 zq1
  obtain ⟨rfl, rfl, e1⟩ := hQ1
  try rw [List.append_nil] at X1
  refine gb st1 ?_
  show G T1 (mkF m 34 #[jv 5, .second, rv a1] [.ref w_MAY])
  exact go X1 (v := (some (.ref w_MAY))) (fun h => by rw [Bd.returns] at h; cases h) (fun fs hr => retOut X1 hx Bd.returns rfl (Or.inr (Or.inr (Or.inr (Or.inr ⟨rfl, rfl, rfl⟩)))) (hb hby d7_34) hr) (⟨rfl, rfl, e1⟩) (by decide) (by decide)
def Q_rm9_4 (Z : State) (h0 : Heap) (n0 : Nat) (w_MAY : Addr) : Option Value → Heap → List Loc → Prop := fun v h L => v = some (.ref w_MAY) ∧ L = [] ∧ h = h0
set_option maxRecDepth 65536 in
set_option maxHeartbeats 40000000 in
theorem rm9_4 (l : Launch) (Z : State) (a0 : Array Value) (hw : ∀ d ∈ tables_1, d.before a0 Z = true) (ws : List Jvm.Cond) (h0 : Heap) (n0 : Nat) (O : Old Z n0 h0) (w_MAY : Addr) (S_MAY : Sta Z Z.heap "java/time/Month" "MAY" "Ljava/time/Month;" (.ref w_MAY)) :
    MetFree l (⟨"com/example/ratchetbook/ratchetbook/tariff/AnnualMinimumMonthNumberedPinLaw", "expected", "(I)Ljava/time/Month;"⟩ : MethodName) (head1 (Jvm.Cond.code (⟨"com/example/ratchetbook/ratchetbook/tariff/AnnualMinimumMonthNumberedPinLaw", "expected", "(I)Ljava/time/Month;"⟩ : MethodName) method_3_code 1 (some (.object "java/time/Month")) :: ws) ({ frames := 0, cells := 0, slots := 0, locals := 0 } : Room)) (fun a U => a = #[(.int (5 : Int32))] ∧ Z.Warmed39 U.vm ∧ U.heap = h0) (fun _ _ _ _ _ => True) (fun _ U o U' => ∃ v L, o = .returned v ∧ (Q_rm9_4 Z h0 n0 w_MAY) v U'.heap L ∧ FrameEnd U o U' L ({ frames := 0, cells := 0, slots := 0, locals := 0 } : Room).cells ({ frames := 0, cells := 0, slots := 0, locals := 0 } : Room).slots) := by
  refine MetFree.of_bodySF (plainFor_of_name pn_4) hisR ?_
  intro p e s m args below meth c s₁ Bd hml0 hP hK
  obtain ⟨rfl, hZ, hh⟩ := hP
  have hx := Bd.exec
  have hby := Bd.bytes
  have hml : c.maxLocals = 1 := hml0
  have hown : s.vm.findClass "com/example/ratchetbook/ratchetbook/tariff/AnnualMinimumMonthNumberedPinLaw" = some m.cls := findClass_of_methodNamed Bd.named
  have hnm := (name_of_methodNamed Bd.named Bd.method).1
  have hlk := BodyLoose.notSynchronized Bd
  have X0 : Stand p l e ({ frames := 0, cells := 0, slots := 0, locals := 0 } : Room) s m #[(.int (5 : Int32))] below meth c s₁ [] 0 0 := Stand.of_body Bd
  have e0 : s₁.heap = h0 := by rw [← hh, Bd.state]; rfl
  have N := Fr.nil n0
  obtain ⟨G, hG⟩ : ∃ G : State → JFrame → Prop, G = OwnG p e below s ({ frames := 0, cells := 0, slots := 0, locals := 0 } : Room).cells ({ frames := 0, cells := 0, slots := 0, locals := 0 } : Room).slots (Q_rm9_4 Z h0 n0 w_MAY) := ⟨_, rfl⟩
  have gb : ∀ {T T' : State} {g g' : JFrame}, (∀ t, Steps p.tables e below (T'.setTop g') t → Steps p.tables e below (T.setTop g) t) → G T' g' → G T g := by subst hG; exact fun k h => own_by k h
  have go : ∀ {T : State} {locs : List Loc} {cells slots : Nat} {g : JFrame} {v : Option Value}, Stand p l e ({ frames := 0, cells := 0, slots := 0, locals := 0 } : Room) s m #[(.int (5 : Int32))] below meth c T locs cells slots → (meth.sig.returnType = none → v = none) → (∀ fs, (∀ (f : JFrame) (acts : List Action), f.method = m → f.locked = none → f.entered = [] → (doReturn e (T.setTop f) acts v).1 = T.setFrames fs) → Steps p.tables e below (T.setTop g) (T.setFrames fs)) → (Q_rm9_4 Z h0 n0 w_MAY) v T.heap locs → cells ≤ ({ frames := 0, cells := 0, slots := 0, locals := 0 } : Room).cells → slots ≤ ({ frames := 0, cells := 0, slots := 0, locals := 0 } : Room).slots → G T g := by subst hG; exact fun X h1 h2 h3 h4 h5 => own_out X hlk h1 h2 h3 h4 h5
  show OwnG p e below s ({ frames := 0, cells := 0, slots := 0, locals := 0 } : Room).cells ({ frames := 0, cells := 0, slots := 0, locals := 0 } : Room).slots (Q_rm9_4 Z h0 n0 w_MAY) s₁ (entryFrame m #[(.int (5 : Int32))] 1)
  rw [← hG, ef_rm9_4 m (5 : Int32)]
  clear hG
  show G s₁ (mkF m 0 #[.val (.int (5 : Int32))] [])
  refine gb (fun _ k => XS.iloadN X0.here hx rfl (hb hby d9_0) rfl (XS.iconst X0.here hx rfl (hb hby d9_1) (XS.icmpYes X0.here hx rfl (pc0 := 2) (pc' := 9) rfl (hb hby d9_2) rfl (feq (by decide : ¬ ((5 : Int32) = (1 : Int32)))).2 (by decide) (by decide) (XS.iloadN X0.here hx rfl (hb hby d9_9) rfl (XS.iconst X0.here hx rfl (hb hby d9_10) (XS.icmpYes X0.here hx rfl (pc0 := 11) (pc' := 18) rfl (hb hby d9_11) rfl (feq (by decide : ¬ ((5 : Int32) = (2 : Int32)))).2 (by decide) (by decide) k)))))) ?_
  show G s₁ (mkF m 18 #[iv 5] [])
  refine gb (fun _ k => XS.iloadN X0.here hx rfl (hb hby d9_18) rfl (XS.iconst X0.here hx rfl (hb hby d9_19) (XS.icmpYes X0.here hx rfl (pc0 := 20) (pc' := 27) rfl (hb hby d9_20) rfl (feq (by decide : ¬ ((5 : Int32) = (3 : Int32)))).2 (by decide) (by decide) (XS.iloadN X0.here hx rfl (hb hby d9_27) rfl (XS.iconst X0.here hx rfl (hb hby d9_28) (XS.icmpYes X0.here hx rfl (pc0 := 29) (pc' := 36) rfl (hb hby d9_29) rfl (feq (by decide : ¬ ((5 : Int32) = (4 : Int32)))).2 (by decide) (by decide) k)))))) ?_
  show G s₁ (mkF m 36 #[iv 5] [])
  refine gb (fun _ k => XS.iloadN X0.here hx rfl (hb hby d9_36) rfl (XS.iconst X0.here hx rfl (hb hby d9_37) (XS.icmpNo X0.here hx rfl (hb hby d9_38) rfl (teq (by decide : (5 : Int32) = (5 : Int32))).2 k))) ?_
  show G s₁ (mkF m 41 #[iv 5] [])
  obtain ⟨T1, X1, e1, st1⟩ := getS2 X0 hx hZ hown (host := "") (Or.inl (ow hw 52 rfl)) Via.refl e0 (S_MAY.ext O.2) (g := (mkF m 41 #[iv 5] [])) rfl (hb hby d9_41)
  refine gb st1 ?_
  show G T1 (mkF m 44 #[iv 5] [.ref w_MAY])
  exact go X1 (v := (some (.ref w_MAY))) (fun h => by rw [Bd.returns] at h; cases h) (fun fs hr => retOut X1 hx Bd.returns rfl (Or.inr (Or.inr (Or.inr (Or.inr ⟨rfl, rfl, rfl⟩)))) (hb hby d9_44) hr) (⟨rfl, rfl, e1⟩) (by decide) (by decide)
def Q_rm8_5 (Z : State) (h0 : Heap) (n0 : Nat) (w_JUNE : Addr) (wE : Addr) : Option Value → Heap → List Loc → Prop := fun v h L => v = some (.ref w_JUNE) ∧ L = [] ∧ h = h0
set_option maxRecDepth 65536 in
set_option maxHeartbeats 40000000 in
theorem rm8_5 (l : Launch) (Z : State) (a0 : Array Value) (hw : ∀ d ∈ tables_1, d.before a0 Z = true) (ws : List Jvm.Cond) (h0 : Heap) (n0 : Nat) (O : Old Z n0 h0) (w_JUNE : Addr) (wE : Addr) (cE : Cell) (S_E : Sta Z Z.heap "java/time/Month" "ENUMS" "[Ljava/time/Month;" (.ref wE)) (ArE : Arr Z Z.heap wE cE (.object "java/time/Month")) (szE : cE.slots.size = (12 : Int32).toNatClampNeg) (hel : cE.slots[((5 : Int32)).toNatClampNeg]? = some (.ref w_JUNE)) :
    MetFree l (⟨"java/time/Month", "of", "(I)Ljava/time/Month;"⟩ : MethodName) (head1 (Jvm.Cond.code (⟨"java/time/Month", "of", "(I)Ljava/time/Month;"⟩ : MethodName) jdk_2329_method_4_code 1 (some (.object "java/time/Month")) :: ws) ({ frames := 0, cells := 0, slots := 0, locals := 0 } : Room)) (fun a U => a = #[(.int (6 : Int32))] ∧ Z.Warmed39 U.vm ∧ U.heap = h0) (fun _ _ _ _ _ => True) (fun _ U o U' => ∃ v L, o = .returned v ∧ (Q_rm8_5 Z h0 n0 w_JUNE wE) v U'.heap L ∧ FrameEnd U o U' L ({ frames := 0, cells := 0, slots := 0, locals := 0 } : Room).cells ({ frames := 0, cells := 0, slots := 0, locals := 0 } : Room).slots) := by
  refine MetFree.of_bodySF (plainFor_of_name pn_2) hisR ?_
  intro p e s m args below meth c s₁ Bd hml0 hP hK
  obtain ⟨rfl, hZ, hh⟩ := hP
  have hx := Bd.exec
  have hby := Bd.bytes
  have hml : c.maxLocals = 1 := hml0
  have hown : s.vm.findClass "java/time/Month" = some m.cls := findClass_of_methodNamed Bd.named
  have hnm := (name_of_methodNamed Bd.named Bd.method).1
  have hlk := BodyLoose.notSynchronized Bd
  have X0 : Stand p l e ({ frames := 0, cells := 0, slots := 0, locals := 0 } : Room) s m #[(.int (6 : Int32))] below meth c s₁ [] 0 0 := Stand.of_body Bd
  have e0 : s₁.heap = h0 := by rw [← hh, Bd.state]; rfl
  have N := Fr.nil n0
  obtain ⟨G, hG⟩ : ∃ G : State → JFrame → Prop, G = OwnG p e below s ({ frames := 0, cells := 0, slots := 0, locals := 0 } : Room).cells ({ frames := 0, cells := 0, slots := 0, locals := 0 } : Room).slots (Q_rm8_5 Z h0 n0 w_JUNE wE) := ⟨_, rfl⟩
  have gb : ∀ {T T' : State} {g g' : JFrame}, (∀ t, Steps p.tables e below (T'.setTop g') t → Steps p.tables e below (T.setTop g) t) → G T' g' → G T g := by subst hG; exact fun k h => own_by k h
  have go : ∀ {T : State} {locs : List Loc} {cells slots : Nat} {g : JFrame} {v : Option Value}, Stand p l e ({ frames := 0, cells := 0, slots := 0, locals := 0 } : Room) s m #[(.int (6 : Int32))] below meth c T locs cells slots → (meth.sig.returnType = none → v = none) → (∀ fs, (∀ (f : JFrame) (acts : List Action), f.method = m → f.locked = none → f.entered = [] → (doReturn e (T.setTop f) acts v).1 = T.setFrames fs) → Steps p.tables e below (T.setTop g) (T.setFrames fs)) → (Q_rm8_5 Z h0 n0 w_JUNE wE) v T.heap locs → cells ≤ ({ frames := 0, cells := 0, slots := 0, locals := 0 } : Room).cells → slots ≤ ({ frames := 0, cells := 0, slots := 0, locals := 0 } : Room).slots → G T g := by subst hG; exact fun X h1 h2 h3 h4 h5 => own_out X hlk h1 h2 h3 h4 h5
  show OwnG p e below s ({ frames := 0, cells := 0, slots := 0, locals := 0 } : Room).cells ({ frames := 0, cells := 0, slots := 0, locals := 0 } : Room).slots (Q_rm8_5 Z h0 n0 w_JUNE wE) s₁ (entryFrame m #[(.int (6 : Int32))] 1)
  rw [← hG, ef_rm8_5 m (6 : Int32)]
  clear hG
  show G s₁ (mkF m 0 #[.val (.int (6 : Int32))] [])
  refine gb (fun _ k => XS.iloadN X0.here hx rfl (hb hby d8_0) rfl (XS.iconst X0.here hx rfl (hb hby d8_1) (XS.icmpNo X0.here hx rfl (hb hby d8_2) rfl (flt (by decide : ¬ ((6 : Int32) < (1 : Int32)))).1 (XS.iloadN X0.here hx rfl (hb hby d8_5) rfl (XS.bipush X0.here hx rfl (hb hby d8_6) (XS.icmpYes X0.here hx rfl (pc0 := 8) (pc' := 38) rfl (hb hby d8_8) rfl (flt (by decide : ¬ ((12 : Int32) < (6 : Int32)))).2.2.2 (by decide) (by decide) k)))))) ?_
  show G s₁ (mkF m 38 #[iv 6] [])
  obtain ⟨T1, X1, e1, st1⟩ := getS2 X0 hx hZ hown (host := "") (Or.inl (ow hw 41 rfl)) Via.refl e0 (S_E.ext O.2) (g := (mkF m 38 #[iv 6] [])) rfl (hb hby d8_38)
  refine gb st1 ?_
  show G T1 (mkF m 41 #[iv 6] [.ref wE])
  refine gb (fun _ k => XS.iloadN X1.here hx rfl (hb hby d8_41) rfl (XS.iconst X1.here hx rfl (hb hby d8_42) (XS.isub X1.here hx rfl (hb hby d8_43) rfl k))) ?_
  show G T1 (mkF m 44 #[iv 6] [.int 5, .ref wE])
  have ArE' := ArE.ext O.2
  refine gb (X1.aaload hx (j := (5 : Int32)) (v := .ref w_JUNE) (by rw [e1]; exact ArE'.1) (State.isArrayOf_alike hZ.alike ArE'.2.1) rfl ArE'.2.2 (inb_of szE ⟨by decide, by decide⟩) hel (g := (mkF m 44 #[iv 6] [.int 5, .ref wE])) rfl rfl (hb hby d8_44)) ?_
  show G T1 (mkF m 45 #[iv 6] [.ref w_JUNE])
  exact go X1 (v := (some (.ref w_JUNE))) (fun h => by rw [Bd.returns] at h; cases h) (fun fs hr => retOut X1 hx Bd.returns rfl (Or.inr (Or.inr (Or.inr (Or.inr ⟨rfl, rfl, rfl⟩)))) (hb hby d8_45) hr) (⟨rfl, rfl, e1⟩) (by decide) (by decide)
def Q_rm7_5 (Z : State) (a1 : Addr) (h0 : Heap) (n0 : Nat) (w_JUNE : Addr) (wE : Addr) : Option Value → Heap → List Loc → Prop := fun v h L => v = some (.ref w_JUNE) ∧ L = [] ∧ h = h0
set_option maxRecDepth 65536 in
set_option maxHeartbeats 40000000 in
theorem rm7_5 (l : Launch) (Z : State) (a0 : Array Value) (hw : ∀ d ∈ tables_1, d.before a0 Z = true) (ws : List Jvm.Cond) (a1 : Addr) (h0 : Heap) (n0 : Nat) (O : Old Z n0 h0) (w_JUNE : Addr) (wE : Addr) (cE : Cell) (S_E : Sta Z Z.heap "java/time/Month" "ENUMS" "[Ljava/time/Month;" (.ref wE)) (ArE : Arr Z Z.heap wE cE (.object "java/time/Month")) (szE : cE.slots.size = (12 : Int32).toNatClampNeg) (hel : cE.slots[((5 : Int32)).toNatClampNeg]? = some (.ref w_JUNE)) :
    MetFree l (⟨"com/example/ratchetbook/ratchetbook/tariff/AnnualMinimum", "monthNumbered", "(JLjava/lang/String;)Ljava/time/Month;"⟩ : MethodName) (head1 (Jvm.Cond.code (⟨"com/example/ratchetbook/ratchetbook/tariff/AnnualMinimum", "monthNumbered", "(JLjava/lang/String;)Ljava/time/Month;"⟩ : MethodName) prog_84_method_2_code 3 (some (.object "java/time/Month")) :: ws) ({ frames := 1, cells := 0, slots := 0, locals := 12 } : Room)) (fun a U => a = #[(.long (6 : Int64)), (.ref a1)] ∧ Z.Warmed39 U.vm ∧ U.heap = h0) (fun _ _ _ _ _ => True) (fun _ U o U' => ∃ v L, o = .returned v ∧ (Q_rm7_5 Z a1 h0 n0 w_JUNE wE) v U'.heap L ∧ FrameEnd U o U' L ({ frames := 1, cells := 0, slots := 0, locals := 12 } : Room).cells ({ frames := 1, cells := 0, slots := 0, locals := 12 } : Room).slots) := by
  refine MetFree.of_bodySF (plainFor_of_name pn_3) hisR ?_
  intro p e s m args below meth c s₁ Bd hml0 hP hK
  obtain ⟨rfl, hZ, hh⟩ := hP
  have hx := Bd.exec
  have hby := Bd.bytes
  have hml : c.maxLocals = 3 := hml0
  have hown : s.vm.findClass "com/example/ratchetbook/ratchetbook/tariff/AnnualMinimum" = some m.cls := findClass_of_methodNamed Bd.named
  have hnm := (name_of_methodNamed Bd.named Bd.method).1
  have hlk := BodyLoose.notSynchronized Bd
  have X0 : Stand p l e ({ frames := 1, cells := 0, slots := 0, locals := 12 } : Room) s m #[(.long (6 : Int64)), (.ref a1)] below meth c s₁ [] 0 0 := Stand.of_body Bd
  have e0 : s₁.heap = h0 := by rw [← hh, Bd.state]; rfl
  have N := Fr.nil n0
  obtain ⟨G, hG⟩ : ∃ G : State → JFrame → Prop, G = OwnG p e below s ({ frames := 1, cells := 0, slots := 0, locals := 12 } : Room).cells ({ frames := 1, cells := 0, slots := 0, locals := 12 } : Room).slots (Q_rm7_5 Z a1 h0 n0 w_JUNE wE) := ⟨_, rfl⟩
  have gb : ∀ {T T' : State} {g g' : JFrame}, (∀ t, Steps p.tables e below (T'.setTop g') t → Steps p.tables e below (T.setTop g) t) → G T' g' → G T g := by subst hG; exact fun k h => own_by k h
  have go : ∀ {T : State} {locs : List Loc} {cells slots : Nat} {g : JFrame} {v : Option Value}, Stand p l e ({ frames := 1, cells := 0, slots := 0, locals := 12 } : Room) s m #[(.long (6 : Int64)), (.ref a1)] below meth c T locs cells slots → (meth.sig.returnType = none → v = none) → (∀ fs, (∀ (f : JFrame) (acts : List Action), f.method = m → f.locked = none → f.entered = [] → (doReturn e (T.setTop f) acts v).1 = T.setFrames fs) → Steps p.tables e below (T.setTop g) (T.setFrames fs)) → (Q_rm7_5 Z a1 h0 n0 w_JUNE wE) v T.heap locs → cells ≤ ({ frames := 1, cells := 0, slots := 0, locals := 12 } : Room).cells → slots ≤ ({ frames := 1, cells := 0, slots := 0, locals := 12 } : Room).slots → G T g := by subst hG; exact fun X h1 h2 h3 h4 h5 => own_out X hlk h1 h2 h3 h4 h5
  show OwnG p e below s ({ frames := 1, cells := 0, slots := 0, locals := 12 } : Room).cells ({ frames := 1, cells := 0, slots := 0, locals := 12 } : Room).slots (Q_rm7_5 Z a1 h0 n0 w_JUNE wE) s₁ (entryFrame m #[(.long (6 : Int64)), (.ref a1)] 3)
  rw [← hG, ef_rm7_5 m (6 : Int64) a1]
  clear hG
  show G s₁ (mkF m 0 #[.val (.long (6 : Int64)), .second, .val (.ref a1)] [])
  refine gb (fun _ k => XS.lloadN X0.here hx rfl (hb hby d7_0) rfl (XS.lconst X0.here hx rfl (hb hby d7_1) (XS.lcmp X0.here hx rfl (hb hby d7_2) rfl (XS.ifNo X0.here hx rfl (hb hby d7_3) rfl ((if0 _ _).trans (flt (fun q => (by decide : ¬ ((6 : Int64) < (1 : Int64))) ((own_lt _ _).mp q))).1) (XS.lloadN X0.here hx rfl (hb hby d7_6) rfl k))))) ?_
  show G s₁ (mkF m 7 #[jv 6, .second, rv a1] [.long 6])
  refine gb (X0.ldc2Long hx hown (mvT hZ (ow hw 36 rfl)) (g := (mkF m 7 #[jv 6, .second, rv a1] [.long 6])) rfl (hb hby d7_7)) ?_
  show G s₁ (mkF m 10 #[jv 6, .second, rv a1] [.long 12, .long 6])
  refine gb (fun _ k => XS.lcmp X0.here hx rfl (hb hby d7_10) rfl (XS.ifYes X0.here hx rfl (pc0 := 11) (pc' := 29) rfl (hb hby d7_11) rfl ((if0 _ _).trans (flt (fun q => (by decide : ¬ ((12 : Int64) < (6 : Int64))) ((own_gt _ _).mp q))).2.2.2) (by decide) (by decide) (XS.lloadN X0.here hx rfl (hb hby d7_29) rfl (XS.l2i X0.here hx rfl (hb hby d7_30) rfl k)))) ?_
  show G s₁ (mkF m 31 #[jv 6, .second, rv a1] [.int 6])
  obtain ⟨_, _, ⟨T1, Lz1, kz1, nz1⟩, -, X1, ⟨Lc1, hQ1, lq1, yq1, zq1⟩, st1⟩ := Jvm.LawKit.callS X0 hx (y := (⟨"java/time/Month", "of", "(I)Ljava/time/Month;"⟩ : MethodName)) hown (mvT hZ (ow hw 37 rfl)) (mvT hZ (ow hw 38 rfl)) (mvT hZ (ow hw 39 rfl)) (mvT hZ (ow hw 40 rfl)) (by decide) (backOf (W := 0) (rm8_5 l Z a0 hw [] h0 n0 O w_JUNE wE cE S_E ArE szE hel) hZ (ow hw 40 rfl) (ow hw 39 rfl) (by decide) (by decide)) (g := (mkF m 31 #[jv 6, .second, rv a1] [.int 6])) rfl (by rw [hml]; rfl) (argsL := [(.int (6 : Int32))]) (rest := []) (lenOf pd_4 rfl) rfl (by show 2 * 0 + _ ≤ _; exact Nat.le_of_eq rfl) (hb hby d7_31) (fun _ _ => ⟨rfl, e0, (by decide : 0 + 0 ≤ _), (by decide : 0 + 0 ≤ _)⟩)
  dsimp only [Pt.U, Pt.locs, Pt.cells, Pt.slots] at X1 lq1 yq1 zq1 st1 hQ1
  subst lq1 yq1 zq1
  obtain ⟨rfl, rfl, e1⟩ := hQ1
  try rw [List.append_nil] at X1
  refine gb st1 ?_
  show G T1 (mkF m 34 #[jv 6, .second, rv a1] [.ref w_JUNE])
  exact go X1 (v := (some (.ref w_JUNE))) (fun h => by rw [Bd.returns] at h; cases h) (fun fs hr => retOut X1 hx Bd.returns rfl (Or.inr (Or.inr (Or.inr (Or.inr ⟨rfl, rfl, rfl⟩)))) (hb hby d7_34) hr) (⟨rfl, rfl, e1⟩) (by decide) (by decide)
def Q_rm9_5 (Z : State) (h0 : Heap) (n0 : Nat) (w_JUNE : Addr) : Option Value → Heap → List Loc → Prop := fun v h L => v = some (.ref w_JUNE) ∧ L = [] ∧ h = h0
set_option maxRecDepth 65536 in
set_option maxHeartbeats 40000000 in
theorem rm9_5 (l : Launch) (Z : State) (a0 : Array Value) (hw : ∀ d ∈ tables_1, d.before a0 Z = true) (ws : List Jvm.Cond) (h0 : Heap) (n0 : Nat) (O : Old Z n0 h0) (w_JUNE : Addr) (S_JUNE : Sta Z Z.heap "java/time/Month" "JUNE" "Ljava/time/Month;" (.ref w_JUNE)) :
    MetFree l (⟨"com/example/ratchetbook/ratchetbook/tariff/AnnualMinimumMonthNumberedPinLaw", "expected", "(I)Ljava/time/Month;"⟩ : MethodName) (head1 (Jvm.Cond.code (⟨"com/example/ratchetbook/ratchetbook/tariff/AnnualMinimumMonthNumberedPinLaw", "expected", "(I)Ljava/time/Month;"⟩ : MethodName) method_3_code 1 (some (.object "java/time/Month")) :: ws) ({ frames := 0, cells := 0, slots := 0, locals := 0 } : Room)) (fun a U => a = #[(.int (6 : Int32))] ∧ Z.Warmed39 U.vm ∧ U.heap = h0) (fun _ _ _ _ _ => True) (fun _ U o U' => ∃ v L, o = .returned v ∧ (Q_rm9_5 Z h0 n0 w_JUNE) v U'.heap L ∧ FrameEnd U o U' L ({ frames := 0, cells := 0, slots := 0, locals := 0 } : Room).cells ({ frames := 0, cells := 0, slots := 0, locals := 0 } : Room).slots) := by
  refine MetFree.of_bodySF (plainFor_of_name pn_4) hisR ?_
  intro p e s m args below meth c s₁ Bd hml0 hP hK
  obtain ⟨rfl, hZ, hh⟩ := hP
  have hx := Bd.exec
  have hby := Bd.bytes
  have hml : c.maxLocals = 1 := hml0
  have hown : s.vm.findClass "com/example/ratchetbook/ratchetbook/tariff/AnnualMinimumMonthNumberedPinLaw" = some m.cls := findClass_of_methodNamed Bd.named
  have hnm := (name_of_methodNamed Bd.named Bd.method).1
  have hlk := BodyLoose.notSynchronized Bd
  have X0 : Stand p l e ({ frames := 0, cells := 0, slots := 0, locals := 0 } : Room) s m #[(.int (6 : Int32))] below meth c s₁ [] 0 0 := Stand.of_body Bd
  have e0 : s₁.heap = h0 := by rw [← hh, Bd.state]; rfl
  have N := Fr.nil n0
  obtain ⟨G, hG⟩ : ∃ G : State → JFrame → Prop, G = OwnG p e below s ({ frames := 0, cells := 0, slots := 0, locals := 0 } : Room).cells ({ frames := 0, cells := 0, slots := 0, locals := 0 } : Room).slots (Q_rm9_5 Z h0 n0 w_JUNE) := ⟨_, rfl⟩
  have gb : ∀ {T T' : State} {g g' : JFrame}, (∀ t, Steps p.tables e below (T'.setTop g') t → Steps p.tables e below (T.setTop g) t) → G T' g' → G T g := by subst hG; exact fun k h => own_by k h
  have go : ∀ {T : State} {locs : List Loc} {cells slots : Nat} {g : JFrame} {v : Option Value}, Stand p l e ({ frames := 0, cells := 0, slots := 0, locals := 0 } : Room) s m #[(.int (6 : Int32))] below meth c T locs cells slots → (meth.sig.returnType = none → v = none) → (∀ fs, (∀ (f : JFrame) (acts : List Action), f.method = m → f.locked = none → f.entered = [] → (doReturn e (T.setTop f) acts v).1 = T.setFrames fs) → Steps p.tables e below (T.setTop g) (T.setFrames fs)) → (Q_rm9_5 Z h0 n0 w_JUNE) v T.heap locs → cells ≤ ({ frames := 0, cells := 0, slots := 0, locals := 0 } : Room).cells → slots ≤ ({ frames := 0, cells := 0, slots := 0, locals := 0 } : Room).slots → G T g := by subst hG; exact fun X h1 h2 h3 h4 h5 => own_out X hlk h1 h2 h3 h4 h5
  show OwnG p e below s ({ frames := 0, cells := 0, slots := 0, locals := 0 } : Room).cells ({ frames := 0, cells := 0, slots := 0, locals := 0 } : Room).slots (Q_rm9_5 Z h0 n0 w_JUNE) s₁ (entryFrame m #[(.int (6 : Int32))] 1)
  rw [← hG, ef_rm9_5 m (6 : Int32)]
  clear hG
  show G s₁ (mkF m 0 #[.val (.int (6 : Int32))] [])
  refine gb (fun _ k => XS.iloadN X0.here hx rfl (hb hby d9_0) rfl (XS.iconst X0.here hx rfl (hb hby d9_1) (XS.icmpYes X0.here hx rfl (pc0 := 2) (pc' := 9) rfl (hb hby d9_2) rfl (feq (by decide : ¬ ((6 : Int32) = (1 : Int32)))).2 (by decide) (by decide) (XS.iloadN X0.here hx rfl (hb hby d9_9) rfl (XS.iconst X0.here hx rfl (hb hby d9_10) (XS.icmpYes X0.here hx rfl (pc0 := 11) (pc' := 18) rfl (hb hby d9_11) rfl (feq (by decide : ¬ ((6 : Int32) = (2 : Int32)))).2 (by decide) (by decide) k)))))) ?_
  show G s₁ (mkF m 18 #[iv 6] [])
  refine gb (fun _ k => XS.iloadN X0.here hx rfl (hb hby d9_18) rfl (XS.iconst X0.here hx rfl (hb hby d9_19) (XS.icmpYes X0.here hx rfl (pc0 := 20) (pc' := 27) rfl (hb hby d9_20) rfl (feq (by decide : ¬ ((6 : Int32) = (3 : Int32)))).2 (by decide) (by decide) (XS.iloadN X0.here hx rfl (hb hby d9_27) rfl (XS.iconst X0.here hx rfl (hb hby d9_28) (XS.icmpYes X0.here hx rfl (pc0 := 29) (pc' := 36) rfl (hb hby d9_29) rfl (feq (by decide : ¬ ((6 : Int32) = (4 : Int32)))).2 (by decide) (by decide) k)))))) ?_
  show G s₁ (mkF m 36 #[iv 6] [])
  refine gb (fun _ k => XS.iloadN X0.here hx rfl (hb hby d9_36) rfl (XS.iconst X0.here hx rfl (hb hby d9_37) (XS.icmpYes X0.here hx rfl (pc0 := 38) (pc' := 45) rfl (hb hby d9_38) rfl (feq (by decide : ¬ ((6 : Int32) = (5 : Int32)))).2 (by decide) (by decide) (XS.iloadN X0.here hx rfl (hb hby d9_45) rfl (XS.bipush X0.here hx rfl (hb hby d9_46) (XS.icmpNo X0.here hx rfl (hb hby d9_48) rfl (teq (by decide : (6 : Int32) = (6 : Int32))).2 k)))))) ?_
  show G s₁ (mkF m 51 #[iv 6] [])
  obtain ⟨T1, X1, e1, st1⟩ := getS2 X0 hx hZ hown (host := "") (Or.inl (ow hw 54 rfl)) Via.refl e0 (S_JUNE.ext O.2) (g := (mkF m 51 #[iv 6] [])) rfl (hb hby d9_51)
  refine gb st1 ?_
  show G T1 (mkF m 54 #[iv 6] [.ref w_JUNE])
  exact go X1 (v := (some (.ref w_JUNE))) (fun h => by rw [Bd.returns] at h; cases h) (fun fs hr => retOut X1 hx Bd.returns rfl (Or.inr (Or.inr (Or.inr (Or.inr ⟨rfl, rfl, rfl⟩)))) (hb hby d9_54) hr) (⟨rfl, rfl, e1⟩) (by decide) (by decide)
def Q_rm8_6 (Z : State) (h0 : Heap) (n0 : Nat) (w_JULY : Addr) (wE : Addr) : Option Value → Heap → List Loc → Prop := fun v h L => v = some (.ref w_JULY) ∧ L = [] ∧ h = h0
set_option maxRecDepth 65536 in
set_option maxHeartbeats 40000000 in
theorem rm8_6 (l : Launch) (Z : State) (a0 : Array Value) (hw : ∀ d ∈ tables_1, d.before a0 Z = true) (ws : List Jvm.Cond) (h0 : Heap) (n0 : Nat) (O : Old Z n0 h0) (w_JULY : Addr) (wE : Addr) (cE : Cell) (S_E : Sta Z Z.heap "java/time/Month" "ENUMS" "[Ljava/time/Month;" (.ref wE)) (ArE : Arr Z Z.heap wE cE (.object "java/time/Month")) (szE : cE.slots.size = (12 : Int32).toNatClampNeg) (hel : cE.slots[((6 : Int32)).toNatClampNeg]? = some (.ref w_JULY)) :
    MetFree l (⟨"java/time/Month", "of", "(I)Ljava/time/Month;"⟩ : MethodName) (head1 (Jvm.Cond.code (⟨"java/time/Month", "of", "(I)Ljava/time/Month;"⟩ : MethodName) jdk_2329_method_4_code 1 (some (.object "java/time/Month")) :: ws) ({ frames := 0, cells := 0, slots := 0, locals := 0 } : Room)) (fun a U => a = #[(.int (7 : Int32))] ∧ Z.Warmed39 U.vm ∧ U.heap = h0) (fun _ _ _ _ _ => True) (fun _ U o U' => ∃ v L, o = .returned v ∧ (Q_rm8_6 Z h0 n0 w_JULY wE) v U'.heap L ∧ FrameEnd U o U' L ({ frames := 0, cells := 0, slots := 0, locals := 0 } : Room).cells ({ frames := 0, cells := 0, slots := 0, locals := 0 } : Room).slots) := by
  refine MetFree.of_bodySF (plainFor_of_name pn_2) hisR ?_
  intro p e s m args below meth c s₁ Bd hml0 hP hK
  obtain ⟨rfl, hZ, hh⟩ := hP
  have hx := Bd.exec
  have hby := Bd.bytes
  have hml : c.maxLocals = 1 := hml0
  have hown : s.vm.findClass "java/time/Month" = some m.cls := findClass_of_methodNamed Bd.named
  have hnm := (name_of_methodNamed Bd.named Bd.method).1
  have hlk := BodyLoose.notSynchronized Bd
  have X0 : Stand p l e ({ frames := 0, cells := 0, slots := 0, locals := 0 } : Room) s m #[(.int (7 : Int32))] below meth c s₁ [] 0 0 := Stand.of_body Bd
  have e0 : s₁.heap = h0 := by rw [← hh, Bd.state]; rfl
  have N := Fr.nil n0
  obtain ⟨G, hG⟩ : ∃ G : State → JFrame → Prop, G = OwnG p e below s ({ frames := 0, cells := 0, slots := 0, locals := 0 } : Room).cells ({ frames := 0, cells := 0, slots := 0, locals := 0 } : Room).slots (Q_rm8_6 Z h0 n0 w_JULY wE) := ⟨_, rfl⟩
  have gb : ∀ {T T' : State} {g g' : JFrame}, (∀ t, Steps p.tables e below (T'.setTop g') t → Steps p.tables e below (T.setTop g) t) → G T' g' → G T g := by subst hG; exact fun k h => own_by k h
  have go : ∀ {T : State} {locs : List Loc} {cells slots : Nat} {g : JFrame} {v : Option Value}, Stand p l e ({ frames := 0, cells := 0, slots := 0, locals := 0 } : Room) s m #[(.int (7 : Int32))] below meth c T locs cells slots → (meth.sig.returnType = none → v = none) → (∀ fs, (∀ (f : JFrame) (acts : List Action), f.method = m → f.locked = none → f.entered = [] → (doReturn e (T.setTop f) acts v).1 = T.setFrames fs) → Steps p.tables e below (T.setTop g) (T.setFrames fs)) → (Q_rm8_6 Z h0 n0 w_JULY wE) v T.heap locs → cells ≤ ({ frames := 0, cells := 0, slots := 0, locals := 0 } : Room).cells → slots ≤ ({ frames := 0, cells := 0, slots := 0, locals := 0 } : Room).slots → G T g := by subst hG; exact fun X h1 h2 h3 h4 h5 => own_out X hlk h1 h2 h3 h4 h5
  show OwnG p e below s ({ frames := 0, cells := 0, slots := 0, locals := 0 } : Room).cells ({ frames := 0, cells := 0, slots := 0, locals := 0 } : Room).slots (Q_rm8_6 Z h0 n0 w_JULY wE) s₁ (entryFrame m #[(.int (7 : Int32))] 1)
  rw [← hG, ef_rm8_6 m (7 : Int32)]
  clear hG
  show G s₁ (mkF m 0 #[.val (.int (7 : Int32))] [])
  refine gb (fun _ k => XS.iloadN X0.here hx rfl (hb hby d8_0) rfl (XS.iconst X0.here hx rfl (hb hby d8_1) (XS.icmpNo X0.here hx rfl (hb hby d8_2) rfl (flt (by decide : ¬ ((7 : Int32) < (1 : Int32)))).1 (XS.iloadN X0.here hx rfl (hb hby d8_5) rfl (XS.bipush X0.here hx rfl (hb hby d8_6) (XS.icmpYes X0.here hx rfl (pc0 := 8) (pc' := 38) rfl (hb hby d8_8) rfl (flt (by decide : ¬ ((12 : Int32) < (7 : Int32)))).2.2.2 (by decide) (by decide) k)))))) ?_
  show G s₁ (mkF m 38 #[iv 7] [])
  obtain ⟨T1, X1, e1, st1⟩ := getS2 X0 hx hZ hown (host := "") (Or.inl (ow hw 41 rfl)) Via.refl e0 (S_E.ext O.2) (g := (mkF m 38 #[iv 7] [])) rfl (hb hby d8_38)
  refine gb st1 ?_
  show G T1 (mkF m 41 #[iv 7] [.ref wE])
  refine gb (fun _ k => XS.iloadN X1.here hx rfl (hb hby d8_41) rfl (XS.iconst X1.here hx rfl (hb hby d8_42) (XS.isub X1.here hx rfl (hb hby d8_43) rfl k))) ?_
  show G T1 (mkF m 44 #[iv 7] [.int 6, .ref wE])
  have ArE' := ArE.ext O.2
  refine gb (X1.aaload hx (j := (6 : Int32)) (v := .ref w_JULY) (by rw [e1]; exact ArE'.1) (State.isArrayOf_alike hZ.alike ArE'.2.1) rfl ArE'.2.2 (inb_of szE ⟨by decide, by decide⟩) hel (g := (mkF m 44 #[iv 7] [.int 6, .ref wE])) rfl rfl (hb hby d8_44)) ?_
  show G T1 (mkF m 45 #[iv 7] [.ref w_JULY])
  exact go X1 (v := (some (.ref w_JULY))) (fun h => by rw [Bd.returns] at h; cases h) (fun fs hr => retOut X1 hx Bd.returns rfl (Or.inr (Or.inr (Or.inr (Or.inr ⟨rfl, rfl, rfl⟩)))) (hb hby d8_45) hr) (⟨rfl, rfl, e1⟩) (by decide) (by decide)
def Q_rm7_6 (Z : State) (a1 : Addr) (h0 : Heap) (n0 : Nat) (w_JULY : Addr) (wE : Addr) : Option Value → Heap → List Loc → Prop := fun v h L => v = some (.ref w_JULY) ∧ L = [] ∧ h = h0
set_option maxRecDepth 65536 in
set_option maxHeartbeats 40000000 in
theorem rm7_6 (l : Launch) (Z : State) (a0 : Array Value) (hw : ∀ d ∈ tables_1, d.before a0 Z = true) (ws : List Jvm.Cond) (a1 : Addr) (h0 : Heap) (n0 : Nat) (O : Old Z n0 h0) (w_JULY : Addr) (wE : Addr) (cE : Cell) (S_E : Sta Z Z.heap "java/time/Month" "ENUMS" "[Ljava/time/Month;" (.ref wE)) (ArE : Arr Z Z.heap wE cE (.object "java/time/Month")) (szE : cE.slots.size = (12 : Int32).toNatClampNeg) (hel : cE.slots[((6 : Int32)).toNatClampNeg]? = some (.ref w_JULY)) :
    MetFree l (⟨"com/example/ratchetbook/ratchetbook/tariff/AnnualMinimum", "monthNumbered", "(JLjava/lang/String;)Ljava/time/Month;"⟩ : MethodName) (head1 (Jvm.Cond.code (⟨"com/example/ratchetbook/ratchetbook/tariff/AnnualMinimum", "monthNumbered", "(JLjava/lang/String;)Ljava/time/Month;"⟩ : MethodName) prog_84_method_2_code 3 (some (.object "java/time/Month")) :: ws) ({ frames := 1, cells := 0, slots := 0, locals := 12 } : Room)) (fun a U => a = #[(.long (7 : Int64)), (.ref a1)] ∧ Z.Warmed39 U.vm ∧ U.heap = h0) (fun _ _ _ _ _ => True) (fun _ U o U' => ∃ v L, o = .returned v ∧ (Q_rm7_6 Z a1 h0 n0 w_JULY wE) v U'.heap L ∧ FrameEnd U o U' L ({ frames := 1, cells := 0, slots := 0, locals := 12 } : Room).cells ({ frames := 1, cells := 0, slots := 0, locals := 12 } : Room).slots) := by
  refine MetFree.of_bodySF (plainFor_of_name pn_3) hisR ?_
  intro p e s m args below meth c s₁ Bd hml0 hP hK
  obtain ⟨rfl, hZ, hh⟩ := hP
  have hx := Bd.exec
  have hby := Bd.bytes
  have hml : c.maxLocals = 3 := hml0
  have hown : s.vm.findClass "com/example/ratchetbook/ratchetbook/tariff/AnnualMinimum" = some m.cls := findClass_of_methodNamed Bd.named
  have hnm := (name_of_methodNamed Bd.named Bd.method).1
  have hlk := BodyLoose.notSynchronized Bd
  have X0 : Stand p l e ({ frames := 1, cells := 0, slots := 0, locals := 12 } : Room) s m #[(.long (7 : Int64)), (.ref a1)] below meth c s₁ [] 0 0 := Stand.of_body Bd
  have e0 : s₁.heap = h0 := by rw [← hh, Bd.state]; rfl
  have N := Fr.nil n0
  obtain ⟨G, hG⟩ : ∃ G : State → JFrame → Prop, G = OwnG p e below s ({ frames := 1, cells := 0, slots := 0, locals := 12 } : Room).cells ({ frames := 1, cells := 0, slots := 0, locals := 12 } : Room).slots (Q_rm7_6 Z a1 h0 n0 w_JULY wE) := ⟨_, rfl⟩
  have gb : ∀ {T T' : State} {g g' : JFrame}, (∀ t, Steps p.tables e below (T'.setTop g') t → Steps p.tables e below (T.setTop g) t) → G T' g' → G T g := by subst hG; exact fun k h => own_by k h
  have go : ∀ {T : State} {locs : List Loc} {cells slots : Nat} {g : JFrame} {v : Option Value}, Stand p l e ({ frames := 1, cells := 0, slots := 0, locals := 12 } : Room) s m #[(.long (7 : Int64)), (.ref a1)] below meth c T locs cells slots → (meth.sig.returnType = none → v = none) → (∀ fs, (∀ (f : JFrame) (acts : List Action), f.method = m → f.locked = none → f.entered = [] → (doReturn e (T.setTop f) acts v).1 = T.setFrames fs) → Steps p.tables e below (T.setTop g) (T.setFrames fs)) → (Q_rm7_6 Z a1 h0 n0 w_JULY wE) v T.heap locs → cells ≤ ({ frames := 1, cells := 0, slots := 0, locals := 12 } : Room).cells → slots ≤ ({ frames := 1, cells := 0, slots := 0, locals := 12 } : Room).slots → G T g := by subst hG; exact fun X h1 h2 h3 h4 h5 => own_out X hlk h1 h2 h3 h4 h5
  show OwnG p e below s ({ frames := 1, cells := 0, slots := 0, locals := 12 } : Room).cells ({ frames := 1, cells := 0, slots := 0, locals := 12 } : Room).slots (Q_rm7_6 Z a1 h0 n0 w_JULY wE) s₁ (entryFrame m #[(.long (7 : Int64)), (.ref a1)] 3)
  rw [← hG, ef_rm7_6 m (7 : Int64) a1]
  clear hG
  show G s₁ (mkF m 0 #[.val (.long (7 : Int64)), .second, .val (.ref a1)] [])
  refine gb (fun _ k => XS.lloadN X0.here hx rfl (hb hby d7_0) rfl (XS.lconst X0.here hx rfl (hb hby d7_1) (XS.lcmp X0.here hx rfl (hb hby d7_2) rfl (XS.ifNo X0.here hx rfl (hb hby d7_3) rfl ((if0 _ _).trans (flt (fun q => (by decide : ¬ ((7 : Int64) < (1 : Int64))) ((own_lt _ _).mp q))).1) (XS.lloadN X0.here hx rfl (hb hby d7_6) rfl k))))) ?_
  show G s₁ (mkF m 7 #[jv 7, .second, rv a1] [.long 7])
  refine gb (X0.ldc2Long hx hown (mvT hZ (ow hw 36 rfl)) (g := (mkF m 7 #[jv 7, .second, rv a1] [.long 7])) rfl (hb hby d7_7)) ?_
  show G s₁ (mkF m 10 #[jv 7, .second, rv a1] [.long 12, .long 7])
  refine gb (fun _ k => XS.lcmp X0.here hx rfl (hb hby d7_10) rfl (XS.ifYes X0.here hx rfl (pc0 := 11) (pc' := 29) rfl (hb hby d7_11) rfl ((if0 _ _).trans (flt (fun q => (by decide : ¬ ((12 : Int64) < (7 : Int64))) ((own_gt _ _).mp q))).2.2.2) (by decide) (by decide) (XS.lloadN X0.here hx rfl (hb hby d7_29) rfl (XS.l2i X0.here hx rfl (hb hby d7_30) rfl k)))) ?_
  show G s₁ (mkF m 31 #[jv 7, .second, rv a1] [.int 7])
  obtain ⟨_, _, ⟨T1, Lz1, kz1, nz1⟩, -, X1, ⟨Lc1, hQ1, lq1, yq1, zq1⟩, st1⟩ := Jvm.LawKit.callS X0 hx (y := (⟨"java/time/Month", "of", "(I)Ljava/time/Month;"⟩ : MethodName)) hown (mvT hZ (ow hw 37 rfl)) (mvT hZ (ow hw 38 rfl)) (mvT hZ (ow hw 39 rfl)) (mvT hZ (ow hw 40 rfl)) (by decide) (backOf (W := 0) (rm8_6 l Z a0 hw [] h0 n0 O w_JULY wE cE S_E ArE szE hel) hZ (ow hw 40 rfl) (ow hw 39 rfl) (by decide) (by decide)) (g := (mkF m 31 #[jv 7, .second, rv a1] [.int 7])) rfl (by rw [hml]; rfl) (argsL := [(.int (7 : Int32))]) (rest := []) (lenOf pd_4 rfl) rfl (by show 2 * 0 + _ ≤ _; exact Nat.le_of_eq rfl) (hb hby d7_31) (fun _ _ => ⟨rfl, e0, (by decide : 0 + 0 ≤ _), (by decide : 0 + 0 ≤ _)⟩)
  dsimp only [Pt.U, Pt.locs, Pt.cells, Pt.slots] at X1 lq1 yq1 zq1 st1 hQ1
  subst lq1 yq1 zq1
  obtain ⟨rfl, rfl, e1⟩ := hQ1
  try rw [List.append_nil] at X1
  refine gb st1 ?_
  show G T1 (mkF m 34 #[jv 7, .second, rv a1] [.ref w_JULY])
  exact go X1 (v := (some (.ref w_JULY))) (fun h => by rw [Bd.returns] at h; cases h) (fun fs hr => retOut X1 hx Bd.returns rfl (Or.inr (Or.inr (Or.inr (Or.inr ⟨rfl, rfl, rfl⟩)))) (hb hby d7_34) hr) (⟨rfl, rfl, e1⟩) (by decide) (by decide)
def Q_rm9_6 (Z : State) (h0 : Heap) (n0 : Nat) (w_JULY : Addr) : Option Value → Heap → List Loc → Prop := fun v h L => v = some (.ref w_JULY) ∧ L = [] ∧ h = h0
set_option maxRecDepth 65536 in
set_option maxHeartbeats 40000000 in
theorem rm9_6 (l : Launch) (Z : State) (a0 : Array Value) (hw : ∀ d ∈ tables_1, d.before a0 Z = true) (ws : List Jvm.Cond) (h0 : Heap) (n0 : Nat) (O : Old Z n0 h0) (w_JULY : Addr) (S_JULY : Sta Z Z.heap "java/time/Month" "JULY" "Ljava/time/Month;" (.ref w_JULY)) :
    MetFree l (⟨"com/example/ratchetbook/ratchetbook/tariff/AnnualMinimumMonthNumberedPinLaw", "expected", "(I)Ljava/time/Month;"⟩ : MethodName) (head1 (Jvm.Cond.code (⟨"com/example/ratchetbook/ratchetbook/tariff/AnnualMinimumMonthNumberedPinLaw", "expected", "(I)Ljava/time/Month;"⟩ : MethodName) method_3_code 1 (some (.object "java/time/Month")) :: ws) ({ frames := 0, cells := 0, slots := 0, locals := 0 } : Room)) (fun a U => a = #[(.int (7 : Int32))] ∧ Z.Warmed39 U.vm ∧ U.heap = h0) (fun _ _ _ _ _ => True) (fun _ U o U' => ∃ v L, o = .returned v ∧ (Q_rm9_6 Z h0 n0 w_JULY) v U'.heap L ∧ FrameEnd U o U' L ({ frames := 0, cells := 0, slots := 0, locals := 0 } : Room).cells ({ frames := 0, cells := 0, slots := 0, locals := 0 } : Room).slots) := by
  refine MetFree.of_bodySF (plainFor_of_name pn_4) hisR ?_
  intro p e s m args below meth c s₁ Bd hml0 hP hK
  obtain ⟨rfl, hZ, hh⟩ := hP
  have hx := Bd.exec
  have hby := Bd.bytes
  have hml : c.maxLocals = 1 := hml0
  have hown : s.vm.findClass "com/example/ratchetbook/ratchetbook/tariff/AnnualMinimumMonthNumberedPinLaw" = some m.cls := findClass_of_methodNamed Bd.named
  have hnm := (name_of_methodNamed Bd.named Bd.method).1
  have hlk := BodyLoose.notSynchronized Bd
  have X0 : Stand p l e ({ frames := 0, cells := 0, slots := 0, locals := 0 } : Room) s m #[(.int (7 : Int32))] below meth c s₁ [] 0 0 := Stand.of_body Bd
  have e0 : s₁.heap = h0 := by rw [← hh, Bd.state]; rfl
  have N := Fr.nil n0
  obtain ⟨G, hG⟩ : ∃ G : State → JFrame → Prop, G = OwnG p e below s ({ frames := 0, cells := 0, slots := 0, locals := 0 } : Room).cells ({ frames := 0, cells := 0, slots := 0, locals := 0 } : Room).slots (Q_rm9_6 Z h0 n0 w_JULY) := ⟨_, rfl⟩
  have gb : ∀ {T T' : State} {g g' : JFrame}, (∀ t, Steps p.tables e below (T'.setTop g') t → Steps p.tables e below (T.setTop g) t) → G T' g' → G T g := by subst hG; exact fun k h => own_by k h
  have go : ∀ {T : State} {locs : List Loc} {cells slots : Nat} {g : JFrame} {v : Option Value}, Stand p l e ({ frames := 0, cells := 0, slots := 0, locals := 0 } : Room) s m #[(.int (7 : Int32))] below meth c T locs cells slots → (meth.sig.returnType = none → v = none) → (∀ fs, (∀ (f : JFrame) (acts : List Action), f.method = m → f.locked = none → f.entered = [] → (doReturn e (T.setTop f) acts v).1 = T.setFrames fs) → Steps p.tables e below (T.setTop g) (T.setFrames fs)) → (Q_rm9_6 Z h0 n0 w_JULY) v T.heap locs → cells ≤ ({ frames := 0, cells := 0, slots := 0, locals := 0 } : Room).cells → slots ≤ ({ frames := 0, cells := 0, slots := 0, locals := 0 } : Room).slots → G T g := by subst hG; exact fun X h1 h2 h3 h4 h5 => own_out X hlk h1 h2 h3 h4 h5
  show OwnG p e below s ({ frames := 0, cells := 0, slots := 0, locals := 0 } : Room).cells ({ frames := 0, cells := 0, slots := 0, locals := 0 } : Room).slots (Q_rm9_6 Z h0 n0 w_JULY) s₁ (entryFrame m #[(.int (7 : Int32))] 1)
  rw [← hG, ef_rm9_6 m (7 : Int32)]
  clear hG
  show G s₁ (mkF m 0 #[.val (.int (7 : Int32))] [])
  refine gb (fun _ k => XS.iloadN X0.here hx rfl (hb hby d9_0) rfl (XS.iconst X0.here hx rfl (hb hby d9_1) (XS.icmpYes X0.here hx rfl (pc0 := 2) (pc' := 9) rfl (hb hby d9_2) rfl (feq (by decide : ¬ ((7 : Int32) = (1 : Int32)))).2 (by decide) (by decide) (XS.iloadN X0.here hx rfl (hb hby d9_9) rfl (XS.iconst X0.here hx rfl (hb hby d9_10) (XS.icmpYes X0.here hx rfl (pc0 := 11) (pc' := 18) rfl (hb hby d9_11) rfl (feq (by decide : ¬ ((7 : Int32) = (2 : Int32)))).2 (by decide) (by decide) k)))))) ?_
  show G s₁ (mkF m 18 #[iv 7] [])
  refine gb (fun _ k => XS.iloadN X0.here hx rfl (hb hby d9_18) rfl (XS.iconst X0.here hx rfl (hb hby d9_19) (XS.icmpYes X0.here hx rfl (pc0 := 20) (pc' := 27) rfl (hb hby d9_20) rfl (feq (by decide : ¬ ((7 : Int32) = (3 : Int32)))).2 (by decide) (by decide) (XS.iloadN X0.here hx rfl (hb hby d9_27) rfl (XS.iconst X0.here hx rfl (hb hby d9_28) (XS.icmpYes X0.here hx rfl (pc0 := 29) (pc' := 36) rfl (hb hby d9_29) rfl (feq (by decide : ¬ ((7 : Int32) = (4 : Int32)))).2 (by decide) (by decide) k)))))) ?_
  show G s₁ (mkF m 36 #[iv 7] [])
  refine gb (fun _ k => XS.iloadN X0.here hx rfl (hb hby d9_36) rfl (XS.iconst X0.here hx rfl (hb hby d9_37) (XS.icmpYes X0.here hx rfl (pc0 := 38) (pc' := 45) rfl (hb hby d9_38) rfl (feq (by decide : ¬ ((7 : Int32) = (5 : Int32)))).2 (by decide) (by decide) (XS.iloadN X0.here hx rfl (hb hby d9_45) rfl (XS.bipush X0.here hx rfl (hb hby d9_46) (XS.icmpYes X0.here hx rfl (pc0 := 48) (pc' := 55) rfl (hb hby d9_48) rfl (feq (by decide : ¬ ((7 : Int32) = (6 : Int32)))).2 (by decide) (by decide) k)))))) ?_
  show G s₁ (mkF m 55 #[iv 7] [])
  refine gb (fun _ k => XS.iloadN X0.here hx rfl (hb hby d9_55) rfl (XS.bipush X0.here hx rfl (hb hby d9_56) (XS.icmpNo X0.here hx rfl (hb hby d9_58) rfl (teq (by decide : (7 : Int32) = (7 : Int32))).2 k))) ?_
  show G s₁ (mkF m 61 #[iv 7] [])
  obtain ⟨T1, X1, e1, st1⟩ := getS2 X0 hx hZ hown (host := "") (Or.inl (ow hw 53 rfl)) Via.refl e0 (S_JULY.ext O.2) (g := (mkF m 61 #[iv 7] [])) rfl (hb hby d9_61)
  refine gb st1 ?_
  show G T1 (mkF m 64 #[iv 7] [.ref w_JULY])
  exact go X1 (v := (some (.ref w_JULY))) (fun h => by rw [Bd.returns] at h; cases h) (fun fs hr => retOut X1 hx Bd.returns rfl (Or.inr (Or.inr (Or.inr (Or.inr ⟨rfl, rfl, rfl⟩)))) (hb hby d9_64) hr) (⟨rfl, rfl, e1⟩) (by decide) (by decide)
def Q_rm8_7 (Z : State) (h0 : Heap) (n0 : Nat) (w_AUGUST : Addr) (wE : Addr) : Option Value → Heap → List Loc → Prop := fun v h L => v = some (.ref w_AUGUST) ∧ L = [] ∧ h = h0
set_option maxRecDepth 65536 in
set_option maxHeartbeats 40000000 in
theorem rm8_7 (l : Launch) (Z : State) (a0 : Array Value) (hw : ∀ d ∈ tables_1, d.before a0 Z = true) (ws : List Jvm.Cond) (h0 : Heap) (n0 : Nat) (O : Old Z n0 h0) (w_AUGUST : Addr) (wE : Addr) (cE : Cell) (S_E : Sta Z Z.heap "java/time/Month" "ENUMS" "[Ljava/time/Month;" (.ref wE)) (ArE : Arr Z Z.heap wE cE (.object "java/time/Month")) (szE : cE.slots.size = (12 : Int32).toNatClampNeg) (hel : cE.slots[((7 : Int32)).toNatClampNeg]? = some (.ref w_AUGUST)) :
    MetFree l (⟨"java/time/Month", "of", "(I)Ljava/time/Month;"⟩ : MethodName) (head1 (Jvm.Cond.code (⟨"java/time/Month", "of", "(I)Ljava/time/Month;"⟩ : MethodName) jdk_2329_method_4_code 1 (some (.object "java/time/Month")) :: ws) ({ frames := 0, cells := 0, slots := 0, locals := 0 } : Room)) (fun a U => a = #[(.int (8 : Int32))] ∧ Z.Warmed39 U.vm ∧ U.heap = h0) (fun _ _ _ _ _ => True) (fun _ U o U' => ∃ v L, o = .returned v ∧ (Q_rm8_7 Z h0 n0 w_AUGUST wE) v U'.heap L ∧ FrameEnd U o U' L ({ frames := 0, cells := 0, slots := 0, locals := 0 } : Room).cells ({ frames := 0, cells := 0, slots := 0, locals := 0 } : Room).slots) := by
  refine MetFree.of_bodySF (plainFor_of_name pn_2) hisR ?_
  intro p e s m args below meth c s₁ Bd hml0 hP hK
  obtain ⟨rfl, hZ, hh⟩ := hP
  have hx := Bd.exec
  have hby := Bd.bytes
  have hml : c.maxLocals = 1 := hml0
  have hown : s.vm.findClass "java/time/Month" = some m.cls := findClass_of_methodNamed Bd.named
  have hnm := (name_of_methodNamed Bd.named Bd.method).1
  have hlk := BodyLoose.notSynchronized Bd
  have X0 : Stand p l e ({ frames := 0, cells := 0, slots := 0, locals := 0 } : Room) s m #[(.int (8 : Int32))] below meth c s₁ [] 0 0 := Stand.of_body Bd
  have e0 : s₁.heap = h0 := by rw [← hh, Bd.state]; rfl
  have N := Fr.nil n0
  obtain ⟨G, hG⟩ : ∃ G : State → JFrame → Prop, G = OwnG p e below s ({ frames := 0, cells := 0, slots := 0, locals := 0 } : Room).cells ({ frames := 0, cells := 0, slots := 0, locals := 0 } : Room).slots (Q_rm8_7 Z h0 n0 w_AUGUST wE) := ⟨_, rfl⟩
  have gb : ∀ {T T' : State} {g g' : JFrame}, (∀ t, Steps p.tables e below (T'.setTop g') t → Steps p.tables e below (T.setTop g) t) → G T' g' → G T g := by subst hG; exact fun k h => own_by k h
  have go : ∀ {T : State} {locs : List Loc} {cells slots : Nat} {g : JFrame} {v : Option Value}, Stand p l e ({ frames := 0, cells := 0, slots := 0, locals := 0 } : Room) s m #[(.int (8 : Int32))] below meth c T locs cells slots → (meth.sig.returnType = none → v = none) → (∀ fs, (∀ (f : JFrame) (acts : List Action), f.method = m → f.locked = none → f.entered = [] → (doReturn e (T.setTop f) acts v).1 = T.setFrames fs) → Steps p.tables e below (T.setTop g) (T.setFrames fs)) → (Q_rm8_7 Z h0 n0 w_AUGUST wE) v T.heap locs → cells ≤ ({ frames := 0, cells := 0, slots := 0, locals := 0 } : Room).cells → slots ≤ ({ frames := 0, cells := 0, slots := 0, locals := 0 } : Room).slots → G T g := by subst hG; exact fun X h1 h2 h3 h4 h5 => own_out X hlk h1 h2 h3 h4 h5
  show OwnG p e below s ({ frames := 0, cells := 0, slots := 0, locals := 0 } : Room).cells ({ frames := 0, cells := 0, slots := 0, locals := 0 } : Room).slots (Q_rm8_7 Z h0 n0 w_AUGUST wE) s₁ (entryFrame m #[(.int (8 : Int32))] 1)
  rw [← hG, ef_rm8_7 m (8 : Int32)]
  clear hG
  show G s₁ (mkF m 0 #[.val (.int (8 : Int32))] [])
  refine gb (fun _ k => XS.iloadN X0.here hx rfl (hb hby d8_0) rfl (XS.iconst X0.here hx rfl (hb hby d8_1) (XS.icmpNo X0.here hx rfl (hb hby d8_2) rfl (flt (by decide : ¬ ((8 : Int32) < (1 : Int32)))).1 (XS.iloadN X0.here hx rfl (hb hby d8_5) rfl (XS.bipush X0.here hx rfl (hb hby d8_6) (XS.icmpYes X0.here hx rfl (pc0 := 8) (pc' := 38) rfl (hb hby d8_8) rfl (flt (by decide : ¬ ((12 : Int32) < (8 : Int32)))).2.2.2 (by decide) (by decide) k)))))) ?_
  show G s₁ (mkF m 38 #[iv 8] [])
  obtain ⟨T1, X1, e1, st1⟩ := getS2 X0 hx hZ hown (host := "") (Or.inl (ow hw 41 rfl)) Via.refl e0 (S_E.ext O.2) (g := (mkF m 38 #[iv 8] [])) rfl (hb hby d8_38)
  refine gb st1 ?_
  show G T1 (mkF m 41 #[iv 8] [.ref wE])
  refine gb (fun _ k => XS.iloadN X1.here hx rfl (hb hby d8_41) rfl (XS.iconst X1.here hx rfl (hb hby d8_42) (XS.isub X1.here hx rfl (hb hby d8_43) rfl k))) ?_
  show G T1 (mkF m 44 #[iv 8] [.int 7, .ref wE])
  have ArE' := ArE.ext O.2
  refine gb (X1.aaload hx (j := (7 : Int32)) (v := .ref w_AUGUST) (by rw [e1]; exact ArE'.1) (State.isArrayOf_alike hZ.alike ArE'.2.1) rfl ArE'.2.2 (inb_of szE ⟨by decide, by decide⟩) hel (g := (mkF m 44 #[iv 8] [.int 7, .ref wE])) rfl rfl (hb hby d8_44)) ?_
  show G T1 (mkF m 45 #[iv 8] [.ref w_AUGUST])
  exact go X1 (v := (some (.ref w_AUGUST))) (fun h => by rw [Bd.returns] at h; cases h) (fun fs hr => retOut X1 hx Bd.returns rfl (Or.inr (Or.inr (Or.inr (Or.inr ⟨rfl, rfl, rfl⟩)))) (hb hby d8_45) hr) (⟨rfl, rfl, e1⟩) (by decide) (by decide)
def Q_rm7_7 (Z : State) (a1 : Addr) (h0 : Heap) (n0 : Nat) (w_AUGUST : Addr) (wE : Addr) : Option Value → Heap → List Loc → Prop := fun v h L => v = some (.ref w_AUGUST) ∧ L = [] ∧ h = h0
set_option maxRecDepth 65536 in
set_option maxHeartbeats 40000000 in
theorem rm7_7 (l : Launch) (Z : State) (a0 : Array Value) (hw : ∀ d ∈ tables_1, d.before a0 Z = true) (ws : List Jvm.Cond) (a1 : Addr) (h0 : Heap) (n0 : Nat) (O : Old Z n0 h0) (w_AUGUST : Addr) (wE : Addr) (cE : Cell) (S_E : Sta Z Z.heap "java/time/Month" "ENUMS" "[Ljava/time/Month;" (.ref wE)) (ArE : Arr Z Z.heap wE cE (.object "java/time/Month")) (szE : cE.slots.size = (12 : Int32).toNatClampNeg) (hel : cE.slots[((7 : Int32)).toNatClampNeg]? = some (.ref w_AUGUST)) :
    MetFree l (⟨"com/example/ratchetbook/ratchetbook/tariff/AnnualMinimum", "monthNumbered", "(JLjava/lang/String;)Ljava/time/Month;"⟩ : MethodName) (head1 (Jvm.Cond.code (⟨"com/example/ratchetbook/ratchetbook/tariff/AnnualMinimum", "monthNumbered", "(JLjava/lang/String;)Ljava/time/Month;"⟩ : MethodName) prog_84_method_2_code 3 (some (.object "java/time/Month")) :: ws) ({ frames := 1, cells := 0, slots := 0, locals := 12 } : Room)) (fun a U => a = #[(.long (8 : Int64)), (.ref a1)] ∧ Z.Warmed39 U.vm ∧ U.heap = h0) (fun _ _ _ _ _ => True) (fun _ U o U' => ∃ v L, o = .returned v ∧ (Q_rm7_7 Z a1 h0 n0 w_AUGUST wE) v U'.heap L ∧ FrameEnd U o U' L ({ frames := 1, cells := 0, slots := 0, locals := 12 } : Room).cells ({ frames := 1, cells := 0, slots := 0, locals := 12 } : Room).slots) := by
  refine MetFree.of_bodySF (plainFor_of_name pn_3) hisR ?_
  intro p e s m args below meth c s₁ Bd hml0 hP hK
  obtain ⟨rfl, hZ, hh⟩ := hP
  have hx := Bd.exec
  have hby := Bd.bytes
  have hml : c.maxLocals = 3 := hml0
  have hown : s.vm.findClass "com/example/ratchetbook/ratchetbook/tariff/AnnualMinimum" = some m.cls := findClass_of_methodNamed Bd.named
  have hnm := (name_of_methodNamed Bd.named Bd.method).1
  have hlk := BodyLoose.notSynchronized Bd
  have X0 : Stand p l e ({ frames := 1, cells := 0, slots := 0, locals := 12 } : Room) s m #[(.long (8 : Int64)), (.ref a1)] below meth c s₁ [] 0 0 := Stand.of_body Bd
  have e0 : s₁.heap = h0 := by rw [← hh, Bd.state]; rfl
  have N := Fr.nil n0
  obtain ⟨G, hG⟩ : ∃ G : State → JFrame → Prop, G = OwnG p e below s ({ frames := 1, cells := 0, slots := 0, locals := 12 } : Room).cells ({ frames := 1, cells := 0, slots := 0, locals := 12 } : Room).slots (Q_rm7_7 Z a1 h0 n0 w_AUGUST wE) := ⟨_, rfl⟩
  have gb : ∀ {T T' : State} {g g' : JFrame}, (∀ t, Steps p.tables e below (T'.setTop g') t → Steps p.tables e below (T.setTop g) t) → G T' g' → G T g := by subst hG; exact fun k h => own_by k h
  have go : ∀ {T : State} {locs : List Loc} {cells slots : Nat} {g : JFrame} {v : Option Value}, Stand p l e ({ frames := 1, cells := 0, slots := 0, locals := 12 } : Room) s m #[(.long (8 : Int64)), (.ref a1)] below meth c T locs cells slots → (meth.sig.returnType = none → v = none) → (∀ fs, (∀ (f : JFrame) (acts : List Action), f.method = m → f.locked = none → f.entered = [] → (doReturn e (T.setTop f) acts v).1 = T.setFrames fs) → Steps p.tables e below (T.setTop g) (T.setFrames fs)) → (Q_rm7_7 Z a1 h0 n0 w_AUGUST wE) v T.heap locs → cells ≤ ({ frames := 1, cells := 0, slots := 0, locals := 12 } : Room).cells → slots ≤ ({ frames := 1, cells := 0, slots := 0, locals := 12 } : Room).slots → G T g := by subst hG; exact fun X h1 h2 h3 h4 h5 => own_out X hlk h1 h2 h3 h4 h5
  show OwnG p e below s ({ frames := 1, cells := 0, slots := 0, locals := 12 } : Room).cells ({ frames := 1, cells := 0, slots := 0, locals := 12 } : Room).slots (Q_rm7_7 Z a1 h0 n0 w_AUGUST wE) s₁ (entryFrame m #[(.long (8 : Int64)), (.ref a1)] 3)
  rw [← hG, ef_rm7_7 m (8 : Int64) a1]
  clear hG
  show G s₁ (mkF m 0 #[.val (.long (8 : Int64)), .second, .val (.ref a1)] [])
  refine gb (fun _ k => XS.lloadN X0.here hx rfl (hb hby d7_0) rfl (XS.lconst X0.here hx rfl (hb hby d7_1) (XS.lcmp X0.here hx rfl (hb hby d7_2) rfl (XS.ifNo X0.here hx rfl (hb hby d7_3) rfl ((if0 _ _).trans (flt (fun q => (by decide : ¬ ((8 : Int64) < (1 : Int64))) ((own_lt _ _).mp q))).1) (XS.lloadN X0.here hx rfl (hb hby d7_6) rfl k))))) ?_
  show G s₁ (mkF m 7 #[jv 8, .second, rv a1] [.long 8])
  refine gb (X0.ldc2Long hx hown (mvT hZ (ow hw 36 rfl)) (g := (mkF m 7 #[jv 8, .second, rv a1] [.long 8])) rfl (hb hby d7_7)) ?_
  show G s₁ (mkF m 10 #[jv 8, .second, rv a1] [.long 12, .long 8])
  refine gb (fun _ k => XS.lcmp X0.here hx rfl (hb hby d7_10) rfl (XS.ifYes X0.here hx rfl (pc0 := 11) (pc' := 29) rfl (hb hby d7_11) rfl ((if0 _ _).trans (flt (fun q => (by decide : ¬ ((12 : Int64) < (8 : Int64))) ((own_gt _ _).mp q))).2.2.2) (by decide) (by decide) (XS.lloadN X0.here hx rfl (hb hby d7_29) rfl (XS.l2i X0.here hx rfl (hb hby d7_30) rfl k)))) ?_
  show G s₁ (mkF m 31 #[jv 8, .second, rv a1] [.int 8])
  obtain ⟨_, _, ⟨T1, Lz1, kz1, nz1⟩, -, X1, ⟨Lc1, hQ1, lq1, yq1, zq1⟩, st1⟩ := Jvm.LawKit.callS X0 hx (y := (⟨"java/time/Month", "of", "(I)Ljava/time/Month;"⟩ : MethodName)) hown (mvT hZ (ow hw 37 rfl)) (mvT hZ (ow hw 38 rfl)) (mvT hZ (ow hw 39 rfl)) (mvT hZ (ow hw 40 rfl)) (by decide) (backOf (W := 0) (rm8_7 l Z a0 hw [] h0 n0 O w_AUGUST wE cE S_E ArE szE hel) hZ (ow hw 40 rfl) (ow hw 39 rfl) (by decide) (by decide)) (g := (mkF m 31 #[jv 8, .second, rv a1] [.int 8])) rfl (by rw [hml]; rfl) (argsL := [(.int (8 : Int32))]) (rest := []) (lenOf pd_4 rfl) rfl (by show 2 * 0 + _ ≤ _; exact Nat.le_of_eq rfl) (hb hby d7_31) (fun _ _ => ⟨rfl, e0, (by decide : 0 + 0 ≤ _), (by decide : 0 + 0 ≤ _)⟩)
  dsimp only [Pt.U, Pt.locs, Pt.cells, Pt.slots] at X1 lq1 yq1 zq1 st1 hQ1
  subst lq1 yq1 zq1
  obtain ⟨rfl, rfl, e1⟩ := hQ1
  try rw [List.append_nil] at X1
  refine gb st1 ?_
  show G T1 (mkF m 34 #[jv 8, .second, rv a1] [.ref w_AUGUST])
  exact go X1 (v := (some (.ref w_AUGUST))) (fun h => by rw [Bd.returns] at h; cases h) (fun fs hr => retOut X1 hx Bd.returns rfl (Or.inr (Or.inr (Or.inr (Or.inr ⟨rfl, rfl, rfl⟩)))) (hb hby d7_34) hr) (⟨rfl, rfl, e1⟩) (by decide) (by decide)
def Q_rm9_7 (Z : State) (h0 : Heap) (n0 : Nat) (w_AUGUST : Addr) : Option Value → Heap → List Loc → Prop := fun v h L => v = some (.ref w_AUGUST) ∧ L = [] ∧ h = h0
set_option maxRecDepth 65536 in
set_option maxHeartbeats 40000000 in
theorem rm9_7 (l : Launch) (Z : State) (a0 : Array Value) (hw : ∀ d ∈ tables_1, d.before a0 Z = true) (ws : List Jvm.Cond) (h0 : Heap) (n0 : Nat) (O : Old Z n0 h0) (w_AUGUST : Addr) (S_AUGUST : Sta Z Z.heap "java/time/Month" "AUGUST" "Ljava/time/Month;" (.ref w_AUGUST)) :
    MetFree l (⟨"com/example/ratchetbook/ratchetbook/tariff/AnnualMinimumMonthNumberedPinLaw", "expected", "(I)Ljava/time/Month;"⟩ : MethodName) (head1 (Jvm.Cond.code (⟨"com/example/ratchetbook/ratchetbook/tariff/AnnualMinimumMonthNumberedPinLaw", "expected", "(I)Ljava/time/Month;"⟩ : MethodName) method_3_code 1 (some (.object "java/time/Month")) :: ws) ({ frames := 0, cells := 0, slots := 0, locals := 0 } : Room)) (fun a U => a = #[(.int (8 : Int32))] ∧ Z.Warmed39 U.vm ∧ U.heap = h0) (fun _ _ _ _ _ => True) (fun _ U o U' => ∃ v L, o = .returned v ∧ (Q_rm9_7 Z h0 n0 w_AUGUST) v U'.heap L ∧ FrameEnd U o U' L ({ frames := 0, cells := 0, slots := 0, locals := 0 } : Room).cells ({ frames := 0, cells := 0, slots := 0, locals := 0 } : Room).slots) := by
  refine MetFree.of_bodySF (plainFor_of_name pn_4) hisR ?_
  intro p e s m args below meth c s₁ Bd hml0 hP hK
  obtain ⟨rfl, hZ, hh⟩ := hP
  have hx := Bd.exec
  have hby := Bd.bytes
  have hml : c.maxLocals = 1 := hml0
  have hown : s.vm.findClass "com/example/ratchetbook/ratchetbook/tariff/AnnualMinimumMonthNumberedPinLaw" = some m.cls := findClass_of_methodNamed Bd.named
  have hnm := (name_of_methodNamed Bd.named Bd.method).1
  have hlk := BodyLoose.notSynchronized Bd
  have X0 : Stand p l e ({ frames := 0, cells := 0, slots := 0, locals := 0 } : Room) s m #[(.int (8 : Int32))] below meth c s₁ [] 0 0 := Stand.of_body Bd
  have e0 : s₁.heap = h0 := by rw [← hh, Bd.state]; rfl
  have N := Fr.nil n0
  obtain ⟨G, hG⟩ : ∃ G : State → JFrame → Prop, G = OwnG p e below s ({ frames := 0, cells := 0, slots := 0, locals := 0 } : Room).cells ({ frames := 0, cells := 0, slots := 0, locals := 0 } : Room).slots (Q_rm9_7 Z h0 n0 w_AUGUST) := ⟨_, rfl⟩
  have gb : ∀ {T T' : State} {g g' : JFrame}, (∀ t, Steps p.tables e below (T'.setTop g') t → Steps p.tables e below (T.setTop g) t) → G T' g' → G T g := by subst hG; exact fun k h => own_by k h
  have go : ∀ {T : State} {locs : List Loc} {cells slots : Nat} {g : JFrame} {v : Option Value}, Stand p l e ({ frames := 0, cells := 0, slots := 0, locals := 0 } : Room) s m #[(.int (8 : Int32))] below meth c T locs cells slots → (meth.sig.returnType = none → v = none) → (∀ fs, (∀ (f : JFrame) (acts : List Action), f.method = m → f.locked = none → f.entered = [] → (doReturn e (T.setTop f) acts v).1 = T.setFrames fs) → Steps p.tables e below (T.setTop g) (T.setFrames fs)) → (Q_rm9_7 Z h0 n0 w_AUGUST) v T.heap locs → cells ≤ ({ frames := 0, cells := 0, slots := 0, locals := 0 } : Room).cells → slots ≤ ({ frames := 0, cells := 0, slots := 0, locals := 0 } : Room).slots → G T g := by subst hG; exact fun X h1 h2 h3 h4 h5 => own_out X hlk h1 h2 h3 h4 h5
  show OwnG p e below s ({ frames := 0, cells := 0, slots := 0, locals := 0 } : Room).cells ({ frames := 0, cells := 0, slots := 0, locals := 0 } : Room).slots (Q_rm9_7 Z h0 n0 w_AUGUST) s₁ (entryFrame m #[(.int (8 : Int32))] 1)
  rw [← hG, ef_rm9_7 m (8 : Int32)]
  clear hG
  show G s₁ (mkF m 0 #[.val (.int (8 : Int32))] [])
  refine gb (fun _ k => XS.iloadN X0.here hx rfl (hb hby d9_0) rfl (XS.iconst X0.here hx rfl (hb hby d9_1) (XS.icmpYes X0.here hx rfl (pc0 := 2) (pc' := 9) rfl (hb hby d9_2) rfl (feq (by decide : ¬ ((8 : Int32) = (1 : Int32)))).2 (by decide) (by decide) (XS.iloadN X0.here hx rfl (hb hby d9_9) rfl (XS.iconst X0.here hx rfl (hb hby d9_10) (XS.icmpYes X0.here hx rfl (pc0 := 11) (pc' := 18) rfl (hb hby d9_11) rfl (feq (by decide : ¬ ((8 : Int32) = (2 : Int32)))).2 (by decide) (by decide) k)))))) ?_
  show G s₁ (mkF m 18 #[iv 8] [])
  refine gb (fun _ k => XS.iloadN X0.here hx rfl (hb hby d9_18) rfl (XS.iconst X0.here hx rfl (hb hby d9_19) (XS.icmpYes X0.here hx rfl (pc0 := 20) (pc' := 27) rfl (hb hby d9_20) rfl (feq (by decide : ¬ ((8 : Int32) = (3 : Int32)))).2 (by decide) (by decide) (XS.iloadN X0.here hx rfl (hb hby d9_27) rfl (XS.iconst X0.here hx rfl (hb hby d9_28) (XS.icmpYes X0.here hx rfl (pc0 := 29) (pc' := 36) rfl (hb hby d9_29) rfl (feq (by decide : ¬ ((8 : Int32) = (4 : Int32)))).2 (by decide) (by decide) k)))))) ?_
  show G s₁ (mkF m 36 #[iv 8] [])
  refine gb (fun _ k => XS.iloadN X0.here hx rfl (hb hby d9_36) rfl (XS.iconst X0.here hx rfl (hb hby d9_37) (XS.icmpYes X0.here hx rfl (pc0 := 38) (pc' := 45) rfl (hb hby d9_38) rfl (feq (by decide : ¬ ((8 : Int32) = (5 : Int32)))).2 (by decide) (by decide) (XS.iloadN X0.here hx rfl (hb hby d9_45) rfl (XS.bipush X0.here hx rfl (hb hby d9_46) (XS.icmpYes X0.here hx rfl (pc0 := 48) (pc' := 55) rfl (hb hby d9_48) rfl (feq (by decide : ¬ ((8 : Int32) = (6 : Int32)))).2 (by decide) (by decide) k)))))) ?_
  show G s₁ (mkF m 55 #[iv 8] [])
  refine gb (fun _ k => XS.iloadN X0.here hx rfl (hb hby d9_55) rfl (XS.bipush X0.here hx rfl (hb hby d9_56) (XS.icmpYes X0.here hx rfl (pc0 := 58) (pc' := 65) rfl (hb hby d9_58) rfl (feq (by decide : ¬ ((8 : Int32) = (7 : Int32)))).2 (by decide) (by decide) (XS.iloadN X0.here hx rfl (hb hby d9_65) rfl (XS.bipush X0.here hx rfl (hb hby d9_66) (XS.icmpNo X0.here hx rfl (hb hby d9_68) rfl (teq (by decide : (8 : Int32) = (8 : Int32))).2 k)))))) ?_
  show G s₁ (mkF m 71 #[iv 8] [])
  obtain ⟨T1, X1, e1, st1⟩ := getS2 X0 hx hZ hown (host := "") (Or.inl (ow hw 47 rfl)) Via.refl e0 (S_AUGUST.ext O.2) (g := (mkF m 71 #[iv 8] [])) rfl (hb hby d9_71)
  refine gb st1 ?_
  show G T1 (mkF m 74 #[iv 8] [.ref w_AUGUST])
  exact go X1 (v := (some (.ref w_AUGUST))) (fun h => by rw [Bd.returns] at h; cases h) (fun fs hr => retOut X1 hx Bd.returns rfl (Or.inr (Or.inr (Or.inr (Or.inr ⟨rfl, rfl, rfl⟩)))) (hb hby d9_74) hr) (⟨rfl, rfl, e1⟩) (by decide) (by decide)
def Q_rm8_8 (Z : State) (h0 : Heap) (n0 : Nat) (w_SEPTEMBER : Addr) (wE : Addr) : Option Value → Heap → List Loc → Prop := fun v h L => v = some (.ref w_SEPTEMBER) ∧ L = [] ∧ h = h0
set_option maxRecDepth 65536 in
set_option maxHeartbeats 40000000 in
theorem rm8_8 (l : Launch) (Z : State) (a0 : Array Value) (hw : ∀ d ∈ tables_1, d.before a0 Z = true) (ws : List Jvm.Cond) (h0 : Heap) (n0 : Nat) (O : Old Z n0 h0) (w_SEPTEMBER : Addr) (wE : Addr) (cE : Cell) (S_E : Sta Z Z.heap "java/time/Month" "ENUMS" "[Ljava/time/Month;" (.ref wE)) (ArE : Arr Z Z.heap wE cE (.object "java/time/Month")) (szE : cE.slots.size = (12 : Int32).toNatClampNeg) (hel : cE.slots[((8 : Int32)).toNatClampNeg]? = some (.ref w_SEPTEMBER)) :
    MetFree l (⟨"java/time/Month", "of", "(I)Ljava/time/Month;"⟩ : MethodName) (head1 (Jvm.Cond.code (⟨"java/time/Month", "of", "(I)Ljava/time/Month;"⟩ : MethodName) jdk_2329_method_4_code 1 (some (.object "java/time/Month")) :: ws) ({ frames := 0, cells := 0, slots := 0, locals := 0 } : Room)) (fun a U => a = #[(.int (9 : Int32))] ∧ Z.Warmed39 U.vm ∧ U.heap = h0) (fun _ _ _ _ _ => True) (fun _ U o U' => ∃ v L, o = .returned v ∧ (Q_rm8_8 Z h0 n0 w_SEPTEMBER wE) v U'.heap L ∧ FrameEnd U o U' L ({ frames := 0, cells := 0, slots := 0, locals := 0 } : Room).cells ({ frames := 0, cells := 0, slots := 0, locals := 0 } : Room).slots) := by
  refine MetFree.of_bodySF (plainFor_of_name pn_2) hisR ?_
  intro p e s m args below meth c s₁ Bd hml0 hP hK
  obtain ⟨rfl, hZ, hh⟩ := hP
  have hx := Bd.exec
  have hby := Bd.bytes
  have hml : c.maxLocals = 1 := hml0
  have hown : s.vm.findClass "java/time/Month" = some m.cls := findClass_of_methodNamed Bd.named
  have hnm := (name_of_methodNamed Bd.named Bd.method).1
  have hlk := BodyLoose.notSynchronized Bd
  have X0 : Stand p l e ({ frames := 0, cells := 0, slots := 0, locals := 0 } : Room) s m #[(.int (9 : Int32))] below meth c s₁ [] 0 0 := Stand.of_body Bd
  have e0 : s₁.heap = h0 := by rw [← hh, Bd.state]; rfl
  have N := Fr.nil n0
  obtain ⟨G, hG⟩ : ∃ G : State → JFrame → Prop, G = OwnG p e below s ({ frames := 0, cells := 0, slots := 0, locals := 0 } : Room).cells ({ frames := 0, cells := 0, slots := 0, locals := 0 } : Room).slots (Q_rm8_8 Z h0 n0 w_SEPTEMBER wE) := ⟨_, rfl⟩
  have gb : ∀ {T T' : State} {g g' : JFrame}, (∀ t, Steps p.tables e below (T'.setTop g') t → Steps p.tables e below (T.setTop g) t) → G T' g' → G T g := by subst hG; exact fun k h => own_by k h
  have go : ∀ {T : State} {locs : List Loc} {cells slots : Nat} {g : JFrame} {v : Option Value}, Stand p l e ({ frames := 0, cells := 0, slots := 0, locals := 0 } : Room) s m #[(.int (9 : Int32))] below meth c T locs cells slots → (meth.sig.returnType = none → v = none) → (∀ fs, (∀ (f : JFrame) (acts : List Action), f.method = m → f.locked = none → f.entered = [] → (doReturn e (T.setTop f) acts v).1 = T.setFrames fs) → Steps p.tables e below (T.setTop g) (T.setFrames fs)) → (Q_rm8_8 Z h0 n0 w_SEPTEMBER wE) v T.heap locs → cells ≤ ({ frames := 0, cells := 0, slots := 0, locals := 0 } : Room).cells → slots ≤ ({ frames := 0, cells := 0, slots := 0, locals := 0 } : Room).slots → G T g := by subst hG; exact fun X h1 h2 h3 h4 h5 => own_out X hlk h1 h2 h3 h4 h5
  show OwnG p e below s ({ frames := 0, cells := 0, slots := 0, locals := 0 } : Room).cells ({ frames := 0, cells := 0, slots := 0, locals := 0 } : Room).slots (Q_rm8_8 Z h0 n0 w_SEPTEMBER wE) s₁ (entryFrame m #[(.int (9 : Int32))] 1)
  rw [← hG, ef_rm8_8 m (9 : Int32)]
  clear hG
  show G s₁ (mkF m 0 #[.val (.int (9 : Int32))] [])
  refine gb (fun _ k => XS.iloadN X0.here hx rfl (hb hby d8_0) rfl (XS.iconst X0.here hx rfl (hb hby d8_1) (XS.icmpNo X0.here hx rfl (hb hby d8_2) rfl (flt (by decide : ¬ ((9 : Int32) < (1 : Int32)))).1 (XS.iloadN X0.here hx rfl (hb hby d8_5) rfl (XS.bipush X0.here hx rfl (hb hby d8_6) (XS.icmpYes X0.here hx rfl (pc0 := 8) (pc' := 38) rfl (hb hby d8_8) rfl (flt (by decide : ¬ ((12 : Int32) < (9 : Int32)))).2.2.2 (by decide) (by decide) k)))))) ?_
  show G s₁ (mkF m 38 #[iv 9] [])
  obtain ⟨T1, X1, e1, st1⟩ := getS2 X0 hx hZ hown (host := "") (Or.inl (ow hw 41 rfl)) Via.refl e0 (S_E.ext O.2) (g := (mkF m 38 #[iv 9] [])) rfl (hb hby d8_38)
  refine gb st1 ?_
  show G T1 (mkF m 41 #[iv 9] [.ref wE])
  refine gb (fun _ k => XS.iloadN X1.here hx rfl (hb hby d8_41) rfl (XS.iconst X1.here hx rfl (hb hby d8_42) (XS.isub X1.here hx rfl (hb hby d8_43) rfl k))) ?_
  show G T1 (mkF m 44 #[iv 9] [.int 8, .ref wE])
  have ArE' := ArE.ext O.2
  refine gb (X1.aaload hx (j := (8 : Int32)) (v := .ref w_SEPTEMBER) (by rw [e1]; exact ArE'.1) (State.isArrayOf_alike hZ.alike ArE'.2.1) rfl ArE'.2.2 (inb_of szE ⟨by decide, by decide⟩) hel (g := (mkF m 44 #[iv 9] [.int 8, .ref wE])) rfl rfl (hb hby d8_44)) ?_
  show G T1 (mkF m 45 #[iv 9] [.ref w_SEPTEMBER])
  exact go X1 (v := (some (.ref w_SEPTEMBER))) (fun h => by rw [Bd.returns] at h; cases h) (fun fs hr => retOut X1 hx Bd.returns rfl (Or.inr (Or.inr (Or.inr (Or.inr ⟨rfl, rfl, rfl⟩)))) (hb hby d8_45) hr) (⟨rfl, rfl, e1⟩) (by decide) (by decide)
def Q_rm7_8 (Z : State) (a1 : Addr) (h0 : Heap) (n0 : Nat) (w_SEPTEMBER : Addr) (wE : Addr) : Option Value → Heap → List Loc → Prop := fun v h L => v = some (.ref w_SEPTEMBER) ∧ L = [] ∧ h = h0
set_option maxRecDepth 65536 in
set_option maxHeartbeats 40000000 in
theorem rm7_8 (l : Launch) (Z : State) (a0 : Array Value) (hw : ∀ d ∈ tables_1, d.before a0 Z = true) (ws : List Jvm.Cond) (a1 : Addr) (h0 : Heap) (n0 : Nat) (O : Old Z n0 h0) (w_SEPTEMBER : Addr) (wE : Addr) (cE : Cell) (S_E : Sta Z Z.heap "java/time/Month" "ENUMS" "[Ljava/time/Month;" (.ref wE)) (ArE : Arr Z Z.heap wE cE (.object "java/time/Month")) (szE : cE.slots.size = (12 : Int32).toNatClampNeg) (hel : cE.slots[((8 : Int32)).toNatClampNeg]? = some (.ref w_SEPTEMBER)) :
    MetFree l (⟨"com/example/ratchetbook/ratchetbook/tariff/AnnualMinimum", "monthNumbered", "(JLjava/lang/String;)Ljava/time/Month;"⟩ : MethodName) (head1 (Jvm.Cond.code (⟨"com/example/ratchetbook/ratchetbook/tariff/AnnualMinimum", "monthNumbered", "(JLjava/lang/String;)Ljava/time/Month;"⟩ : MethodName) prog_84_method_2_code 3 (some (.object "java/time/Month")) :: ws) ({ frames := 1, cells := 0, slots := 0, locals := 12 } : Room)) (fun a U => a = #[(.long (9 : Int64)), (.ref a1)] ∧ Z.Warmed39 U.vm ∧ U.heap = h0) (fun _ _ _ _ _ => True) (fun _ U o U' => ∃ v L, o = .returned v ∧ (Q_rm7_8 Z a1 h0 n0 w_SEPTEMBER wE) v U'.heap L ∧ FrameEnd U o U' L ({ frames := 1, cells := 0, slots := 0, locals := 12 } : Room).cells ({ frames := 1, cells := 0, slots := 0, locals := 12 } : Room).slots) := by
  refine MetFree.of_bodySF (plainFor_of_name pn_3) hisR ?_
  intro p e s m args below meth c s₁ Bd hml0 hP hK
  obtain ⟨rfl, hZ, hh⟩ := hP
  have hx := Bd.exec
  have hby := Bd.bytes
  have hml : c.maxLocals = 3 := hml0
  have hown : s.vm.findClass "com/example/ratchetbook/ratchetbook/tariff/AnnualMinimum" = some m.cls := findClass_of_methodNamed Bd.named
  have hnm := (name_of_methodNamed Bd.named Bd.method).1
  have hlk := BodyLoose.notSynchronized Bd
  have X0 : Stand p l e ({ frames := 1, cells := 0, slots := 0, locals := 12 } : Room) s m #[(.long (9 : Int64)), (.ref a1)] below meth c s₁ [] 0 0 := Stand.of_body Bd
  have e0 : s₁.heap = h0 := by rw [← hh, Bd.state]; rfl
  have N := Fr.nil n0
  obtain ⟨G, hG⟩ : ∃ G : State → JFrame → Prop, G = OwnG p e below s ({ frames := 1, cells := 0, slots := 0, locals := 12 } : Room).cells ({ frames := 1, cells := 0, slots := 0, locals := 12 } : Room).slots (Q_rm7_8 Z a1 h0 n0 w_SEPTEMBER wE) := ⟨_, rfl⟩
  have gb : ∀ {T T' : State} {g g' : JFrame}, (∀ t, Steps p.tables e below (T'.setTop g') t → Steps p.tables e below (T.setTop g) t) → G T' g' → G T g := by subst hG; exact fun k h => own_by k h
  have go : ∀ {T : State} {locs : List Loc} {cells slots : Nat} {g : JFrame} {v : Option Value}, Stand p l e ({ frames := 1, cells := 0, slots := 0, locals := 12 } : Room) s m #[(.long (9 : Int64)), (.ref a1)] below meth c T locs cells slots → (meth.sig.returnType = none → v = none) → (∀ fs, (∀ (f : JFrame) (acts : List Action), f.method = m → f.locked = none → f.entered = [] → (doReturn e (T.setTop f) acts v).1 = T.setFrames fs) → Steps p.tables e below (T.setTop g) (T.setFrames fs)) → (Q_rm7_8 Z a1 h0 n0 w_SEPTEMBER wE) v T.heap locs → cells ≤ ({ frames := 1, cells := 0, slots := 0, locals := 12 } : Room).cells → slots ≤ ({ frames := 1, cells := 0, slots := 0, locals := 12 } : Room).slots → G T g := by subst hG; exact fun X h1 h2 h3 h4 h5 => own_out X hlk h1 h2 h3 h4 h5
  show OwnG p e below s ({ frames := 1, cells := 0, slots := 0, locals := 12 } : Room).cells ({ frames := 1, cells := 0, slots := 0, locals := 12 } : Room).slots (Q_rm7_8 Z a1 h0 n0 w_SEPTEMBER wE) s₁ (entryFrame m #[(.long (9 : Int64)), (.ref a1)] 3)
  rw [← hG, ef_rm7_8 m (9 : Int64) a1]
  clear hG
  show G s₁ (mkF m 0 #[.val (.long (9 : Int64)), .second, .val (.ref a1)] [])
  refine gb (fun _ k => XS.lloadN X0.here hx rfl (hb hby d7_0) rfl (XS.lconst X0.here hx rfl (hb hby d7_1) (XS.lcmp X0.here hx rfl (hb hby d7_2) rfl (XS.ifNo X0.here hx rfl (hb hby d7_3) rfl ((if0 _ _).trans (flt (fun q => (by decide : ¬ ((9 : Int64) < (1 : Int64))) ((own_lt _ _).mp q))).1) (XS.lloadN X0.here hx rfl (hb hby d7_6) rfl k))))) ?_
  show G s₁ (mkF m 7 #[jv 9, .second, rv a1] [.long 9])
  refine gb (X0.ldc2Long hx hown (mvT hZ (ow hw 36 rfl)) (g := (mkF m 7 #[jv 9, .second, rv a1] [.long 9])) rfl (hb hby d7_7)) ?_
  show G s₁ (mkF m 10 #[jv 9, .second, rv a1] [.long 12, .long 9])
  refine gb (fun _ k => XS.lcmp X0.here hx rfl (hb hby d7_10) rfl (XS.ifYes X0.here hx rfl (pc0 := 11) (pc' := 29) rfl (hb hby d7_11) rfl ((if0 _ _).trans (flt (fun q => (by decide : ¬ ((12 : Int64) < (9 : Int64))) ((own_gt _ _).mp q))).2.2.2) (by decide) (by decide) (XS.lloadN X0.here hx rfl (hb hby d7_29) rfl (XS.l2i X0.here hx rfl (hb hby d7_30) rfl k)))) ?_
  show G s₁ (mkF m 31 #[jv 9, .second, rv a1] [.int 9])
  obtain ⟨_, _, ⟨T1, Lz1, kz1, nz1⟩, -, X1, ⟨Lc1, hQ1, lq1, yq1, zq1⟩, st1⟩ := Jvm.LawKit.callS X0 hx (y := (⟨"java/time/Month", "of", "(I)Ljava/time/Month;"⟩ : MethodName)) hown (mvT hZ (ow hw 37 rfl)) (mvT hZ (ow hw 38 rfl)) (mvT hZ (ow hw 39 rfl)) (mvT hZ (ow hw 40 rfl)) (by decide) (backOf (W := 0) (rm8_8 l Z a0 hw [] h0 n0 O w_SEPTEMBER wE cE S_E ArE szE hel) hZ (ow hw 40 rfl) (ow hw 39 rfl) (by decide) (by decide)) (g := (mkF m 31 #[jv 9, .second, rv a1] [.int 9])) rfl (by rw [hml]; rfl) (argsL := [(.int (9 : Int32))]) (rest := []) (lenOf pd_4 rfl) rfl (by show 2 * 0 + _ ≤ _; exact Nat.le_of_eq rfl) (hb hby d7_31) (fun _ _ => ⟨rfl, e0, (by decide : 0 + 0 ≤ _), (by decide : 0 + 0 ≤ _)⟩)
  dsimp only [Pt.U, Pt.locs, Pt.cells, Pt.slots] at X1 lq1 yq1 zq1 st1 hQ1
  subst lq1 yq1 zq1
  obtain ⟨rfl, rfl, e1⟩ := hQ1
  try rw [List.append_nil] at X1
  refine gb st1 ?_
  show G T1 (mkF m 34 #[jv 9, .second, rv a1] [.ref w_SEPTEMBER])
  exact go X1 (v := (some (.ref w_SEPTEMBER))) (fun h => by rw [Bd.returns] at h; cases h) (fun fs hr => retOut X1 hx Bd.returns rfl (Or.inr (Or.inr (Or.inr (Or.inr ⟨rfl, rfl, rfl⟩)))) (hb hby d7_34) hr) (⟨rfl, rfl, e1⟩) (by decide) (by decide)
def Q_rm9_8 (Z : State) (h0 : Heap) (n0 : Nat) (w_SEPTEMBER : Addr) : Option Value → Heap → List Loc → Prop := fun v h L => v = some (.ref w_SEPTEMBER) ∧ L = [] ∧ h = h0
set_option maxRecDepth 65536 in
set_option maxHeartbeats 40000000 in
theorem rm9_8 (l : Launch) (Z : State) (a0 : Array Value) (hw : ∀ d ∈ tables_1, d.before a0 Z = true) (ws : List Jvm.Cond) (h0 : Heap) (n0 : Nat) (O : Old Z n0 h0) (w_SEPTEMBER : Addr) (S_SEPTEMBER : Sta Z Z.heap "java/time/Month" "SEPTEMBER" "Ljava/time/Month;" (.ref w_SEPTEMBER)) :
    MetFree l (⟨"com/example/ratchetbook/ratchetbook/tariff/AnnualMinimumMonthNumberedPinLaw", "expected", "(I)Ljava/time/Month;"⟩ : MethodName) (head1 (Jvm.Cond.code (⟨"com/example/ratchetbook/ratchetbook/tariff/AnnualMinimumMonthNumberedPinLaw", "expected", "(I)Ljava/time/Month;"⟩ : MethodName) method_3_code 1 (some (.object "java/time/Month")) :: ws) ({ frames := 0, cells := 0, slots := 0, locals := 0 } : Room)) (fun a U => a = #[(.int (9 : Int32))] ∧ Z.Warmed39 U.vm ∧ U.heap = h0) (fun _ _ _ _ _ => True) (fun _ U o U' => ∃ v L, o = .returned v ∧ (Q_rm9_8 Z h0 n0 w_SEPTEMBER) v U'.heap L ∧ FrameEnd U o U' L ({ frames := 0, cells := 0, slots := 0, locals := 0 } : Room).cells ({ frames := 0, cells := 0, slots := 0, locals := 0 } : Room).slots) := by
  refine MetFree.of_bodySF (plainFor_of_name pn_4) hisR ?_
  intro p e s m args below meth c s₁ Bd hml0 hP hK
  obtain ⟨rfl, hZ, hh⟩ := hP
  have hx := Bd.exec
  have hby := Bd.bytes
  have hml : c.maxLocals = 1 := hml0
  have hown : s.vm.findClass "com/example/ratchetbook/ratchetbook/tariff/AnnualMinimumMonthNumberedPinLaw" = some m.cls := findClass_of_methodNamed Bd.named
  have hnm := (name_of_methodNamed Bd.named Bd.method).1
  have hlk := BodyLoose.notSynchronized Bd
  have X0 : Stand p l e ({ frames := 0, cells := 0, slots := 0, locals := 0 } : Room) s m #[(.int (9 : Int32))] below meth c s₁ [] 0 0 := Stand.of_body Bd
  have e0 : s₁.heap = h0 := by rw [← hh, Bd.state]; rfl
  have N := Fr.nil n0
  obtain ⟨G, hG⟩ : ∃ G : State → JFrame → Prop, G = OwnG p e below s ({ frames := 0, cells := 0, slots := 0, locals := 0 } : Room).cells ({ frames := 0, cells := 0, slots := 0, locals := 0 } : Room).slots (Q_rm9_8 Z h0 n0 w_SEPTEMBER) := ⟨_, rfl⟩
  have gb : ∀ {T T' : State} {g g' : JFrame}, (∀ t, Steps p.tables e below (T'.setTop g') t → Steps p.tables e below (T.setTop g) t) → G T' g' → G T g := by subst hG; exact fun k h => own_by k h
  have go : ∀ {T : State} {locs : List Loc} {cells slots : Nat} {g : JFrame} {v : Option Value}, Stand p l e ({ frames := 0, cells := 0, slots := 0, locals := 0 } : Room) s m #[(.int (9 : Int32))] below meth c T locs cells slots → (meth.sig.returnType = none → v = none) → (∀ fs, (∀ (f : JFrame) (acts : List Action), f.method = m → f.locked = none → f.entered = [] → (doReturn e (T.setTop f) acts v).1 = T.setFrames fs) → Steps p.tables e below (T.setTop g) (T.setFrames fs)) → (Q_rm9_8 Z h0 n0 w_SEPTEMBER) v T.heap locs → cells ≤ ({ frames := 0, cells := 0, slots := 0, locals := 0 } : Room).cells → slots ≤ ({ frames := 0, cells := 0, slots := 0, locals := 0 } : Room).slots → G T g := by subst hG; exact fun X h1 h2 h3 h4 h5 => own_out X hlk h1 h2 h3 h4 h5
  show OwnG p e below s ({ frames := 0, cells := 0, slots := 0, locals := 0 } : Room).cells ({ frames := 0, cells := 0, slots := 0, locals := 0 } : Room).slots (Q_rm9_8 Z h0 n0 w_SEPTEMBER) s₁ (entryFrame m #[(.int (9 : Int32))] 1)
  rw [← hG, ef_rm9_8 m (9 : Int32)]
  clear hG
  show G s₁ (mkF m 0 #[.val (.int (9 : Int32))] [])
  refine gb (fun _ k => XS.iloadN X0.here hx rfl (hb hby d9_0) rfl (XS.iconst X0.here hx rfl (hb hby d9_1) (XS.icmpYes X0.here hx rfl (pc0 := 2) (pc' := 9) rfl (hb hby d9_2) rfl (feq (by decide : ¬ ((9 : Int32) = (1 : Int32)))).2 (by decide) (by decide) (XS.iloadN X0.here hx rfl (hb hby d9_9) rfl (XS.iconst X0.here hx rfl (hb hby d9_10) (XS.icmpYes X0.here hx rfl (pc0 := 11) (pc' := 18) rfl (hb hby d9_11) rfl (feq (by decide : ¬ ((9 : Int32) = (2 : Int32)))).2 (by decide) (by decide) k)))))) ?_
  show G s₁ (mkF m 18 #[iv 9] [])
  refine gb (fun _ k => XS.iloadN X0.here hx rfl (hb hby d9_18) rfl (XS.iconst X0.here hx rfl (hb hby d9_19) (XS.icmpYes X0.here hx rfl (pc0 := 20) (pc' := 27) rfl (hb hby d9_20) rfl (feq (by decide : ¬ ((9 : Int32) = (3 : Int32)))).2 (by decide) (by decide) (XS.iloadN X0.here hx rfl (hb hby d9_27) rfl (XS.iconst X0.here hx rfl (hb hby d9_28) (XS.icmpYes X0.here hx rfl (pc0 := 29) (pc' := 36) rfl (hb hby d9_29) rfl (feq (by decide : ¬ ((9 : Int32) = (4 : Int32)))).2 (by decide) (by decide) k)))))) ?_
  show G s₁ (mkF m 36 #[iv 9] [])
  refine gb (fun _ k => XS.iloadN X0.here hx rfl (hb hby d9_36) rfl (XS.iconst X0.here hx rfl (hb hby d9_37) (XS.icmpYes X0.here hx rfl (pc0 := 38) (pc' := 45) rfl (hb hby d9_38) rfl (feq (by decide : ¬ ((9 : Int32) = (5 : Int32)))).2 (by decide) (by decide) (XS.iloadN X0.here hx rfl (hb hby d9_45) rfl (XS.bipush X0.here hx rfl (hb hby d9_46) (XS.icmpYes X0.here hx rfl (pc0 := 48) (pc' := 55) rfl (hb hby d9_48) rfl (feq (by decide : ¬ ((9 : Int32) = (6 : Int32)))).2 (by decide) (by decide) k)))))) ?_
  show G s₁ (mkF m 55 #[iv 9] [])
  refine gb (fun _ k => XS.iloadN X0.here hx rfl (hb hby d9_55) rfl (XS.bipush X0.here hx rfl (hb hby d9_56) (XS.icmpYes X0.here hx rfl (pc0 := 58) (pc' := 65) rfl (hb hby d9_58) rfl (feq (by decide : ¬ ((9 : Int32) = (7 : Int32)))).2 (by decide) (by decide) (XS.iloadN X0.here hx rfl (hb hby d9_65) rfl (XS.bipush X0.here hx rfl (hb hby d9_66) (XS.icmpYes X0.here hx rfl (pc0 := 68) (pc' := 75) rfl (hb hby d9_68) rfl (feq (by decide : ¬ ((9 : Int32) = (8 : Int32)))).2 (by decide) (by decide) k)))))) ?_
  show G s₁ (mkF m 75 #[iv 9] [])
  refine gb (fun _ k => XS.iloadN X0.here hx rfl (hb hby d9_75) rfl (XS.bipush X0.here hx rfl (hb hby d9_76) (XS.icmpNo X0.here hx rfl (hb hby d9_78) rfl (teq (by decide : (9 : Int32) = (9 : Int32))).2 k))) ?_
  show G s₁ (mkF m 81 #[iv 9] [])
  obtain ⟨T1, X1, e1, st1⟩ := getS2 X0 hx hZ hown (host := "") (Or.inl (ow hw 56 rfl)) Via.refl e0 (S_SEPTEMBER.ext O.2) (g := (mkF m 81 #[iv 9] [])) rfl (hb hby d9_81)
  refine gb st1 ?_
  show G T1 (mkF m 84 #[iv 9] [.ref w_SEPTEMBER])
  exact go X1 (v := (some (.ref w_SEPTEMBER))) (fun h => by rw [Bd.returns] at h; cases h) (fun fs hr => retOut X1 hx Bd.returns rfl (Or.inr (Or.inr (Or.inr (Or.inr ⟨rfl, rfl, rfl⟩)))) (hb hby d9_84) hr) (⟨rfl, rfl, e1⟩) (by decide) (by decide)
def Q_rm8_9 (Z : State) (h0 : Heap) (n0 : Nat) (w_OCTOBER : Addr) (wE : Addr) : Option Value → Heap → List Loc → Prop := fun v h L => v = some (.ref w_OCTOBER) ∧ L = [] ∧ h = h0
set_option maxRecDepth 65536 in
set_option maxHeartbeats 40000000 in
theorem rm8_9 (l : Launch) (Z : State) (a0 : Array Value) (hw : ∀ d ∈ tables_1, d.before a0 Z = true) (ws : List Jvm.Cond) (h0 : Heap) (n0 : Nat) (O : Old Z n0 h0) (w_OCTOBER : Addr) (wE : Addr) (cE : Cell) (S_E : Sta Z Z.heap "java/time/Month" "ENUMS" "[Ljava/time/Month;" (.ref wE)) (ArE : Arr Z Z.heap wE cE (.object "java/time/Month")) (szE : cE.slots.size = (12 : Int32).toNatClampNeg) (hel : cE.slots[((9 : Int32)).toNatClampNeg]? = some (.ref w_OCTOBER)) :
    MetFree l (⟨"java/time/Month", "of", "(I)Ljava/time/Month;"⟩ : MethodName) (head1 (Jvm.Cond.code (⟨"java/time/Month", "of", "(I)Ljava/time/Month;"⟩ : MethodName) jdk_2329_method_4_code 1 (some (.object "java/time/Month")) :: ws) ({ frames := 0, cells := 0, slots := 0, locals := 0 } : Room)) (fun a U => a = #[(.int (10 : Int32))] ∧ Z.Warmed39 U.vm ∧ U.heap = h0) (fun _ _ _ _ _ => True) (fun _ U o U' => ∃ v L, o = .returned v ∧ (Q_rm8_9 Z h0 n0 w_OCTOBER wE) v U'.heap L ∧ FrameEnd U o U' L ({ frames := 0, cells := 0, slots := 0, locals := 0 } : Room).cells ({ frames := 0, cells := 0, slots := 0, locals := 0 } : Room).slots) := by
  refine MetFree.of_bodySF (plainFor_of_name pn_2) hisR ?_
  intro p e s m args below meth c s₁ Bd hml0 hP hK
  obtain ⟨rfl, hZ, hh⟩ := hP
  have hx := Bd.exec
  have hby := Bd.bytes
  have hml : c.maxLocals = 1 := hml0
  have hown : s.vm.findClass "java/time/Month" = some m.cls := findClass_of_methodNamed Bd.named
  have hnm := (name_of_methodNamed Bd.named Bd.method).1
  have hlk := BodyLoose.notSynchronized Bd
  have X0 : Stand p l e ({ frames := 0, cells := 0, slots := 0, locals := 0 } : Room) s m #[(.int (10 : Int32))] below meth c s₁ [] 0 0 := Stand.of_body Bd
  have e0 : s₁.heap = h0 := by rw [← hh, Bd.state]; rfl
  have N := Fr.nil n0
  obtain ⟨G, hG⟩ : ∃ G : State → JFrame → Prop, G = OwnG p e below s ({ frames := 0, cells := 0, slots := 0, locals := 0 } : Room).cells ({ frames := 0, cells := 0, slots := 0, locals := 0 } : Room).slots (Q_rm8_9 Z h0 n0 w_OCTOBER wE) := ⟨_, rfl⟩
  have gb : ∀ {T T' : State} {g g' : JFrame}, (∀ t, Steps p.tables e below (T'.setTop g') t → Steps p.tables e below (T.setTop g) t) → G T' g' → G T g := by subst hG; exact fun k h => own_by k h
  have go : ∀ {T : State} {locs : List Loc} {cells slots : Nat} {g : JFrame} {v : Option Value}, Stand p l e ({ frames := 0, cells := 0, slots := 0, locals := 0 } : Room) s m #[(.int (10 : Int32))] below meth c T locs cells slots → (meth.sig.returnType = none → v = none) → (∀ fs, (∀ (f : JFrame) (acts : List Action), f.method = m → f.locked = none → f.entered = [] → (doReturn e (T.setTop f) acts v).1 = T.setFrames fs) → Steps p.tables e below (T.setTop g) (T.setFrames fs)) → (Q_rm8_9 Z h0 n0 w_OCTOBER wE) v T.heap locs → cells ≤ ({ frames := 0, cells := 0, slots := 0, locals := 0 } : Room).cells → slots ≤ ({ frames := 0, cells := 0, slots := 0, locals := 0 } : Room).slots → G T g := by subst hG; exact fun X h1 h2 h3 h4 h5 => own_out X hlk h1 h2 h3 h4 h5
  show OwnG p e below s ({ frames := 0, cells := 0, slots := 0, locals := 0 } : Room).cells ({ frames := 0, cells := 0, slots := 0, locals := 0 } : Room).slots (Q_rm8_9 Z h0 n0 w_OCTOBER wE) s₁ (entryFrame m #[(.int (10 : Int32))] 1)
  rw [← hG, ef_rm8_9 m (10 : Int32)]
  clear hG
  show G s₁ (mkF m 0 #[.val (.int (10 : Int32))] [])
  refine gb (fun _ k => XS.iloadN X0.here hx rfl (hb hby d8_0) rfl (XS.iconst X0.here hx rfl (hb hby d8_1) (XS.icmpNo X0.here hx rfl (hb hby d8_2) rfl (flt (by decide : ¬ ((10 : Int32) < (1 : Int32)))).1 (XS.iloadN X0.here hx rfl (hb hby d8_5) rfl (XS.bipush X0.here hx rfl (hb hby d8_6) (XS.icmpYes X0.here hx rfl (pc0 := 8) (pc' := 38) rfl (hb hby d8_8) rfl (flt (by decide : ¬ ((12 : Int32) < (10 : Int32)))).2.2.2 (by decide) (by decide) k)))))) ?_
  show G s₁ (mkF m 38 #[iv 10] [])
  obtain ⟨T1, X1, e1, st1⟩ := getS2 X0 hx hZ hown (host := "") (Or.inl (ow hw 41 rfl)) Via.refl e0 (S_E.ext O.2) (g := (mkF m 38 #[iv 10] [])) rfl (hb hby d8_38)
  refine gb st1 ?_
  show G T1 (mkF m 41 #[iv 10] [.ref wE])
  refine gb (fun _ k => XS.iloadN X1.here hx rfl (hb hby d8_41) rfl (XS.iconst X1.here hx rfl (hb hby d8_42) (XS.isub X1.here hx rfl (hb hby d8_43) rfl k))) ?_
  show G T1 (mkF m 44 #[iv 10] [.int 9, .ref wE])
  have ArE' := ArE.ext O.2
  refine gb (X1.aaload hx (j := (9 : Int32)) (v := .ref w_OCTOBER) (by rw [e1]; exact ArE'.1) (State.isArrayOf_alike hZ.alike ArE'.2.1) rfl ArE'.2.2 (inb_of szE ⟨by decide, by decide⟩) hel (g := (mkF m 44 #[iv 10] [.int 9, .ref wE])) rfl rfl (hb hby d8_44)) ?_
  show G T1 (mkF m 45 #[iv 10] [.ref w_OCTOBER])
  exact go X1 (v := (some (.ref w_OCTOBER))) (fun h => by rw [Bd.returns] at h; cases h) (fun fs hr => retOut X1 hx Bd.returns rfl (Or.inr (Or.inr (Or.inr (Or.inr ⟨rfl, rfl, rfl⟩)))) (hb hby d8_45) hr) (⟨rfl, rfl, e1⟩) (by decide) (by decide)
def Q_rm7_9 (Z : State) (a1 : Addr) (h0 : Heap) (n0 : Nat) (w_OCTOBER : Addr) (wE : Addr) : Option Value → Heap → List Loc → Prop := fun v h L => v = some (.ref w_OCTOBER) ∧ L = [] ∧ h = h0
set_option maxRecDepth 65536 in
set_option maxHeartbeats 40000000 in
theorem rm7_9 (l : Launch) (Z : State) (a0 : Array Value) (hw : ∀ d ∈ tables_1, d.before a0 Z = true) (ws : List Jvm.Cond) (a1 : Addr) (h0 : Heap) (n0 : Nat) (O : Old Z n0 h0) (w_OCTOBER : Addr) (wE : Addr) (cE : Cell) (S_E : Sta Z Z.heap "java/time/Month" "ENUMS" "[Ljava/time/Month;" (.ref wE)) (ArE : Arr Z Z.heap wE cE (.object "java/time/Month")) (szE : cE.slots.size = (12 : Int32).toNatClampNeg) (hel : cE.slots[((9 : Int32)).toNatClampNeg]? = some (.ref w_OCTOBER)) :
    MetFree l (⟨"com/example/ratchetbook/ratchetbook/tariff/AnnualMinimum", "monthNumbered", "(JLjava/lang/String;)Ljava/time/Month;"⟩ : MethodName) (head1 (Jvm.Cond.code (⟨"com/example/ratchetbook/ratchetbook/tariff/AnnualMinimum", "monthNumbered", "(JLjava/lang/String;)Ljava/time/Month;"⟩ : MethodName) prog_84_method_2_code 3 (some (.object "java/time/Month")) :: ws) ({ frames := 1, cells := 0, slots := 0, locals := 12 } : Room)) (fun a U => a = #[(.long (10 : Int64)), (.ref a1)] ∧ Z.Warmed39 U.vm ∧ U.heap = h0) (fun _ _ _ _ _ => True) (fun _ U o U' => ∃ v L, o = .returned v ∧ (Q_rm7_9 Z a1 h0 n0 w_OCTOBER wE) v U'.heap L ∧ FrameEnd U o U' L ({ frames := 1, cells := 0, slots := 0, locals := 12 } : Room).cells ({ frames := 1, cells := 0, slots := 0, locals := 12 } : Room).slots) := by
  refine MetFree.of_bodySF (plainFor_of_name pn_3) hisR ?_
  intro p e s m args below meth c s₁ Bd hml0 hP hK
  obtain ⟨rfl, hZ, hh⟩ := hP
  have hx := Bd.exec
  have hby := Bd.bytes
  have hml : c.maxLocals = 3 := hml0
  have hown : s.vm.findClass "com/example/ratchetbook/ratchetbook/tariff/AnnualMinimum" = some m.cls := findClass_of_methodNamed Bd.named
  have hnm := (name_of_methodNamed Bd.named Bd.method).1
  have hlk := BodyLoose.notSynchronized Bd
  have X0 : Stand p l e ({ frames := 1, cells := 0, slots := 0, locals := 12 } : Room) s m #[(.long (10 : Int64)), (.ref a1)] below meth c s₁ [] 0 0 := Stand.of_body Bd
  have e0 : s₁.heap = h0 := by rw [← hh, Bd.state]; rfl
  have N := Fr.nil n0
  obtain ⟨G, hG⟩ : ∃ G : State → JFrame → Prop, G = OwnG p e below s ({ frames := 1, cells := 0, slots := 0, locals := 12 } : Room).cells ({ frames := 1, cells := 0, slots := 0, locals := 12 } : Room).slots (Q_rm7_9 Z a1 h0 n0 w_OCTOBER wE) := ⟨_, rfl⟩
  have gb : ∀ {T T' : State} {g g' : JFrame}, (∀ t, Steps p.tables e below (T'.setTop g') t → Steps p.tables e below (T.setTop g) t) → G T' g' → G T g := by subst hG; exact fun k h => own_by k h
  have go : ∀ {T : State} {locs : List Loc} {cells slots : Nat} {g : JFrame} {v : Option Value}, Stand p l e ({ frames := 1, cells := 0, slots := 0, locals := 12 } : Room) s m #[(.long (10 : Int64)), (.ref a1)] below meth c T locs cells slots → (meth.sig.returnType = none → v = none) → (∀ fs, (∀ (f : JFrame) (acts : List Action), f.method = m → f.locked = none → f.entered = [] → (doReturn e (T.setTop f) acts v).1 = T.setFrames fs) → Steps p.tables e below (T.setTop g) (T.setFrames fs)) → (Q_rm7_9 Z a1 h0 n0 w_OCTOBER wE) v T.heap locs → cells ≤ ({ frames := 1, cells := 0, slots := 0, locals := 12 } : Room).cells → slots ≤ ({ frames := 1, cells := 0, slots := 0, locals := 12 } : Room).slots → G T g := by subst hG; exact fun X h1 h2 h3 h4 h5 => own_out X hlk h1 h2 h3 h4 h5
  show OwnG p e below s ({ frames := 1, cells := 0, slots := 0, locals := 12 } : Room).cells ({ frames := 1, cells := 0, slots := 0, locals := 12 } : Room).slots (Q_rm7_9 Z a1 h0 n0 w_OCTOBER wE) s₁ (entryFrame m #[(.long (10 : Int64)), (.ref a1)] 3)
  rw [← hG, ef_rm7_9 m (10 : Int64) a1]
  clear hG
  show G s₁ (mkF m 0 #[.val (.long (10 : Int64)), .second, .val (.ref a1)] [])
  refine gb (fun _ k => XS.lloadN X0.here hx rfl (hb hby d7_0) rfl (XS.lconst X0.here hx rfl (hb hby d7_1) (XS.lcmp X0.here hx rfl (hb hby d7_2) rfl (XS.ifNo X0.here hx rfl (hb hby d7_3) rfl ((if0 _ _).trans (flt (fun q => (by decide : ¬ ((10 : Int64) < (1 : Int64))) ((own_lt _ _).mp q))).1) (XS.lloadN X0.here hx rfl (hb hby d7_6) rfl k))))) ?_
  show G s₁ (mkF m 7 #[jv 10, .second, rv a1] [.long 10])
  refine gb (X0.ldc2Long hx hown (mvT hZ (ow hw 36 rfl)) (g := (mkF m 7 #[jv 10, .second, rv a1] [.long 10])) rfl (hb hby d7_7)) ?_
  show G s₁ (mkF m 10 #[jv 10, .second, rv a1] [.long 12, .long 10])
  refine gb (fun _ k => XS.lcmp X0.here hx rfl (hb hby d7_10) rfl (XS.ifYes X0.here hx rfl (pc0 := 11) (pc' := 29) rfl (hb hby d7_11) rfl ((if0 _ _).trans (flt (fun q => (by decide : ¬ ((12 : Int64) < (10 : Int64))) ((own_gt _ _).mp q))).2.2.2) (by decide) (by decide) (XS.lloadN X0.here hx rfl (hb hby d7_29) rfl (XS.l2i X0.here hx rfl (hb hby d7_30) rfl k)))) ?_
  show G s₁ (mkF m 31 #[jv 10, .second, rv a1] [.int 10])
  obtain ⟨_, _, ⟨T1, Lz1, kz1, nz1⟩, -, X1, ⟨Lc1, hQ1, lq1, yq1, zq1⟩, st1⟩ := Jvm.LawKit.callS X0 hx (y := (⟨"java/time/Month", "of", "(I)Ljava/time/Month;"⟩ : MethodName)) hown (mvT hZ (ow hw 37 rfl)) (mvT hZ (ow hw 38 rfl)) (mvT hZ (ow hw 39 rfl)) (mvT hZ (ow hw 40 rfl)) (by decide) (backOf (W := 0) (rm8_9 l Z a0 hw [] h0 n0 O w_OCTOBER wE cE S_E ArE szE hel) hZ (ow hw 40 rfl) (ow hw 39 rfl) (by decide) (by decide)) (g := (mkF m 31 #[jv 10, .second, rv a1] [.int 10])) rfl (by rw [hml]; rfl) (argsL := [(.int (10 : Int32))]) (rest := []) (lenOf pd_4 rfl) rfl (by show 2 * 0 + _ ≤ _; exact Nat.le_of_eq rfl) (hb hby d7_31) (fun _ _ => ⟨rfl, e0, (by decide : 0 + 0 ≤ _), (by decide : 0 + 0 ≤ _)⟩)
  dsimp only [Pt.U, Pt.locs, Pt.cells, Pt.slots] at X1 lq1 yq1 zq1 st1 hQ1
  subst lq1 yq1 zq1
  obtain ⟨rfl, rfl, e1⟩ := hQ1
  try rw [List.append_nil] at X1
  refine gb st1 ?_
  show G T1 (mkF m 34 #[jv 10, .second, rv a1] [.ref w_OCTOBER])
  exact go X1 (v := (some (.ref w_OCTOBER))) (fun h => by rw [Bd.returns] at h; cases h) (fun fs hr => retOut X1 hx Bd.returns rfl (Or.inr (Or.inr (Or.inr (Or.inr ⟨rfl, rfl, rfl⟩)))) (hb hby d7_34) hr) (⟨rfl, rfl, e1⟩) (by decide) (by decide)
def Q_rm9_9 (Z : State) (h0 : Heap) (n0 : Nat) (w_OCTOBER : Addr) : Option Value → Heap → List Loc → Prop := fun v h L => v = some (.ref w_OCTOBER) ∧ L = [] ∧ h = h0
set_option maxRecDepth 65536 in
set_option maxHeartbeats 40000000 in
theorem rm9_9 (l : Launch) (Z : State) (a0 : Array Value) (hw : ∀ d ∈ tables_1, d.before a0 Z = true) (ws : List Jvm.Cond) (h0 : Heap) (n0 : Nat) (O : Old Z n0 h0) (w_OCTOBER : Addr) (S_OCTOBER : Sta Z Z.heap "java/time/Month" "OCTOBER" "Ljava/time/Month;" (.ref w_OCTOBER)) :
    MetFree l (⟨"com/example/ratchetbook/ratchetbook/tariff/AnnualMinimumMonthNumberedPinLaw", "expected", "(I)Ljava/time/Month;"⟩ : MethodName) (head1 (Jvm.Cond.code (⟨"com/example/ratchetbook/ratchetbook/tariff/AnnualMinimumMonthNumberedPinLaw", "expected", "(I)Ljava/time/Month;"⟩ : MethodName) method_3_code 1 (some (.object "java/time/Month")) :: ws) ({ frames := 0, cells := 0, slots := 0, locals := 0 } : Room)) (fun a U => a = #[(.int (10 : Int32))] ∧ Z.Warmed39 U.vm ∧ U.heap = h0) (fun _ _ _ _ _ => True) (fun _ U o U' => ∃ v L, o = .returned v ∧ (Q_rm9_9 Z h0 n0 w_OCTOBER) v U'.heap L ∧ FrameEnd U o U' L ({ frames := 0, cells := 0, slots := 0, locals := 0 } : Room).cells ({ frames := 0, cells := 0, slots := 0, locals := 0 } : Room).slots) := by
  refine MetFree.of_bodySF (plainFor_of_name pn_4) hisR ?_
  intro p e s m args below meth c s₁ Bd hml0 hP hK
  obtain ⟨rfl, hZ, hh⟩ := hP
  have hx := Bd.exec
  have hby := Bd.bytes
  have hml : c.maxLocals = 1 := hml0
  have hown : s.vm.findClass "com/example/ratchetbook/ratchetbook/tariff/AnnualMinimumMonthNumberedPinLaw" = some m.cls := findClass_of_methodNamed Bd.named
  have hnm := (name_of_methodNamed Bd.named Bd.method).1
  have hlk := BodyLoose.notSynchronized Bd
  have X0 : Stand p l e ({ frames := 0, cells := 0, slots := 0, locals := 0 } : Room) s m #[(.int (10 : Int32))] below meth c s₁ [] 0 0 := Stand.of_body Bd
  have e0 : s₁.heap = h0 := by rw [← hh, Bd.state]; rfl
  have N := Fr.nil n0
  obtain ⟨G, hG⟩ : ∃ G : State → JFrame → Prop, G = OwnG p e below s ({ frames := 0, cells := 0, slots := 0, locals := 0 } : Room).cells ({ frames := 0, cells := 0, slots := 0, locals := 0 } : Room).slots (Q_rm9_9 Z h0 n0 w_OCTOBER) := ⟨_, rfl⟩
  have gb : ∀ {T T' : State} {g g' : JFrame}, (∀ t, Steps p.tables e below (T'.setTop g') t → Steps p.tables e below (T.setTop g) t) → G T' g' → G T g := by subst hG; exact fun k h => own_by k h
  have go : ∀ {T : State} {locs : List Loc} {cells slots : Nat} {g : JFrame} {v : Option Value}, Stand p l e ({ frames := 0, cells := 0, slots := 0, locals := 0 } : Room) s m #[(.int (10 : Int32))] below meth c T locs cells slots → (meth.sig.returnType = none → v = none) → (∀ fs, (∀ (f : JFrame) (acts : List Action), f.method = m → f.locked = none → f.entered = [] → (doReturn e (T.setTop f) acts v).1 = T.setFrames fs) → Steps p.tables e below (T.setTop g) (T.setFrames fs)) → (Q_rm9_9 Z h0 n0 w_OCTOBER) v T.heap locs → cells ≤ ({ frames := 0, cells := 0, slots := 0, locals := 0 } : Room).cells → slots ≤ ({ frames := 0, cells := 0, slots := 0, locals := 0 } : Room).slots → G T g := by subst hG; exact fun X h1 h2 h3 h4 h5 => own_out X hlk h1 h2 h3 h4 h5
  show OwnG p e below s ({ frames := 0, cells := 0, slots := 0, locals := 0 } : Room).cells ({ frames := 0, cells := 0, slots := 0, locals := 0 } : Room).slots (Q_rm9_9 Z h0 n0 w_OCTOBER) s₁ (entryFrame m #[(.int (10 : Int32))] 1)
  rw [← hG, ef_rm9_9 m (10 : Int32)]
  clear hG
  show G s₁ (mkF m 0 #[.val (.int (10 : Int32))] [])
  refine gb (fun _ k => XS.iloadN X0.here hx rfl (hb hby d9_0) rfl (XS.iconst X0.here hx rfl (hb hby d9_1) (XS.icmpYes X0.here hx rfl (pc0 := 2) (pc' := 9) rfl (hb hby d9_2) rfl (feq (by decide : ¬ ((10 : Int32) = (1 : Int32)))).2 (by decide) (by decide) (XS.iloadN X0.here hx rfl (hb hby d9_9) rfl (XS.iconst X0.here hx rfl (hb hby d9_10) (XS.icmpYes X0.here hx rfl (pc0 := 11) (pc' := 18) rfl (hb hby d9_11) rfl (feq (by decide : ¬ ((10 : Int32) = (2 : Int32)))).2 (by decide) (by decide) k)))))) ?_
  show G s₁ (mkF m 18 #[iv 10] [])
  refine gb (fun _ k => XS.iloadN X0.here hx rfl (hb hby d9_18) rfl (XS.iconst X0.here hx rfl (hb hby d9_19) (XS.icmpYes X0.here hx rfl (pc0 := 20) (pc' := 27) rfl (hb hby d9_20) rfl (feq (by decide : ¬ ((10 : Int32) = (3 : Int32)))).2 (by decide) (by decide) (XS.iloadN X0.here hx rfl (hb hby d9_27) rfl (XS.iconst X0.here hx rfl (hb hby d9_28) (XS.icmpYes X0.here hx rfl (pc0 := 29) (pc' := 36) rfl (hb hby d9_29) rfl (feq (by decide : ¬ ((10 : Int32) = (4 : Int32)))).2 (by decide) (by decide) k)))))) ?_
  show G s₁ (mkF m 36 #[iv 10] [])
  refine gb (fun _ k => XS.iloadN X0.here hx rfl (hb hby d9_36) rfl (XS.iconst X0.here hx rfl (hb hby d9_37) (XS.icmpYes X0.here hx rfl (pc0 := 38) (pc' := 45) rfl (hb hby d9_38) rfl (feq (by decide : ¬ ((10 : Int32) = (5 : Int32)))).2 (by decide) (by decide) (XS.iloadN X0.here hx rfl (hb hby d9_45) rfl (XS.bipush X0.here hx rfl (hb hby d9_46) (XS.icmpYes X0.here hx rfl (pc0 := 48) (pc' := 55) rfl (hb hby d9_48) rfl (feq (by decide : ¬ ((10 : Int32) = (6 : Int32)))).2 (by decide) (by decide) k)))))) ?_
  show G s₁ (mkF m 55 #[iv 10] [])
  refine gb (fun _ k => XS.iloadN X0.here hx rfl (hb hby d9_55) rfl (XS.bipush X0.here hx rfl (hb hby d9_56) (XS.icmpYes X0.here hx rfl (pc0 := 58) (pc' := 65) rfl (hb hby d9_58) rfl (feq (by decide : ¬ ((10 : Int32) = (7 : Int32)))).2 (by decide) (by decide) (XS.iloadN X0.here hx rfl (hb hby d9_65) rfl (XS.bipush X0.here hx rfl (hb hby d9_66) (XS.icmpYes X0.here hx rfl (pc0 := 68) (pc' := 75) rfl (hb hby d9_68) rfl (feq (by decide : ¬ ((10 : Int32) = (8 : Int32)))).2 (by decide) (by decide) k)))))) ?_
  show G s₁ (mkF m 75 #[iv 10] [])
  refine gb (fun _ k => XS.iloadN X0.here hx rfl (hb hby d9_75) rfl (XS.bipush X0.here hx rfl (hb hby d9_76) (XS.icmpYes X0.here hx rfl (pc0 := 78) (pc' := 85) rfl (hb hby d9_78) rfl (feq (by decide : ¬ ((10 : Int32) = (9 : Int32)))).2 (by decide) (by decide) (XS.iloadN X0.here hx rfl (hb hby d9_85) rfl (XS.bipush X0.here hx rfl (hb hby d9_86) (XS.icmpNo X0.here hx rfl (hb hby d9_88) rfl (teq (by decide : (10 : Int32) = (10 : Int32))).2 k)))))) ?_
  show G s₁ (mkF m 91 #[iv 10] [])
  obtain ⟨T1, X1, e1, st1⟩ := getS2 X0 hx hZ hown (host := "") (Or.inl (ow hw 55 rfl)) Via.refl e0 (S_OCTOBER.ext O.2) (g := (mkF m 91 #[iv 10] [])) rfl (hb hby d9_91)
  refine gb st1 ?_
  show G T1 (mkF m 94 #[iv 10] [.ref w_OCTOBER])
  exact go X1 (v := (some (.ref w_OCTOBER))) (fun h => by rw [Bd.returns] at h; cases h) (fun fs hr => retOut X1 hx Bd.returns rfl (Or.inr (Or.inr (Or.inr (Or.inr ⟨rfl, rfl, rfl⟩)))) (hb hby d9_94) hr) (⟨rfl, rfl, e1⟩) (by decide) (by decide)
def Q_rm8_10 (Z : State) (h0 : Heap) (n0 : Nat) (w_NOVEMBER : Addr) (wE : Addr) : Option Value → Heap → List Loc → Prop := fun v h L => v = some (.ref w_NOVEMBER) ∧ L = [] ∧ h = h0
set_option maxRecDepth 65536 in
set_option maxHeartbeats 40000000 in
theorem rm8_10 (l : Launch) (Z : State) (a0 : Array Value) (hw : ∀ d ∈ tables_1, d.before a0 Z = true) (ws : List Jvm.Cond) (h0 : Heap) (n0 : Nat) (O : Old Z n0 h0) (w_NOVEMBER : Addr) (wE : Addr) (cE : Cell) (S_E : Sta Z Z.heap "java/time/Month" "ENUMS" "[Ljava/time/Month;" (.ref wE)) (ArE : Arr Z Z.heap wE cE (.object "java/time/Month")) (szE : cE.slots.size = (12 : Int32).toNatClampNeg) (hel : cE.slots[((10 : Int32)).toNatClampNeg]? = some (.ref w_NOVEMBER)) :
    MetFree l (⟨"java/time/Month", "of", "(I)Ljava/time/Month;"⟩ : MethodName) (head1 (Jvm.Cond.code (⟨"java/time/Month", "of", "(I)Ljava/time/Month;"⟩ : MethodName) jdk_2329_method_4_code 1 (some (.object "java/time/Month")) :: ws) ({ frames := 0, cells := 0, slots := 0, locals := 0 } : Room)) (fun a U => a = #[(.int (11 : Int32))] ∧ Z.Warmed39 U.vm ∧ U.heap = h0) (fun _ _ _ _ _ => True) (fun _ U o U' => ∃ v L, o = .returned v ∧ (Q_rm8_10 Z h0 n0 w_NOVEMBER wE) v U'.heap L ∧ FrameEnd U o U' L ({ frames := 0, cells := 0, slots := 0, locals := 0 } : Room).cells ({ frames := 0, cells := 0, slots := 0, locals := 0 } : Room).slots) := by
  refine MetFree.of_bodySF (plainFor_of_name pn_2) hisR ?_
  intro p e s m args below meth c s₁ Bd hml0 hP hK
  obtain ⟨rfl, hZ, hh⟩ := hP
  have hx := Bd.exec
  have hby := Bd.bytes
  have hml : c.maxLocals = 1 := hml0
  have hown : s.vm.findClass "java/time/Month" = some m.cls := findClass_of_methodNamed Bd.named
  have hnm := (name_of_methodNamed Bd.named Bd.method).1
  have hlk := BodyLoose.notSynchronized Bd
  have X0 : Stand p l e ({ frames := 0, cells := 0, slots := 0, locals := 0 } : Room) s m #[(.int (11 : Int32))] below meth c s₁ [] 0 0 := Stand.of_body Bd
  have e0 : s₁.heap = h0 := by rw [← hh, Bd.state]; rfl
  have N := Fr.nil n0
  obtain ⟨G, hG⟩ : ∃ G : State → JFrame → Prop, G = OwnG p e below s ({ frames := 0, cells := 0, slots := 0, locals := 0 } : Room).cells ({ frames := 0, cells := 0, slots := 0, locals := 0 } : Room).slots (Q_rm8_10 Z h0 n0 w_NOVEMBER wE) := ⟨_, rfl⟩
  have gb : ∀ {T T' : State} {g g' : JFrame}, (∀ t, Steps p.tables e below (T'.setTop g') t → Steps p.tables e below (T.setTop g) t) → G T' g' → G T g := by subst hG; exact fun k h => own_by k h
  have go : ∀ {T : State} {locs : List Loc} {cells slots : Nat} {g : JFrame} {v : Option Value}, Stand p l e ({ frames := 0, cells := 0, slots := 0, locals := 0 } : Room) s m #[(.int (11 : Int32))] below meth c T locs cells slots → (meth.sig.returnType = none → v = none) → (∀ fs, (∀ (f : JFrame) (acts : List Action), f.method = m → f.locked = none → f.entered = [] → (doReturn e (T.setTop f) acts v).1 = T.setFrames fs) → Steps p.tables e below (T.setTop g) (T.setFrames fs)) → (Q_rm8_10 Z h0 n0 w_NOVEMBER wE) v T.heap locs → cells ≤ ({ frames := 0, cells := 0, slots := 0, locals := 0 } : Room).cells → slots ≤ ({ frames := 0, cells := 0, slots := 0, locals := 0 } : Room).slots → G T g := by subst hG; exact fun X h1 h2 h3 h4 h5 => own_out X hlk h1 h2 h3 h4 h5
  show OwnG p e below s ({ frames := 0, cells := 0, slots := 0, locals := 0 } : Room).cells ({ frames := 0, cells := 0, slots := 0, locals := 0 } : Room).slots (Q_rm8_10 Z h0 n0 w_NOVEMBER wE) s₁ (entryFrame m #[(.int (11 : Int32))] 1)
  rw [← hG, ef_rm8_10 m (11 : Int32)]
  clear hG
  show G s₁ (mkF m 0 #[.val (.int (11 : Int32))] [])
  refine gb (fun _ k => XS.iloadN X0.here hx rfl (hb hby d8_0) rfl (XS.iconst X0.here hx rfl (hb hby d8_1) (XS.icmpNo X0.here hx rfl (hb hby d8_2) rfl (flt (by decide : ¬ ((11 : Int32) < (1 : Int32)))).1 (XS.iloadN X0.here hx rfl (hb hby d8_5) rfl (XS.bipush X0.here hx rfl (hb hby d8_6) (XS.icmpYes X0.here hx rfl (pc0 := 8) (pc' := 38) rfl (hb hby d8_8) rfl (flt (by decide : ¬ ((12 : Int32) < (11 : Int32)))).2.2.2 (by decide) (by decide) k)))))) ?_
  show G s₁ (mkF m 38 #[iv 11] [])
  obtain ⟨T1, X1, e1, st1⟩ := getS2 X0 hx hZ hown (host := "") (Or.inl (ow hw 41 rfl)) Via.refl e0 (S_E.ext O.2) (g := (mkF m 38 #[iv 11] [])) rfl (hb hby d8_38)
  refine gb st1 ?_
  show G T1 (mkF m 41 #[iv 11] [.ref wE])
  refine gb (fun _ k => XS.iloadN X1.here hx rfl (hb hby d8_41) rfl (XS.iconst X1.here hx rfl (hb hby d8_42) (XS.isub X1.here hx rfl (hb hby d8_43) rfl k))) ?_
  show G T1 (mkF m 44 #[iv 11] [.int 10, .ref wE])
  have ArE' := ArE.ext O.2
  refine gb (X1.aaload hx (j := (10 : Int32)) (v := .ref w_NOVEMBER) (by rw [e1]; exact ArE'.1) (State.isArrayOf_alike hZ.alike ArE'.2.1) rfl ArE'.2.2 (inb_of szE ⟨by decide, by decide⟩) hel (g := (mkF m 44 #[iv 11] [.int 10, .ref wE])) rfl rfl (hb hby d8_44)) ?_
  show G T1 (mkF m 45 #[iv 11] [.ref w_NOVEMBER])
  exact go X1 (v := (some (.ref w_NOVEMBER))) (fun h => by rw [Bd.returns] at h; cases h) (fun fs hr => retOut X1 hx Bd.returns rfl (Or.inr (Or.inr (Or.inr (Or.inr ⟨rfl, rfl, rfl⟩)))) (hb hby d8_45) hr) (⟨rfl, rfl, e1⟩) (by decide) (by decide)
def Q_rm7_10 (Z : State) (a1 : Addr) (h0 : Heap) (n0 : Nat) (w_NOVEMBER : Addr) (wE : Addr) : Option Value → Heap → List Loc → Prop := fun v h L => v = some (.ref w_NOVEMBER) ∧ L = [] ∧ h = h0
set_option maxRecDepth 65536 in
set_option maxHeartbeats 40000000 in
theorem rm7_10 (l : Launch) (Z : State) (a0 : Array Value) (hw : ∀ d ∈ tables_1, d.before a0 Z = true) (ws : List Jvm.Cond) (a1 : Addr) (h0 : Heap) (n0 : Nat) (O : Old Z n0 h0) (w_NOVEMBER : Addr) (wE : Addr) (cE : Cell) (S_E : Sta Z Z.heap "java/time/Month" "ENUMS" "[Ljava/time/Month;" (.ref wE)) (ArE : Arr Z Z.heap wE cE (.object "java/time/Month")) (szE : cE.slots.size = (12 : Int32).toNatClampNeg) (hel : cE.slots[((10 : Int32)).toNatClampNeg]? = some (.ref w_NOVEMBER)) :
    MetFree l (⟨"com/example/ratchetbook/ratchetbook/tariff/AnnualMinimum", "monthNumbered", "(JLjava/lang/String;)Ljava/time/Month;"⟩ : MethodName) (head1 (Jvm.Cond.code (⟨"com/example/ratchetbook/ratchetbook/tariff/AnnualMinimum", "monthNumbered", "(JLjava/lang/String;)Ljava/time/Month;"⟩ : MethodName) prog_84_method_2_code 3 (some (.object "java/time/Month")) :: ws) ({ frames := 1, cells := 0, slots := 0, locals := 12 } : Room)) (fun a U => a = #[(.long (11 : Int64)), (.ref a1)] ∧ Z.Warmed39 U.vm ∧ U.heap = h0) (fun _ _ _ _ _ => True) (fun _ U o U' => ∃ v L, o = .returned v ∧ (Q_rm7_10 Z a1 h0 n0 w_NOVEMBER wE) v U'.heap L ∧ FrameEnd U o U' L ({ frames := 1, cells := 0, slots := 0, locals := 12 } : Room).cells ({ frames := 1, cells := 0, slots := 0, locals := 12 } : Room).slots) := by
  refine MetFree.of_bodySF (plainFor_of_name pn_3) hisR ?_
  intro p e s m args below meth c s₁ Bd hml0 hP hK
  obtain ⟨rfl, hZ, hh⟩ := hP
  have hx := Bd.exec
  have hby := Bd.bytes
  have hml : c.maxLocals = 3 := hml0
  have hown : s.vm.findClass "com/example/ratchetbook/ratchetbook/tariff/AnnualMinimum" = some m.cls := findClass_of_methodNamed Bd.named
  have hnm := (name_of_methodNamed Bd.named Bd.method).1
  have hlk := BodyLoose.notSynchronized Bd
  have X0 : Stand p l e ({ frames := 1, cells := 0, slots := 0, locals := 12 } : Room) s m #[(.long (11 : Int64)), (.ref a1)] below meth c s₁ [] 0 0 := Stand.of_body Bd
  have e0 : s₁.heap = h0 := by rw [← hh, Bd.state]; rfl
  have N := Fr.nil n0
  obtain ⟨G, hG⟩ : ∃ G : State → JFrame → Prop, G = OwnG p e below s ({ frames := 1, cells := 0, slots := 0, locals := 12 } : Room).cells ({ frames := 1, cells := 0, slots := 0, locals := 12 } : Room).slots (Q_rm7_10 Z a1 h0 n0 w_NOVEMBER wE) := ⟨_, rfl⟩
  have gb : ∀ {T T' : State} {g g' : JFrame}, (∀ t, Steps p.tables e below (T'.setTop g') t → Steps p.tables e below (T.setTop g) t) → G T' g' → G T g := by subst hG; exact fun k h => own_by k h
  have go : ∀ {T : State} {locs : List Loc} {cells slots : Nat} {g : JFrame} {v : Option Value}, Stand p l e ({ frames := 1, cells := 0, slots := 0, locals := 12 } : Room) s m #[(.long (11 : Int64)), (.ref a1)] below meth c T locs cells slots → (meth.sig.returnType = none → v = none) → (∀ fs, (∀ (f : JFrame) (acts : List Action), f.method = m → f.locked = none → f.entered = [] → (doReturn e (T.setTop f) acts v).1 = T.setFrames fs) → Steps p.tables e below (T.setTop g) (T.setFrames fs)) → (Q_rm7_10 Z a1 h0 n0 w_NOVEMBER wE) v T.heap locs → cells ≤ ({ frames := 1, cells := 0, slots := 0, locals := 12 } : Room).cells → slots ≤ ({ frames := 1, cells := 0, slots := 0, locals := 12 } : Room).slots → G T g := by subst hG; exact fun X h1 h2 h3 h4 h5 => own_out X hlk h1 h2 h3 h4 h5
  show OwnG p e below s ({ frames := 1, cells := 0, slots := 0, locals := 12 } : Room).cells ({ frames := 1, cells := 0, slots := 0, locals := 12 } : Room).slots (Q_rm7_10 Z a1 h0 n0 w_NOVEMBER wE) s₁ (entryFrame m #[(.long (11 : Int64)), (.ref a1)] 3)
  rw [← hG, ef_rm7_10 m (11 : Int64) a1]
  clear hG
  show G s₁ (mkF m 0 #[.val (.long (11 : Int64)), .second, .val (.ref a1)] [])
  refine gb (fun _ k => XS.lloadN X0.here hx rfl (hb hby d7_0) rfl (XS.lconst X0.here hx rfl (hb hby d7_1) (XS.lcmp X0.here hx rfl (hb hby d7_2) rfl (XS.ifNo X0.here hx rfl (hb hby d7_3) rfl ((if0 _ _).trans (flt (fun q => (by decide : ¬ ((11 : Int64) < (1 : Int64))) ((own_lt _ _).mp q))).1) (XS.lloadN X0.here hx rfl (hb hby d7_6) rfl k))))) ?_
  show G s₁ (mkF m 7 #[jv 11, .second, rv a1] [.long 11])
  refine gb (X0.ldc2Long hx hown (mvT hZ (ow hw 36 rfl)) (g := (mkF m 7 #[jv 11, .second, rv a1] [.long 11])) rfl (hb hby d7_7)) ?_
  show G s₁ (mkF m 10 #[jv 11, .second, rv a1] [.long 12, .long 11])
  refine gb (fun _ k => XS.lcmp X0.here hx rfl (hb hby d7_10) rfl (XS.ifYes X0.here hx rfl (pc0 := 11) (pc' := 29) rfl (hb hby d7_11) rfl ((if0 _ _).trans (flt (fun q => (by decide : ¬ ((12 : Int64) < (11 : Int64))) ((own_gt _ _).mp q))).2.2.2) (by decide) (by decide) (XS.lloadN X0.here hx rfl (hb hby d7_29) rfl (XS.l2i X0.here hx rfl (hb hby d7_30) rfl k)))) ?_
  show G s₁ (mkF m 31 #[jv 11, .second, rv a1] [.int 11])
  obtain ⟨_, _, ⟨T1, Lz1, kz1, nz1⟩, -, X1, ⟨Lc1, hQ1, lq1, yq1, zq1⟩, st1⟩ := Jvm.LawKit.callS X0 hx (y := (⟨"java/time/Month", "of", "(I)Ljava/time/Month;"⟩ : MethodName)) hown (mvT hZ (ow hw 37 rfl)) (mvT hZ (ow hw 38 rfl)) (mvT hZ (ow hw 39 rfl)) (mvT hZ (ow hw 40 rfl)) (by decide) (backOf (W := 0) (rm8_10 l Z a0 hw [] h0 n0 O w_NOVEMBER wE cE S_E ArE szE hel) hZ (ow hw 40 rfl) (ow hw 39 rfl) (by decide) (by decide)) (g := (mkF m 31 #[jv 11, .second, rv a1] [.int 11])) rfl (by rw [hml]; rfl) (argsL := [(.int (11 : Int32))]) (rest := []) (lenOf pd_4 rfl) rfl (by show 2 * 0 + _ ≤ _; exact Nat.le_of_eq rfl) (hb hby d7_31) (fun _ _ => ⟨rfl, e0, (by decide : 0 + 0 ≤ _), (by decide : 0 + 0 ≤ _)⟩)
  dsimp only [Pt.U, Pt.locs, Pt.cells, Pt.slots] at X1 lq1 yq1 zq1 st1 hQ1
  subst lq1 yq1 zq1
  obtain ⟨rfl, rfl, e1⟩ := hQ1
  try rw [List.append_nil] at X1
  refine gb st1 ?_
  show G T1 (mkF m 34 #[jv 11, .second, rv a1] [.ref w_NOVEMBER])
  exact go X1 (v := (some (.ref w_NOVEMBER))) (fun h => by rw [Bd.returns] at h; cases h) (fun fs hr => retOut X1 hx Bd.returns rfl (Or.inr (Or.inr (Or.inr (Or.inr ⟨rfl, rfl, rfl⟩)))) (hb hby d7_34) hr) (⟨rfl, rfl, e1⟩) (by decide) (by decide)
def Q_rm9_10 (Z : State) (h0 : Heap) (n0 : Nat) (w_NOVEMBER : Addr) : Option Value → Heap → List Loc → Prop := fun v h L => v = some (.ref w_NOVEMBER) ∧ L = [] ∧ h = h0
set_option maxRecDepth 65536 in
set_option maxHeartbeats 40000000 in
theorem rm9_10 (l : Launch) (Z : State) (a0 : Array Value) (hw : ∀ d ∈ tables_1, d.before a0 Z = true) (ws : List Jvm.Cond) (h0 : Heap) (n0 : Nat) (O : Old Z n0 h0) (w_NOVEMBER : Addr) (S_NOVEMBER : Sta Z Z.heap "java/time/Month" "NOVEMBER" "Ljava/time/Month;" (.ref w_NOVEMBER)) :
    MetFree l (⟨"com/example/ratchetbook/ratchetbook/tariff/AnnualMinimumMonthNumberedPinLaw", "expected", "(I)Ljava/time/Month;"⟩ : MethodName) (head1 (Jvm.Cond.code (⟨"com/example/ratchetbook/ratchetbook/tariff/AnnualMinimumMonthNumberedPinLaw", "expected", "(I)Ljava/time/Month;"⟩ : MethodName) method_3_code 1 (some (.object "java/time/Month")) :: ws) ({ frames := 0, cells := 0, slots := 0, locals := 0 } : Room)) (fun a U => a = #[(.int (11 : Int32))] ∧ Z.Warmed39 U.vm ∧ U.heap = h0) (fun _ _ _ _ _ => True) (fun _ U o U' => ∃ v L, o = .returned v ∧ (Q_rm9_10 Z h0 n0 w_NOVEMBER) v U'.heap L ∧ FrameEnd U o U' L ({ frames := 0, cells := 0, slots := 0, locals := 0 } : Room).cells ({ frames := 0, cells := 0, slots := 0, locals := 0 } : Room).slots) := by
  refine MetFree.of_bodySF (plainFor_of_name pn_4) hisR ?_
  intro p e s m args below meth c s₁ Bd hml0 hP hK
  obtain ⟨rfl, hZ, hh⟩ := hP
  have hx := Bd.exec
  have hby := Bd.bytes
  have hml : c.maxLocals = 1 := hml0
  have hown : s.vm.findClass "com/example/ratchetbook/ratchetbook/tariff/AnnualMinimumMonthNumberedPinLaw" = some m.cls := findClass_of_methodNamed Bd.named
  have hnm := (name_of_methodNamed Bd.named Bd.method).1
  have hlk := BodyLoose.notSynchronized Bd
  have X0 : Stand p l e ({ frames := 0, cells := 0, slots := 0, locals := 0 } : Room) s m #[(.int (11 : Int32))] below meth c s₁ [] 0 0 := Stand.of_body Bd
  have e0 : s₁.heap = h0 := by rw [← hh, Bd.state]; rfl
  have N := Fr.nil n0
  obtain ⟨G, hG⟩ : ∃ G : State → JFrame → Prop, G = OwnG p e below s ({ frames := 0, cells := 0, slots := 0, locals := 0 } : Room).cells ({ frames := 0, cells := 0, slots := 0, locals := 0 } : Room).slots (Q_rm9_10 Z h0 n0 w_NOVEMBER) := ⟨_, rfl⟩
  have gb : ∀ {T T' : State} {g g' : JFrame}, (∀ t, Steps p.tables e below (T'.setTop g') t → Steps p.tables e below (T.setTop g) t) → G T' g' → G T g := by subst hG; exact fun k h => own_by k h
  have go : ∀ {T : State} {locs : List Loc} {cells slots : Nat} {g : JFrame} {v : Option Value}, Stand p l e ({ frames := 0, cells := 0, slots := 0, locals := 0 } : Room) s m #[(.int (11 : Int32))] below meth c T locs cells slots → (meth.sig.returnType = none → v = none) → (∀ fs, (∀ (f : JFrame) (acts : List Action), f.method = m → f.locked = none → f.entered = [] → (doReturn e (T.setTop f) acts v).1 = T.setFrames fs) → Steps p.tables e below (T.setTop g) (T.setFrames fs)) → (Q_rm9_10 Z h0 n0 w_NOVEMBER) v T.heap locs → cells ≤ ({ frames := 0, cells := 0, slots := 0, locals := 0 } : Room).cells → slots ≤ ({ frames := 0, cells := 0, slots := 0, locals := 0 } : Room).slots → G T g := by subst hG; exact fun X h1 h2 h3 h4 h5 => own_out X hlk h1 h2 h3 h4 h5
  show OwnG p e below s ({ frames := 0, cells := 0, slots := 0, locals := 0 } : Room).cells ({ frames := 0, cells := 0, slots := 0, locals := 0 } : Room).slots (Q_rm9_10 Z h0 n0 w_NOVEMBER) s₁ (entryFrame m #[(.int (11 : Int32))] 1)
  rw [← hG, ef_rm9_10 m (11 : Int32)]
  clear hG
  show G s₁ (mkF m 0 #[.val (.int (11 : Int32))] [])
  refine gb (fun _ k => XS.iloadN X0.here hx rfl (hb hby d9_0) rfl (XS.iconst X0.here hx rfl (hb hby d9_1) (XS.icmpYes X0.here hx rfl (pc0 := 2) (pc' := 9) rfl (hb hby d9_2) rfl (feq (by decide : ¬ ((11 : Int32) = (1 : Int32)))).2 (by decide) (by decide) (XS.iloadN X0.here hx rfl (hb hby d9_9) rfl (XS.iconst X0.here hx rfl (hb hby d9_10) (XS.icmpYes X0.here hx rfl (pc0 := 11) (pc' := 18) rfl (hb hby d9_11) rfl (feq (by decide : ¬ ((11 : Int32) = (2 : Int32)))).2 (by decide) (by decide) k)))))) ?_
  show G s₁ (mkF m 18 #[iv 11] [])
  refine gb (fun _ k => XS.iloadN X0.here hx rfl (hb hby d9_18) rfl (XS.iconst X0.here hx rfl (hb hby d9_19) (XS.icmpYes X0.here hx rfl (pc0 := 20) (pc' := 27) rfl (hb hby d9_20) rfl (feq (by decide : ¬ ((11 : Int32) = (3 : Int32)))).2 (by decide) (by decide) (XS.iloadN X0.here hx rfl (hb hby d9_27) rfl (XS.iconst X0.here hx rfl (hb hby d9_28) (XS.icmpYes X0.here hx rfl (pc0 := 29) (pc' := 36) rfl (hb hby d9_29) rfl (feq (by decide : ¬ ((11 : Int32) = (4 : Int32)))).2 (by decide) (by decide) k)))))) ?_
  show G s₁ (mkF m 36 #[iv 11] [])
  refine gb (fun _ k => XS.iloadN X0.here hx rfl (hb hby d9_36) rfl (XS.iconst X0.here hx rfl (hb hby d9_37) (XS.icmpYes X0.here hx rfl (pc0 := 38) (pc' := 45) rfl (hb hby d9_38) rfl (feq (by decide : ¬ ((11 : Int32) = (5 : Int32)))).2 (by decide) (by decide) (XS.iloadN X0.here hx rfl (hb hby d9_45) rfl (XS.bipush X0.here hx rfl (hb hby d9_46) (XS.icmpYes X0.here hx rfl (pc0 := 48) (pc' := 55) rfl (hb hby d9_48) rfl (feq (by decide : ¬ ((11 : Int32) = (6 : Int32)))).2 (by decide) (by decide) k)))))) ?_
  show G s₁ (mkF m 55 #[iv 11] [])
  refine gb (fun _ k => XS.iloadN X0.here hx rfl (hb hby d9_55) rfl (XS.bipush X0.here hx rfl (hb hby d9_56) (XS.icmpYes X0.here hx rfl (pc0 := 58) (pc' := 65) rfl (hb hby d9_58) rfl (feq (by decide : ¬ ((11 : Int32) = (7 : Int32)))).2 (by decide) (by decide) (XS.iloadN X0.here hx rfl (hb hby d9_65) rfl (XS.bipush X0.here hx rfl (hb hby d9_66) (XS.icmpYes X0.here hx rfl (pc0 := 68) (pc' := 75) rfl (hb hby d9_68) rfl (feq (by decide : ¬ ((11 : Int32) = (8 : Int32)))).2 (by decide) (by decide) k)))))) ?_
  show G s₁ (mkF m 75 #[iv 11] [])
  refine gb (fun _ k => XS.iloadN X0.here hx rfl (hb hby d9_75) rfl (XS.bipush X0.here hx rfl (hb hby d9_76) (XS.icmpYes X0.here hx rfl (pc0 := 78) (pc' := 85) rfl (hb hby d9_78) rfl (feq (by decide : ¬ ((11 : Int32) = (9 : Int32)))).2 (by decide) (by decide) (XS.iloadN X0.here hx rfl (hb hby d9_85) rfl (XS.bipush X0.here hx rfl (hb hby d9_86) (XS.icmpYes X0.here hx rfl (pc0 := 88) (pc' := 95) rfl (hb hby d9_88) rfl (feq (by decide : ¬ ((11 : Int32) = (10 : Int32)))).2 (by decide) (by decide) k)))))) ?_
  show G s₁ (mkF m 95 #[iv 11] [])
  refine gb (fun _ k => XS.iloadN X0.here hx rfl (hb hby d9_95) rfl (XS.bipush X0.here hx rfl (hb hby d9_96) (XS.icmpNo X0.here hx rfl (hb hby d9_98) rfl (teq (by decide : (11 : Int32) = (11 : Int32))).2 k))) ?_
  show G s₁ (mkF m 101 #[iv 11] [])
  obtain ⟨T1, X1, e1, st1⟩ := getS2 X0 hx hZ hown (host := "") (Or.inl (ow hw 57 rfl)) Via.refl e0 (S_NOVEMBER.ext O.2) (g := (mkF m 101 #[iv 11] [])) rfl (hb hby d9_101)
  refine gb st1 ?_
  show G T1 (mkF m 104 #[iv 11] [.ref w_NOVEMBER])
  exact go X1 (v := (some (.ref w_NOVEMBER))) (fun h => by rw [Bd.returns] at h; cases h) (fun fs hr => retOut X1 hx Bd.returns rfl (Or.inr (Or.inr (Or.inr (Or.inr ⟨rfl, rfl, rfl⟩)))) (hb hby d9_104) hr) (⟨rfl, rfl, e1⟩) (by decide) (by decide)
def Q_rm8_11 (Z : State) (h0 : Heap) (n0 : Nat) (w_DECEMBER : Addr) (wE : Addr) : Option Value → Heap → List Loc → Prop := fun v h L => v = some (.ref w_DECEMBER) ∧ L = [] ∧ h = h0
set_option maxRecDepth 65536 in
set_option maxHeartbeats 40000000 in
theorem rm8_11 (l : Launch) (Z : State) (a0 : Array Value) (hw : ∀ d ∈ tables_1, d.before a0 Z = true) (ws : List Jvm.Cond) (h0 : Heap) (n0 : Nat) (O : Old Z n0 h0) (w_DECEMBER : Addr) (wE : Addr) (cE : Cell) (S_E : Sta Z Z.heap "java/time/Month" "ENUMS" "[Ljava/time/Month;" (.ref wE)) (ArE : Arr Z Z.heap wE cE (.object "java/time/Month")) (szE : cE.slots.size = (12 : Int32).toNatClampNeg) (hel : cE.slots[((11 : Int32)).toNatClampNeg]? = some (.ref w_DECEMBER)) :
    MetFree l (⟨"java/time/Month", "of", "(I)Ljava/time/Month;"⟩ : MethodName) (head1 (Jvm.Cond.code (⟨"java/time/Month", "of", "(I)Ljava/time/Month;"⟩ : MethodName) jdk_2329_method_4_code 1 (some (.object "java/time/Month")) :: ws) ({ frames := 0, cells := 0, slots := 0, locals := 0 } : Room)) (fun a U => a = #[(.int (12 : Int32))] ∧ Z.Warmed39 U.vm ∧ U.heap = h0) (fun _ _ _ _ _ => True) (fun _ U o U' => ∃ v L, o = .returned v ∧ (Q_rm8_11 Z h0 n0 w_DECEMBER wE) v U'.heap L ∧ FrameEnd U o U' L ({ frames := 0, cells := 0, slots := 0, locals := 0 } : Room).cells ({ frames := 0, cells := 0, slots := 0, locals := 0 } : Room).slots) := by
  refine MetFree.of_bodySF (plainFor_of_name pn_2) hisR ?_
  intro p e s m args below meth c s₁ Bd hml0 hP hK
  obtain ⟨rfl, hZ, hh⟩ := hP
  have hx := Bd.exec
  have hby := Bd.bytes
  have hml : c.maxLocals = 1 := hml0
  have hown : s.vm.findClass "java/time/Month" = some m.cls := findClass_of_methodNamed Bd.named
  have hnm := (name_of_methodNamed Bd.named Bd.method).1
  have hlk := BodyLoose.notSynchronized Bd
  have X0 : Stand p l e ({ frames := 0, cells := 0, slots := 0, locals := 0 } : Room) s m #[(.int (12 : Int32))] below meth c s₁ [] 0 0 := Stand.of_body Bd
  have e0 : s₁.heap = h0 := by rw [← hh, Bd.state]; rfl
  have N := Fr.nil n0
  obtain ⟨G, hG⟩ : ∃ G : State → JFrame → Prop, G = OwnG p e below s ({ frames := 0, cells := 0, slots := 0, locals := 0 } : Room).cells ({ frames := 0, cells := 0, slots := 0, locals := 0 } : Room).slots (Q_rm8_11 Z h0 n0 w_DECEMBER wE) := ⟨_, rfl⟩
  have gb : ∀ {T T' : State} {g g' : JFrame}, (∀ t, Steps p.tables e below (T'.setTop g') t → Steps p.tables e below (T.setTop g) t) → G T' g' → G T g := by subst hG; exact fun k h => own_by k h
  have go : ∀ {T : State} {locs : List Loc} {cells slots : Nat} {g : JFrame} {v : Option Value}, Stand p l e ({ frames := 0, cells := 0, slots := 0, locals := 0 } : Room) s m #[(.int (12 : Int32))] below meth c T locs cells slots → (meth.sig.returnType = none → v = none) → (∀ fs, (∀ (f : JFrame) (acts : List Action), f.method = m → f.locked = none → f.entered = [] → (doReturn e (T.setTop f) acts v).1 = T.setFrames fs) → Steps p.tables e below (T.setTop g) (T.setFrames fs)) → (Q_rm8_11 Z h0 n0 w_DECEMBER wE) v T.heap locs → cells ≤ ({ frames := 0, cells := 0, slots := 0, locals := 0 } : Room).cells → slots ≤ ({ frames := 0, cells := 0, slots := 0, locals := 0 } : Room).slots → G T g := by subst hG; exact fun X h1 h2 h3 h4 h5 => own_out X hlk h1 h2 h3 h4 h5
  show OwnG p e below s ({ frames := 0, cells := 0, slots := 0, locals := 0 } : Room).cells ({ frames := 0, cells := 0, slots := 0, locals := 0 } : Room).slots (Q_rm8_11 Z h0 n0 w_DECEMBER wE) s₁ (entryFrame m #[(.int (12 : Int32))] 1)
  rw [← hG, ef_rm8_11 m (12 : Int32)]
  clear hG
  show G s₁ (mkF m 0 #[.val (.int (12 : Int32))] [])
  refine gb (fun _ k => XS.iloadN X0.here hx rfl (hb hby d8_0) rfl (XS.iconst X0.here hx rfl (hb hby d8_1) (XS.icmpNo X0.here hx rfl (hb hby d8_2) rfl (flt (by decide : ¬ ((12 : Int32) < (1 : Int32)))).1 (XS.iloadN X0.here hx rfl (hb hby d8_5) rfl (XS.bipush X0.here hx rfl (hb hby d8_6) (XS.icmpYes X0.here hx rfl (pc0 := 8) (pc' := 38) rfl (hb hby d8_8) rfl (flt (by decide : ¬ ((12 : Int32) < (12 : Int32)))).2.2.2 (by decide) (by decide) k)))))) ?_
  show G s₁ (mkF m 38 #[iv 12] [])
  obtain ⟨T1, X1, e1, st1⟩ := getS2 X0 hx hZ hown (host := "") (Or.inl (ow hw 41 rfl)) Via.refl e0 (S_E.ext O.2) (g := (mkF m 38 #[iv 12] [])) rfl (hb hby d8_38)
  refine gb st1 ?_
  show G T1 (mkF m 41 #[iv 12] [.ref wE])
  refine gb (fun _ k => XS.iloadN X1.here hx rfl (hb hby d8_41) rfl (XS.iconst X1.here hx rfl (hb hby d8_42) (XS.isub X1.here hx rfl (hb hby d8_43) rfl k))) ?_
  show G T1 (mkF m 44 #[iv 12] [.int 11, .ref wE])
  have ArE' := ArE.ext O.2
  refine gb (X1.aaload hx (j := (11 : Int32)) (v := .ref w_DECEMBER) (by rw [e1]; exact ArE'.1) (State.isArrayOf_alike hZ.alike ArE'.2.1) rfl ArE'.2.2 (inb_of szE ⟨by decide, by decide⟩) hel (g := (mkF m 44 #[iv 12] [.int 11, .ref wE])) rfl rfl (hb hby d8_44)) ?_
  show G T1 (mkF m 45 #[iv 12] [.ref w_DECEMBER])
  exact go X1 (v := (some (.ref w_DECEMBER))) (fun h => by rw [Bd.returns] at h; cases h) (fun fs hr => retOut X1 hx Bd.returns rfl (Or.inr (Or.inr (Or.inr (Or.inr ⟨rfl, rfl, rfl⟩)))) (hb hby d8_45) hr) (⟨rfl, rfl, e1⟩) (by decide) (by decide)
def Q_rm7_11 (Z : State) (a1 : Addr) (h0 : Heap) (n0 : Nat) (w_DECEMBER : Addr) (wE : Addr) : Option Value → Heap → List Loc → Prop := fun v h L => v = some (.ref w_DECEMBER) ∧ L = [] ∧ h = h0
set_option maxRecDepth 65536 in
set_option maxHeartbeats 40000000 in
theorem rm7_11 (l : Launch) (Z : State) (a0 : Array Value) (hw : ∀ d ∈ tables_1, d.before a0 Z = true) (ws : List Jvm.Cond) (a1 : Addr) (h0 : Heap) (n0 : Nat) (O : Old Z n0 h0) (w_DECEMBER : Addr) (wE : Addr) (cE : Cell) (S_E : Sta Z Z.heap "java/time/Month" "ENUMS" "[Ljava/time/Month;" (.ref wE)) (ArE : Arr Z Z.heap wE cE (.object "java/time/Month")) (szE : cE.slots.size = (12 : Int32).toNatClampNeg) (hel : cE.slots[((11 : Int32)).toNatClampNeg]? = some (.ref w_DECEMBER)) :
    MetFree l (⟨"com/example/ratchetbook/ratchetbook/tariff/AnnualMinimum", "monthNumbered", "(JLjava/lang/String;)Ljava/time/Month;"⟩ : MethodName) (head1 (Jvm.Cond.code (⟨"com/example/ratchetbook/ratchetbook/tariff/AnnualMinimum", "monthNumbered", "(JLjava/lang/String;)Ljava/time/Month;"⟩ : MethodName) prog_84_method_2_code 3 (some (.object "java/time/Month")) :: ws) ({ frames := 1, cells := 0, slots := 0, locals := 12 } : Room)) (fun a U => a = #[(.long (12 : Int64)), (.ref a1)] ∧ Z.Warmed39 U.vm ∧ U.heap = h0) (fun _ _ _ _ _ => True) (fun _ U o U' => ∃ v L, o = .returned v ∧ (Q_rm7_11 Z a1 h0 n0 w_DECEMBER wE) v U'.heap L ∧ FrameEnd U o U' L ({ frames := 1, cells := 0, slots := 0, locals := 12 } : Room).cells ({ frames := 1, cells := 0, slots := 0, locals := 12 } : Room).slots) := by
  refine MetFree.of_bodySF (plainFor_of_name pn_3) hisR ?_
  intro p e s m args below meth c s₁ Bd hml0 hP hK
  obtain ⟨rfl, hZ, hh⟩ := hP
  have hx := Bd.exec
  have hby := Bd.bytes
  have hml : c.maxLocals = 3 := hml0
  have hown : s.vm.findClass "com/example/ratchetbook/ratchetbook/tariff/AnnualMinimum" = some m.cls := findClass_of_methodNamed Bd.named
  have hnm := (name_of_methodNamed Bd.named Bd.method).1
  have hlk := BodyLoose.notSynchronized Bd
  have X0 : Stand p l e ({ frames := 1, cells := 0, slots := 0, locals := 12 } : Room) s m #[(.long (12 : Int64)), (.ref a1)] below meth c s₁ [] 0 0 := Stand.of_body Bd
  have e0 : s₁.heap = h0 := by rw [← hh, Bd.state]; rfl
  have N := Fr.nil n0
  obtain ⟨G, hG⟩ : ∃ G : State → JFrame → Prop, G = OwnG p e below s ({ frames := 1, cells := 0, slots := 0, locals := 12 } : Room).cells ({ frames := 1, cells := 0, slots := 0, locals := 12 } : Room).slots (Q_rm7_11 Z a1 h0 n0 w_DECEMBER wE) := ⟨_, rfl⟩
  have gb : ∀ {T T' : State} {g g' : JFrame}, (∀ t, Steps p.tables e below (T'.setTop g') t → Steps p.tables e below (T.setTop g) t) → G T' g' → G T g := by subst hG; exact fun k h => own_by k h
  have go : ∀ {T : State} {locs : List Loc} {cells slots : Nat} {g : JFrame} {v : Option Value}, Stand p l e ({ frames := 1, cells := 0, slots := 0, locals := 12 } : Room) s m #[(.long (12 : Int64)), (.ref a1)] below meth c T locs cells slots → (meth.sig.returnType = none → v = none) → (∀ fs, (∀ (f : JFrame) (acts : List Action), f.method = m → f.locked = none → f.entered = [] → (doReturn e (T.setTop f) acts v).1 = T.setFrames fs) → Steps p.tables e below (T.setTop g) (T.setFrames fs)) → (Q_rm7_11 Z a1 h0 n0 w_DECEMBER wE) v T.heap locs → cells ≤ ({ frames := 1, cells := 0, slots := 0, locals := 12 } : Room).cells → slots ≤ ({ frames := 1, cells := 0, slots := 0, locals := 12 } : Room).slots → G T g := by subst hG; exact fun X h1 h2 h3 h4 h5 => own_out X hlk h1 h2 h3 h4 h5
  show OwnG p e below s ({ frames := 1, cells := 0, slots := 0, locals := 12 } : Room).cells ({ frames := 1, cells := 0, slots := 0, locals := 12 } : Room).slots (Q_rm7_11 Z a1 h0 n0 w_DECEMBER wE) s₁ (entryFrame m #[(.long (12 : Int64)), (.ref a1)] 3)
  rw [← hG, ef_rm7_11 m (12 : Int64) a1]
  clear hG
  show G s₁ (mkF m 0 #[.val (.long (12 : Int64)), .second, .val (.ref a1)] [])
  refine gb (fun _ k => XS.lloadN X0.here hx rfl (hb hby d7_0) rfl (XS.lconst X0.here hx rfl (hb hby d7_1) (XS.lcmp X0.here hx rfl (hb hby d7_2) rfl (XS.ifNo X0.here hx rfl (hb hby d7_3) rfl ((if0 _ _).trans (flt (fun q => (by decide : ¬ ((12 : Int64) < (1 : Int64))) ((own_lt _ _).mp q))).1) (XS.lloadN X0.here hx rfl (hb hby d7_6) rfl k))))) ?_
  show G s₁ (mkF m 7 #[jv 12, .second, rv a1] [.long 12])
  refine gb (X0.ldc2Long hx hown (mvT hZ (ow hw 36 rfl)) (g := (mkF m 7 #[jv 12, .second, rv a1] [.long 12])) rfl (hb hby d7_7)) ?_
  show G s₁ (mkF m 10 #[jv 12, .second, rv a1] [.long 12, .long 12])
  refine gb (fun _ k => XS.lcmp X0.here hx rfl (hb hby d7_10) rfl (XS.ifYes X0.here hx rfl (pc0 := 11) (pc' := 29) rfl (hb hby d7_11) rfl ((if0 _ _).trans (flt (fun q => (by decide : ¬ ((12 : Int64) < (12 : Int64))) ((own_gt _ _).mp q))).2.2.2) (by decide) (by decide) (XS.lloadN X0.here hx rfl (hb hby d7_29) rfl (XS.l2i X0.here hx rfl (hb hby d7_30) rfl k)))) ?_
  show G s₁ (mkF m 31 #[jv 12, .second, rv a1] [.int 12])
  obtain ⟨_, _, ⟨T1, Lz1, kz1, nz1⟩, -, X1, ⟨Lc1, hQ1, lq1, yq1, zq1⟩, st1⟩ := Jvm.LawKit.callS X0 hx (y := (⟨"java/time/Month", "of", "(I)Ljava/time/Month;"⟩ : MethodName)) hown (mvT hZ (ow hw 37 rfl)) (mvT hZ (ow hw 38 rfl)) (mvT hZ (ow hw 39 rfl)) (mvT hZ (ow hw 40 rfl)) (by decide) (backOf (W := 0) (rm8_11 l Z a0 hw [] h0 n0 O w_DECEMBER wE cE S_E ArE szE hel) hZ (ow hw 40 rfl) (ow hw 39 rfl) (by decide) (by decide)) (g := (mkF m 31 #[jv 12, .second, rv a1] [.int 12])) rfl (by rw [hml]; rfl) (argsL := [(.int (12 : Int32))]) (rest := []) (lenOf pd_4 rfl) rfl (by show 2 * 0 + _ ≤ _; exact Nat.le_of_eq rfl) (hb hby d7_31) (fun _ _ => ⟨rfl, e0, (by decide : 0 + 0 ≤ _), (by decide : 0 + 0 ≤ _)⟩)
  dsimp only [Pt.U, Pt.locs, Pt.cells, Pt.slots] at X1 lq1 yq1 zq1 st1 hQ1
  subst lq1 yq1 zq1
  obtain ⟨rfl, rfl, e1⟩ := hQ1
  try rw [List.append_nil] at X1
  refine gb st1 ?_
  show G T1 (mkF m 34 #[jv 12, .second, rv a1] [.ref w_DECEMBER])
  exact go X1 (v := (some (.ref w_DECEMBER))) (fun h => by rw [Bd.returns] at h; cases h) (fun fs hr => retOut X1 hx Bd.returns rfl (Or.inr (Or.inr (Or.inr (Or.inr ⟨rfl, rfl, rfl⟩)))) (hb hby d7_34) hr) (⟨rfl, rfl, e1⟩) (by decide) (by decide)
def Q_rm9_11 (Z : State) (h0 : Heap) (n0 : Nat) (w_DECEMBER : Addr) : Option Value → Heap → List Loc → Prop := fun v h L => v = some (.ref w_DECEMBER) ∧ L = [] ∧ h = h0
set_option maxRecDepth 65536 in
set_option maxHeartbeats 40000000 in
theorem rm9_11 (l : Launch) (Z : State) (a0 : Array Value) (hw : ∀ d ∈ tables_1, d.before a0 Z = true) (ws : List Jvm.Cond) (h0 : Heap) (n0 : Nat) (O : Old Z n0 h0) (w_DECEMBER : Addr) (S_DECEMBER : Sta Z Z.heap "java/time/Month" "DECEMBER" "Ljava/time/Month;" (.ref w_DECEMBER)) :
    MetFree l (⟨"com/example/ratchetbook/ratchetbook/tariff/AnnualMinimumMonthNumberedPinLaw", "expected", "(I)Ljava/time/Month;"⟩ : MethodName) (head1 (Jvm.Cond.code (⟨"com/example/ratchetbook/ratchetbook/tariff/AnnualMinimumMonthNumberedPinLaw", "expected", "(I)Ljava/time/Month;"⟩ : MethodName) method_3_code 1 (some (.object "java/time/Month")) :: ws) ({ frames := 0, cells := 0, slots := 0, locals := 0 } : Room)) (fun a U => a = #[(.int (12 : Int32))] ∧ Z.Warmed39 U.vm ∧ U.heap = h0) (fun _ _ _ _ _ => True) (fun _ U o U' => ∃ v L, o = .returned v ∧ (Q_rm9_11 Z h0 n0 w_DECEMBER) v U'.heap L ∧ FrameEnd U o U' L ({ frames := 0, cells := 0, slots := 0, locals := 0 } : Room).cells ({ frames := 0, cells := 0, slots := 0, locals := 0 } : Room).slots) := by
  refine MetFree.of_bodySF (plainFor_of_name pn_4) hisR ?_
  intro p e s m args below meth c s₁ Bd hml0 hP hK
  obtain ⟨rfl, hZ, hh⟩ := hP
  have hx := Bd.exec
  have hby := Bd.bytes
  have hml : c.maxLocals = 1 := hml0
  have hown : s.vm.findClass "com/example/ratchetbook/ratchetbook/tariff/AnnualMinimumMonthNumberedPinLaw" = some m.cls := findClass_of_methodNamed Bd.named
  have hnm := (name_of_methodNamed Bd.named Bd.method).1
  have hlk := BodyLoose.notSynchronized Bd
  have X0 : Stand p l e ({ frames := 0, cells := 0, slots := 0, locals := 0 } : Room) s m #[(.int (12 : Int32))] below meth c s₁ [] 0 0 := Stand.of_body Bd
  have e0 : s₁.heap = h0 := by rw [← hh, Bd.state]; rfl
  have N := Fr.nil n0
  obtain ⟨G, hG⟩ : ∃ G : State → JFrame → Prop, G = OwnG p e below s ({ frames := 0, cells := 0, slots := 0, locals := 0 } : Room).cells ({ frames := 0, cells := 0, slots := 0, locals := 0 } : Room).slots (Q_rm9_11 Z h0 n0 w_DECEMBER) := ⟨_, rfl⟩
  have gb : ∀ {T T' : State} {g g' : JFrame}, (∀ t, Steps p.tables e below (T'.setTop g') t → Steps p.tables e below (T.setTop g) t) → G T' g' → G T g := by subst hG; exact fun k h => own_by k h
  have go : ∀ {T : State} {locs : List Loc} {cells slots : Nat} {g : JFrame} {v : Option Value}, Stand p l e ({ frames := 0, cells := 0, slots := 0, locals := 0 } : Room) s m #[(.int (12 : Int32))] below meth c T locs cells slots → (meth.sig.returnType = none → v = none) → (∀ fs, (∀ (f : JFrame) (acts : List Action), f.method = m → f.locked = none → f.entered = [] → (doReturn e (T.setTop f) acts v).1 = T.setFrames fs) → Steps p.tables e below (T.setTop g) (T.setFrames fs)) → (Q_rm9_11 Z h0 n0 w_DECEMBER) v T.heap locs → cells ≤ ({ frames := 0, cells := 0, slots := 0, locals := 0 } : Room).cells → slots ≤ ({ frames := 0, cells := 0, slots := 0, locals := 0 } : Room).slots → G T g := by subst hG; exact fun X h1 h2 h3 h4 h5 => own_out X hlk h1 h2 h3 h4 h5
  show OwnG p e below s ({ frames := 0, cells := 0, slots := 0, locals := 0 } : Room).cells ({ frames := 0, cells := 0, slots := 0, locals := 0 } : Room).slots (Q_rm9_11 Z h0 n0 w_DECEMBER) s₁ (entryFrame m #[(.int (12 : Int32))] 1)
  rw [← hG, ef_rm9_11 m (12 : Int32)]
  clear hG
  show G s₁ (mkF m 0 #[.val (.int (12 : Int32))] [])
  refine gb (fun _ k => XS.iloadN X0.here hx rfl (hb hby d9_0) rfl (XS.iconst X0.here hx rfl (hb hby d9_1) (XS.icmpYes X0.here hx rfl (pc0 := 2) (pc' := 9) rfl (hb hby d9_2) rfl (feq (by decide : ¬ ((12 : Int32) = (1 : Int32)))).2 (by decide) (by decide) (XS.iloadN X0.here hx rfl (hb hby d9_9) rfl (XS.iconst X0.here hx rfl (hb hby d9_10) (XS.icmpYes X0.here hx rfl (pc0 := 11) (pc' := 18) rfl (hb hby d9_11) rfl (feq (by decide : ¬ ((12 : Int32) = (2 : Int32)))).2 (by decide) (by decide) k)))))) ?_
  show G s₁ (mkF m 18 #[iv 12] [])
  refine gb (fun _ k => XS.iloadN X0.here hx rfl (hb hby d9_18) rfl (XS.iconst X0.here hx rfl (hb hby d9_19) (XS.icmpYes X0.here hx rfl (pc0 := 20) (pc' := 27) rfl (hb hby d9_20) rfl (feq (by decide : ¬ ((12 : Int32) = (3 : Int32)))).2 (by decide) (by decide) (XS.iloadN X0.here hx rfl (hb hby d9_27) rfl (XS.iconst X0.here hx rfl (hb hby d9_28) (XS.icmpYes X0.here hx rfl (pc0 := 29) (pc' := 36) rfl (hb hby d9_29) rfl (feq (by decide : ¬ ((12 : Int32) = (4 : Int32)))).2 (by decide) (by decide) k)))))) ?_
  show G s₁ (mkF m 36 #[iv 12] [])
  refine gb (fun _ k => XS.iloadN X0.here hx rfl (hb hby d9_36) rfl (XS.iconst X0.here hx rfl (hb hby d9_37) (XS.icmpYes X0.here hx rfl (pc0 := 38) (pc' := 45) rfl (hb hby d9_38) rfl (feq (by decide : ¬ ((12 : Int32) = (5 : Int32)))).2 (by decide) (by decide) (XS.iloadN X0.here hx rfl (hb hby d9_45) rfl (XS.bipush X0.here hx rfl (hb hby d9_46) (XS.icmpYes X0.here hx rfl (pc0 := 48) (pc' := 55) rfl (hb hby d9_48) rfl (feq (by decide : ¬ ((12 : Int32) = (6 : Int32)))).2 (by decide) (by decide) k)))))) ?_
  show G s₁ (mkF m 55 #[iv 12] [])
  refine gb (fun _ k => XS.iloadN X0.here hx rfl (hb hby d9_55) rfl (XS.bipush X0.here hx rfl (hb hby d9_56) (XS.icmpYes X0.here hx rfl (pc0 := 58) (pc' := 65) rfl (hb hby d9_58) rfl (feq (by decide : ¬ ((12 : Int32) = (7 : Int32)))).2 (by decide) (by decide) (XS.iloadN X0.here hx rfl (hb hby d9_65) rfl (XS.bipush X0.here hx rfl (hb hby d9_66) (XS.icmpYes X0.here hx rfl (pc0 := 68) (pc' := 75) rfl (hb hby d9_68) rfl (feq (by decide : ¬ ((12 : Int32) = (8 : Int32)))).2 (by decide) (by decide) k)))))) ?_
  show G s₁ (mkF m 75 #[iv 12] [])
  refine gb (fun _ k => XS.iloadN X0.here hx rfl (hb hby d9_75) rfl (XS.bipush X0.here hx rfl (hb hby d9_76) (XS.icmpYes X0.here hx rfl (pc0 := 78) (pc' := 85) rfl (hb hby d9_78) rfl (feq (by decide : ¬ ((12 : Int32) = (9 : Int32)))).2 (by decide) (by decide) (XS.iloadN X0.here hx rfl (hb hby d9_85) rfl (XS.bipush X0.here hx rfl (hb hby d9_86) (XS.icmpYes X0.here hx rfl (pc0 := 88) (pc' := 95) rfl (hb hby d9_88) rfl (feq (by decide : ¬ ((12 : Int32) = (10 : Int32)))).2 (by decide) (by decide) k)))))) ?_
  show G s₁ (mkF m 95 #[iv 12] [])
  refine gb (fun _ k => XS.iloadN X0.here hx rfl (hb hby d9_95) rfl (XS.bipush X0.here hx rfl (hb hby d9_96) (XS.icmpYes X0.here hx rfl (pc0 := 98) (pc' := 105) rfl (hb hby d9_98) rfl (feq (by decide : ¬ ((12 : Int32) = (11 : Int32)))).2 (by decide) (by decide) k))) ?_
  show G s₁ (mkF m 105 #[iv 12] [])
  obtain ⟨T1, X1, e1, st1⟩ := getS2 X0 hx hZ hown (host := "") (Or.inl (ow hw 49 rfl)) Via.refl e0 (S_DECEMBER.ext O.2) (g := (mkF m 105 #[iv 12] [])) rfl (hb hby d9_105)
  refine gb st1 ?_
  show G T1 (mkF m 108 #[iv 12] [.ref w_DECEMBER])
  exact go X1 (v := (some (.ref w_DECEMBER))) (fun h => by rw [Bd.returns] at h; cases h) (fun fs hr => retOut X1 hx Bd.returns rfl (Or.inr (Or.inr (Or.inr (Or.inr ⟨rfl, rfl, rfl⟩)))) (hb hby d9_108) hr) (⟨rfl, rfl, e1⟩) (by decide) (by decide)
def Q_rm0 (Z : State) (i0 : Int64) (i1 : Int32) (h0 : Heap) (n0 : Nat) (zc : Int32) (wE : Addr) (w_JANUARY : Addr) (w_FEBRUARY : Addr) (w_MARCH : Addr) (w_APRIL : Addr) (w_MAY : Addr) (w_JUNE : Addr) (w_JULY : Addr) (w_AUGUST : Addr) (w_SEPTEMBER : Addr) (w_OCTOBER : Addr) (w_NOVEMBER : Addr) (w_DECEMBER : Addr) : Option Value → Heap → List Loc → Prop := fun v h L => v = some (.int 1) ∧ Fr n0 L
set_option maxRecDepth 65536 in
set_option maxHeartbeats 40000000 in
theorem rm0 (l : Launch) (Z : State) (a0 : Array Value) (hw : ∀ d ∈ tables_1, d.before a0 Z = true) (ws : List Jvm.Cond) (i0 : Int64) (i1 : Int32) (h0 : Heap) (n0 : Nat) (O : Old Z n0 h0) (zc : Int32) (S_cs : Sta Z Z.heap "java/lang/String" "COMPACT_STRINGS" "Z" (.int zc)) (hzc : ¬ zc = (0 : Int32)) (wE : Addr) (cE : Cell) (S_E : Sta Z Z.heap "java/time/Month" "ENUMS" "[Ljava/time/Month;" (.ref wE)) (ArE : Arr Z Z.heap wE cE (.object "java/time/Month")) (szE : cE.slots.size = (12 : Int32).toNatClampNeg) (w_JANUARY : Addr) (S_JANUARY : Sta Z Z.heap "java/time/Month" "JANUARY" "Ljava/time/Month;" (.ref w_JANUARY)) (w_FEBRUARY : Addr) (S_FEBRUARY : Sta Z Z.heap "java/time/Month" "FEBRUARY" "Ljava/time/Month;" (.ref w_FEBRUARY)) (w_MARCH : Addr) (S_MARCH : Sta Z Z.heap "java/time/Month" "MARCH" "Ljava/time/Month;" (.ref w_MARCH)) (w_APRIL : Addr) (S_APRIL : Sta Z Z.heap "java/time/Month" "APRIL" "Ljava/time/Month;" (.ref w_APRIL)) (w_MAY : Addr) (S_MAY : Sta Z Z.heap "java/time/Month" "MAY" "Ljava/time/Month;" (.ref w_MAY)) (w_JUNE : Addr) (S_JUNE : Sta Z Z.heap "java/time/Month" "JUNE" "Ljava/time/Month;" (.ref w_JUNE)) (w_JULY : Addr) (S_JULY : Sta Z Z.heap "java/time/Month" "JULY" "Ljava/time/Month;" (.ref w_JULY)) (w_AUGUST : Addr) (S_AUGUST : Sta Z Z.heap "java/time/Month" "AUGUST" "Ljava/time/Month;" (.ref w_AUGUST)) (w_SEPTEMBER : Addr) (S_SEPTEMBER : Sta Z Z.heap "java/time/Month" "SEPTEMBER" "Ljava/time/Month;" (.ref w_SEPTEMBER)) (w_OCTOBER : Addr) (S_OCTOBER : Sta Z Z.heap "java/time/Month" "OCTOBER" "Ljava/time/Month;" (.ref w_OCTOBER)) (w_NOVEMBER : Addr) (S_NOVEMBER : Sta Z Z.heap "java/time/Month" "NOVEMBER" "Ljava/time/Month;" (.ref w_NOVEMBER)) (w_DECEMBER : Addr) (S_DECEMBER : Sta Z Z.heap "java/time/Month" "DECEMBER" "Ljava/time/Month;" (.ref w_DECEMBER)) (hel0 : cE.slots[((0 : Int32)).toNatClampNeg]? = some (.ref w_JANUARY)) (hel1 : cE.slots[((1 : Int32)).toNatClampNeg]? = some (.ref w_FEBRUARY)) (hel2 : cE.slots[((2 : Int32)).toNatClampNeg]? = some (.ref w_MARCH)) (hel3 : cE.slots[((3 : Int32)).toNatClampNeg]? = some (.ref w_APRIL)) (hel4 : cE.slots[((4 : Int32)).toNatClampNeg]? = some (.ref w_MAY)) (hel5 : cE.slots[((5 : Int32)).toNatClampNeg]? = some (.ref w_JUNE)) (hel6 : cE.slots[((6 : Int32)).toNatClampNeg]? = some (.ref w_JULY)) (hel7 : cE.slots[((7 : Int32)).toNatClampNeg]? = some (.ref w_AUGUST)) (hel8 : cE.slots[((8 : Int32)).toNatClampNeg]? = some (.ref w_SEPTEMBER)) (hel9 : cE.slots[((9 : Int32)).toNatClampNeg]? = some (.ref w_OCTOBER)) (hel10 : cE.slots[((10 : Int32)).toNatClampNeg]? = some (.ref w_NOVEMBER)) (hel11 : cE.slots[((11 : Int32)).toNatClampNeg]? = some (.ref w_DECEMBER)) :
    MetFree l x (head1 (Jvm.Cond.code x code maxLocals ret :: ws) room_1) (fun a U => a = #[(.long i0), (.int i1)] ∧ Z.Warmed39 U.vm ∧ U.heap = h0 ∧ U = Z) (fun _ _ _ _ _ => True) (fun _ U o U' => ∃ v L, o = .returned v ∧ (Q_rm0 Z i0 i1 h0 n0 zc wE w_JANUARY w_FEBRUARY w_MARCH w_APRIL w_MAY w_JUNE w_JULY w_AUGUST w_SEPTEMBER w_OCTOBER w_NOVEMBER w_DECEMBER) v U'.heap L ∧ FrameEnd U o U' L 3 8) := by
  refine MetFree.of_bodySF (plainFor_of_name pn_4) hisR ?_
  intro p e s m args below meth c s₁ Bd hml0 hP hK
  obtain ⟨rfl, hZ, hh, hUZ⟩ := hP
  have hx := Bd.exec
  have hby := Bd.bytes
  have hml : c.maxLocals = 8 := hml0
  have hown : s.vm.findClass "com/example/ratchetbook/ratchetbook/tariff/AnnualMinimumMonthNumberedPinLaw" = some m.cls := findClass_of_methodNamed Bd.named
  have hnm := (name_of_methodNamed Bd.named Bd.method).1
  have hlk := BodyLoose.notSynchronized Bd
  have X0 : Stand p l e room_1 s m #[(.long i0), (.int i1)] below meth c s₁ [] 0 0 := Stand.of_body Bd
  have e0 : s₁.heap = h0 := by rw [← hh, Bd.state]; rfl
  have N := Fr.nil n0
  have O0 := O
  obtain ⟨G, hG⟩ : ∃ G : State → JFrame → Prop, G = OwnG p e below s 3 8 (Q_rm0 Z i0 i1 h0 n0 zc wE w_JANUARY w_FEBRUARY w_MARCH w_APRIL w_MAY w_JUNE w_JULY w_AUGUST w_SEPTEMBER w_OCTOBER w_NOVEMBER w_DECEMBER) := ⟨_, rfl⟩
  have gb : ∀ {T T' : State} {g g' : JFrame}, (∀ t, Steps p.tables e below (T'.setTop g') t → Steps p.tables e below (T.setTop g) t) → G T' g' → G T g := by subst hG; exact fun k h => own_by k h
  have go : ∀ {T : State} {locs : List Loc} {cells slots : Nat} {g : JFrame} {v : Option Value}, Stand p l e room_1 s m #[(.long i0), (.int i1)] below meth c T locs cells slots → (meth.sig.returnType = none → v = none) → (∀ fs, (∀ (f : JFrame) (acts : List Action), f.method = m → f.locked = none → f.entered = [] → (doReturn e (T.setTop f) acts v).1 = T.setFrames fs) → Steps p.tables e below (T.setTop g) (T.setFrames fs)) → (Q_rm0 Z i0 i1 h0 n0 zc wE w_JANUARY w_FEBRUARY w_MARCH w_APRIL w_MAY w_JUNE w_JULY w_AUGUST w_SEPTEMBER w_OCTOBER w_NOVEMBER w_DECEMBER) v T.heap locs → cells ≤ 3 → slots ≤ 8 → G T g := by subst hG; exact fun X h1 h2 h3 h4 h5 => own_out X hlk h1 h2 h3 h4 h5
  show OwnG p e below s 3 8 (Q_rm0 Z i0 i1 h0 n0 zc wE w_JANUARY w_FEBRUARY w_MARCH w_APRIL w_MAY w_JUNE w_JULY w_AUGUST w_SEPTEMBER w_OCTOBER w_NOVEMBER w_DECEMBER) s₁ (entryFrame m #[(.long i0), (.int i1)] maxLocals)
  rw [← hG, ef_rm0 m i0 i1]
  clear hG
  show G s₁ (mkF m 0 #[.val (.long i0), .second, .val (.int i1), .unset, .unset, .unset, .unset, .unset] [])
  refine gb (fun _ k => XS.lloadN X0.here hx rfl (hb hby at_0) rfl k) ?_
  show G s₁ (mkF m 1 #[jv i0, .second, iv i1, .unset, .unset, .unset, .unset, .unset] [.long i0])
  refine gb (X0.ldc2Long hx hown (mvT hZ (ow hw 0 rfl)) (g := (mkF m 1 #[jv i0, .second, iv i1, .unset, .unset, .unset, .unset, .unset] [.long i0])) rfl (hb hby at_1)) ?_
  show G s₁ (mkF m 4 #[jv i0, .second, iv i1, .unset, .unset, .unset, .unset, .unset] [.long 9223372036854775807, .long i0])
  refine gb (fun _ k => XS.land X0.here hx rfl (hb hby at_4) rfl k) ?_
  show G s₁ (mkF m 5 #[jv i0, .second, iv i1, .unset, .unset, .unset, .unset, .unset] [.long (i0 &&& (9223372036854775807 : Int64))])
  refine gb (X0.ldc2Long hx hown (mvT hZ (ow hw 1 rfl)) (g := (mkF m 5 #[jv i0, .second, iv i1, .unset, .unset, .unset, .unset, .unset] [.long (i0 &&& (9223372036854775807 : Int64))])) rfl (hb hby at_5)) ?_
  show G s₁ (mkF m 8 #[jv i0, .second, iv i1, .unset, .unset, .unset, .unset, .unset] [.long 12, .long (i0 &&& (9223372036854775807 : Int64))])
  refine gb (fun _ k => XS.lrem X0.here hx rfl (hb hby at_8) rfl (by decide) (XS.lconst X0.here hx rfl (hb hby at_9) (XS.ladd X0.here hx rfl (hb hby at_10) rfl (XS.lstoreN X0.here hx rfl (hb hby at_11) rfl (l' := #[jv i0, .second, iv i1, jv (((i0 &&& (9223372036854775807 : Int64)) - ((i0 &&& (9223372036854775807 : Int64)) / (12 : Int64)) * (12 : Int64)) + (1 : Int64)), .second, .unset, .unset, .unset]) rfl (XS.iconst X0.here hx rfl (hb hby at_12) k))))) ?_
  show G s₁ (mkF m 13 #[jv i0, .second, iv i1, jv (((i0 &&& (9223372036854775807 : Int64)) - ((i0 &&& (9223372036854775807 : Int64)) / (12 : Int64)) * (12 : Int64)) + (1 : Int64)), .second, .unset, .unset, .unset] [.int 2])
  obtain ⟨T1, h1, kA1, X1, e1, E1, A1, st1⟩ := newP X0 hx hZ (ow hw 2 rfl) e0 (g := (mkF m 13 #[jv i0, .second, iv i1, jv (((i0 &&& (9223372036854775807 : Int64)) - ((i0 &&& (9223372036854775807 : Int64)) / (12 : Int64)) * (12 : Int64)) + (1 : Int64)), .second, .unset, .unset, .unset] [.int 2])) rfl (hb hby at_13) rfl (by decide) (cap := 2) (by decide) (by decide) (by decide) (by decide)
  obtain ⟨b1, g1⟩ : ∃ z, z = h0.size := ⟨_, rfl⟩
  rw [← g1] at A1 st1
  have g_b1 : n0 ≤ b1 := Nat.le_trans (by have := O.2.1; rw [O.1] at this; exact this) (Nat.le_of_eq g1.symm)
  have O := O.ext E1
  have V_b1 : Arv Z h1 b1 kA1 .char (2 : Int32) [(.int (0 : Int32)), (.int (0 : Int32))] (.int (0 : Int32)) := (Arv.new A1 (by decide)).pad (pad_rep [] (.int (0 : Int32)) 2)
  refine gb st1 ?_
  show G T1 (mkF m 15 #[jv i0, .second, iv i1, jv (((i0 &&& (9223372036854775807 : Int64)) - ((i0 &&& (9223372036854775807 : Int64)) / (12 : Int64)) * (12 : Int64)) + (1 : Int64)), .second, .unset, .unset, .unset] [.ref b1])
  refine gb (fun _ k => XS.dup X1.here hx rfl (hb hby at_15) rfl rfl (XS.iconst X1.here hx rfl (hb hby at_16) (XS.iloadN X1.here hx rfl (hb hby at_17) rfl (XS.sipush X1.here hx rfl (hb hby at_18) (XS.iand X1.here hx rfl (hb hby at_21) rfl (XS.i2c X1.here hx rfl (hb hby at_22) rfl k)))))) ?_
  show G T1 (mkF m 23 #[jv i0, .second, iv i1, jv (((i0 &&& (9223372036854775807 : Int64)) - ((i0 &&& (9223372036854775807 : Int64)) / (12 : Int64)) * (12 : Int64)) + (1 : Int64)), .second, .unset, .unset, .unset] [.int ((i1 &&& (255 : Int32)).toUInt32.toUInt16.toUInt32.toInt32), .int 0, .ref b1, .ref b1])
  have V'2 := V_b1
  obtain ⟨cl2, Ar2, qk2, sz2, nn2, hs2, ft2⟩ := V'2
  have hin2 : ¬ ((0 : Int32) < 0 ∨ cl2.slots.size ≤ ((0 : Int32)).toNatClampNeg) := inb_of sz2 ⟨by decide, by decide⟩
  obtain ⟨T3, h3, X3, e3, W3, st3⟩ := stC X1 hx hZ e1 Ar2 (j := (0 : Int32)) hin2 (g := (mkF m 23 #[jv i0, .second, iv i1, jv (((i0 &&& (9223372036854775807 : Int64)) - ((i0 &&& (9223372036854775807 : Int64)) / (12 : Int64)) * (12 : Int64)) + (1 : Int64)), .second, .unset, .unset, .unset] [.int ((i1 &&& (255 : Int32)).toUInt32.toUInt16.toUInt32.toInt32), .int 0, .ref b1, .ref b1])) rfl rfl (hb hby at_23)
  have V_b1 : Arv Z h3 b1 kA1 .char (2 : Int32) [(.int (nar .char ((i1 &&& (255 : Int32)).toUInt32.toUInt16.toUInt32.toInt32))), (.int (0 : Int32))] (.int (0 : Int32)) := Arv.set Ar2 qk2 sz2 nn2 hs2 ft2 (fits_nar_char _) W3 0 rfl (Nat.le_of_ble_eq_true rfl)
  have O := O.wr W3 g_b1
  have N := Fr.snoc X3 N g_b1
  refine gb st3 ?_
  show G T3 (mkF m 24 #[jv i0, .second, iv i1, jv (((i0 &&& (9223372036854775807 : Int64)) - ((i0 &&& (9223372036854775807 : Int64)) / (12 : Int64)) * (12 : Int64)) + (1 : Int64)), .second, .unset, .unset, .unset] [.ref b1])
  refine gb (fun _ k => XS.dup X3.here hx rfl (hb hby at_24) rfl rfl (XS.iconst X3.here hx rfl (hb hby at_25) (XS.iloadN X3.here hx rfl (hb hby at_26) rfl (XS.bipush X3.here hx rfl (hb hby at_27) (XS.iushr X3.here hx rfl (hb hby at_29) rfl (XS.sipush X3.here hx rfl (hb hby at_30) k)))))) ?_
  show G T3 (mkF m 33 #[jv i0, .second, iv i1, jv (((i0 &&& (9223372036854775807 : Int64)) - ((i0 &&& (9223372036854775807 : Int64)) / (12 : Int64)) * (12 : Int64)) + (1 : Int64)), .second, .unset, .unset, .unset] [.int 255, .int ((i1.toUInt32 >>> ((8 : Int32) &&& 31).toUInt32).toInt32), .int 1, .ref b1, .ref b1])
  refine gb (fun _ k => XS.iand X3.here hx rfl (hb hby at_33) rfl (XS.i2c X3.here hx rfl (hb hby at_34) rfl k)) ?_
  show G T3 (mkF m 35 #[jv i0, .second, iv i1, jv (((i0 &&& (9223372036854775807 : Int64)) - ((i0 &&& (9223372036854775807 : Int64)) / (12 : Int64)) * (12 : Int64)) + (1 : Int64)), .second, .unset, .unset, .unset] [.int ((((i1.toUInt32 >>> ((8 : Int32) &&& 31).toUInt32).toInt32) &&& (255 : Int32)).toUInt32.toUInt16.toUInt32.toInt32), .int 1, .ref b1, .ref b1])
  have V'4 := V_b1
  obtain ⟨cl4, Ar4, qk4, sz4, nn4, hs4, ft4⟩ := V'4
  have hin4 : ¬ ((1 : Int32) < 0 ∨ cl4.slots.size ≤ ((1 : Int32)).toNatClampNeg) := inb_of sz4 ⟨by decide, by decide⟩
  obtain ⟨T5, h5, X5, e5, W5, st5⟩ := stC X3 hx hZ e3 Ar4 (j := (1 : Int32)) hin4 (g := (mkF m 35 #[jv i0, .second, iv i1, jv (((i0 &&& (9223372036854775807 : Int64)) - ((i0 &&& (9223372036854775807 : Int64)) / (12 : Int64)) * (12 : Int64)) + (1 : Int64)), .second, .unset, .unset, .unset] [.int ((((i1.toUInt32 >>> ((8 : Int32) &&& 31).toUInt32).toInt32) &&& (255 : Int32)).toUInt32.toUInt16.toUInt32.toInt32), .int 1, .ref b1, .ref b1])) rfl rfl (hb hby at_35)
  have V_b1 : Arv Z h5 b1 kA1 .char (2 : Int32) [(.int (nar .char ((i1 &&& (255 : Int32)).toUInt32.toUInt16.toUInt32.toInt32))), (.int (nar .char ((((i1.toUInt32 >>> ((8 : Int32) &&& 31).toUInt32).toInt32) &&& (255 : Int32)).toUInt32.toUInt16.toUInt32.toInt32)))] (.int (0 : Int32)) := Arv.set Ar4 qk4 sz4 nn4 hs4 ft4 (fits_nar_char _) W5 1 rfl (Nat.le_of_ble_eq_true rfl)
  have O := O.wr W5 g_b1
  have N := Fr.snoc X5 N g_b1
  refine gb st5 ?_
  show G T5 (mkF m 36 #[jv i0, .second, iv i1, jv (((i0 &&& (9223372036854775807 : Int64)) - ((i0 &&& (9223372036854775807 : Int64)) / (12 : Int64)) * (12 : Int64)) + (1 : Int64)), .second, .unset, .unset, .unset] [.ref b1])
  refine gb (fun _ k => XS.astore X5.here hx rfl (hb hby at_36) rfl rfl (l' := #[jv i0, .second, iv i1, jv (((i0 &&& (9223372036854775807 : Int64)) - ((i0 &&& (9223372036854775807 : Int64)) / (12 : Int64)) * (12 : Int64)) + (1 : Int64)), .second, rv b1, .unset, .unset]) rfl k) ?_
  show G T5 (mkF m 38 #[jv i0, .second, iv i1, jv (((i0 &&& (9223372036854775807 : Int64)) - ((i0 &&& (9223372036854775807 : Int64)) / (12 : Int64)) * (12 : Int64)) + (1 : Int64)), .second, rv b1, .unset, .unset] [])
  rw [own_ch8, own_ch8] at V_b1
  obtain ⟨T6, h6, X6, e6, E6, A6, D6, U6, st6⟩ := newO X5 hx hZ hown (ow hw 3 rfl) (ow hw 4 rfl) (ow hw 5 rfl) e5 (g := (mkF m 38 #[jv i0, .second, iv i1, jv (((i0 &&& (9223372036854775807 : Int64)) - ((i0 &&& (9223372036854775807 : Int64)) / (12 : Int64)) * (12 : Int64)) + (1 : Int64)), .second, rv b1, .unset, .unset] [])) rfl (hb hby at_38) (by decide) (by decide)
  obtain ⟨b6, g6⟩ : ∃ z, z = h5.size := ⟨_, rfl⟩
  rw [← g6] at A6 D6 U6 st6
  have g_b6 : n0 ≤ b6 := Nat.le_trans (by have := O.2.1; rw [O.1] at this; exact this) (Nat.le_of_eq g6.symm)
  have ne_b1_b6 : b1 ≠ b6 := Nat.ne_of_lt (Nat.lt_of_lt_of_le V_b1.lt (Nat.le_of_eq g6.symm))
  have V_b1 := V_b1.ext E6
  have O := O.ext E6
  have E_b6 := A6
  have F_coder_b6 : Fld Z h6 b6 "java/lang/String" "coder" "B" (.int (0 : Int32)) := D6 (Or.inr (ow hw 29 rfl)) (ty := .byte) (by decide)
  have F_value_b6 : Fld Z h6 b6 "java/lang/String" "value" "[B" .null := D6 (Or.inr (ow hw 31 rfl)) (ty := (.array .byte)) (by decide)
  refine gb st6 ?_
  show G T6 (mkF m 41 #[jv i0, .second, iv i1, jv (((i0 &&& (9223372036854775807 : Int64)) - ((i0 &&& (9223372036854775807 : Int64)) / (12 : Int64)) * (12 : Int64)) + (1 : Int64)), .second, rv b1, .unset, .unset] [.ref b6])
  refine gb (fun _ k => XS.dup X6.here hx rfl (hb hby at_41) rfl rfl (XS.aload X6.here hx rfl (hb hby at_42) rfl rfl k)) ?_
  show G T6 (mkF m 44 #[jv i0, .second, iv i1, jv (((i0 &&& (9223372036854775807 : Int64)) - ((i0 &&& (9223372036854775807 : Int64)) / (12 : Int64)) * (12 : Int64)) + (1 : Int64)), .second, rv b1, .unset, .unset] [.ref b1, .ref b6, .ref b6])
  have lt_b1 := V_b1.lt
  have lt_b6 := E_b6.lt
  obtain ⟨_, _, ⟨T7, Lz7, kz7, nz7⟩, -, X7, ⟨Lc7, hQ7, lq7, yq7, zq7⟩, st7⟩ := X6.specialBack hx (y := (⟨"java/lang/String", "<init>", "([C)V"⟩ : MethodName)) rfl hown (mvT hZ (ow hw 6 rfl)) (mvT hZ (ow hw 7 rfl)) (mvT hZ (ow hw 8 rfl)) (by decide) (backOf (W := 1) (rmS1_2 l Z a0 hw [] b6 b1 kA1 (i1 &&& (255 : Int32)) (((i1.toUInt32 >>> ((8 : Int32) &&& 31).toUInt32).toInt32) &&& (255 : Int32)) h6 n0 O E_b6 F_coder_b6 F_value_b6 g_b6 V_b1 ne_b1_b6 (own_le255 _) (own_le255 _) zc S_cs hzc) hZ (ow hw 8 rfl) (ow hw 5 rfl) (by decide) (by decide)) (g := (mkF m 44 #[jv i0, .second, iv i1, jv (((i0 &&& (9223372036854775807 : Int64)) - ((i0 &&& (9223372036854775807 : Int64)) / (12 : Int64)) * (12 : Int64)) + (1 : Int64)), .second, rv b1, .unset, .unset] [.ref b1, .ref b6, .ref b6])) rfl (by rw [hml]; rfl) (Steps.refl _) (a := b6) (argsL := [(.ref b1)]) (rest := [(.ref b6)]) (lenOf pd_5 rfl) rfl (by show 2 * 0 + _ ≤ _; exact Nat.le_of_eq rfl) (hb hby at_44) (fun _ _ => ⟨rfl, e6, (by decide : 2 + 1 ≤ _), (by decide : 6 + 2 ≤ _)⟩)
  dsimp only [Pt.U, Pt.locs, Pt.cells, Pt.slots] at X7 lq7 yq7 zq7 st7 hQ7
  subst lq7 yq7 zq7
  obtain ⟨h7, e7⟩ : ∃ z, z = T7.heap := ⟨_, rfl⟩
  rw [← e7] at hQ7
  replace e7 := e7.symm
  obtain ⟨b7, kb7, rfl, Nq7, Kq7, hR7⟩ := hQ7
  have N := Fr.app N Nq7
  have V_b1 := V_b1.keep Kq7 (ninS ne_b1_b6 nin0)
  have E_b6 := E_b6.keep Kq7
  obtain ⟨E_b6, F_coder_b6, F_value_b6, g_b7, sz_b7, V_b7⟩ := hR7
  have O := O.keep Kq7 (allS g_b6 all0)
  have ne_b1_b7 : b1 ≠ b7 := Nat.ne_of_lt (Nat.lt_of_lt_of_le lt_b1 sz_b7)
  have ne_b6_b7 : b6 ≠ b7 := Nat.ne_of_lt (Nat.lt_of_lt_of_le lt_b6 sz_b7)
  refine gb (fun _ k => st7.trans k) ?_
  show G T7 (mkF m 47 #[jv i0, .second, iv i1, jv (((i0 &&& (9223372036854775807 : Int64)) - ((i0 &&& (9223372036854775807 : Int64)) / (12 : Int64)) * (12 : Int64)) + (1 : Int64)), .second, rv b1, .unset, .unset] [.ref b6])
  refine gb (fun _ k => XS.astore X7.here hx rfl (hb hby at_47) rfl rfl (l' := #[jv i0, .second, iv i1, jv (((i0 &&& (9223372036854775807 : Int64)) - ((i0 &&& (9223372036854775807 : Int64)) / (12 : Int64)) * (12 : Int64)) + (1 : Int64)), .second, rv b1, rv b6, .unset]) rfl k) ?_
  show G T7 (mkF m 49 #[jv i0, .second, iv i1, jv (((i0 &&& (9223372036854775807 : Int64)) - ((i0 &&& (9223372036854775807 : Int64)) / (12 : Int64)) * (12 : Int64)) + (1 : Int64)), .second, rv b1, rv b6, .unset] [])
  rcases own_12 i0 with hk | hk | hk | hk | hk | hk | hk | hk | hk | hk | hk | hk
  · skip
    rw [hk]
    show G T7 (mkF m 49 #[jv i0, .second, iv i1, jv 1, .second, rv b1, rv b6, .unset] [])
    refine gb (fun _ k => XS.lloadN X7.here hx rfl (hb hby at_49) rfl (XS.aload X7.here hx rfl (hb hby at_50) rfl rfl k)) ?_
    show G T7 (mkF m 52 #[jv i0, .second, iv i1, jv 1, .second, rv b1, rv b6, .unset] [.ref b6, .long 1])
    obtain ⟨_, _, ⟨T8, Lz8, kz8, nz8⟩, -, X8, ⟨Lc8, hQ8, lq8, yq8, zq8⟩, st8⟩ := Jvm.LawKit.callS X7 hx (y := (⟨"com/example/ratchetbook/ratchetbook/tariff/AnnualMinimum", "monthNumbered", "(JLjava/lang/String;)Ljava/time/Month;"⟩ : MethodName)) hown (mvT hZ (ow hw 32 rfl)) (mvT hZ (ow hw 33 rfl)) (mvT hZ (ow hw 34 rfl)) (mvT hZ (ow hw 35 rfl)) (by decide) (backOf (W := 0) (rm7_0 l Z a0 hw [] b6 h7 n0 O w_JANUARY wE cE S_E ArE szE hel0) hZ (ow hw 35 rfl) (ow hw 34 rfl) (by decide) (by decide)) (g := (mkF m 52 #[jv i0, .second, iv i1, jv 1, .second, rv b1, rv b6, .unset] [.ref b6, .long 1])) rfl (by rw [hml]; rfl) (argsL := [(.long (1 : Int64)), (.ref b6)]) (rest := []) (lenOf pd_6 rfl) rfl (by show 2 * 0 + _ ≤ _; exact Nat.le_of_eq rfl) (hb hby at_52) (fun _ _ => ⟨rfl, e7, (by decide : 3 + 0 ≤ _), (by decide : 8 + 0 ≤ _)⟩)
    dsimp only [Pt.U, Pt.locs, Pt.cells, Pt.slots] at X8 lq8 yq8 zq8 st8 hQ8
    subst lq8 yq8 zq8
    obtain ⟨rfl, rfl, e8⟩ := hQ8
    try rw [List.append_nil] at X8
    refine gb st8 ?_
    show G T8 (mkF m 55 #[jv i0, .second, iv i1, jv 1, .second, rv b1, rv b6, .unset] [.ref w_JANUARY])
    refine gb (fun _ k => XS.astore X8.here hx rfl (hb hby at_55) rfl rfl (l' := #[jv i0, .second, iv i1, jv 1, .second, rv b1, rv b6, rv w_JANUARY]) rfl (XS.aload X8.here hx rfl (hb hby at_57) rfl rfl (XS.lloadN X8.here hx rfl (hb hby at_59) rfl (XS.l2i X8.here hx rfl (hb hby at_60) rfl k)))) ?_
    show G T8 (mkF m 61 #[jv i0, .second, iv i1, jv 1, .second, rv b1, rv b6, rv w_JANUARY] [.int 1, .ref w_JANUARY])
    obtain ⟨_, _, ⟨T9, Lz9, kz9, nz9⟩, -, X9, ⟨Lc9, hQ9, lq9, yq9, zq9⟩, st9⟩ := Jvm.LawKit.callS X8 hx (y := (⟨"com/example/ratchetbook/ratchetbook/tariff/AnnualMinimumMonthNumberedPinLaw", "expected", "(I)Ljava/time/Month;"⟩ : MethodName)) hown (mvT hZ (ow hw 42 rfl)) (mvT hZ (ow hw 43 rfl)) (mvT hZ (ow hw 44 rfl)) (mvT hZ (ow hw 45 rfl)) (by decide) (backOf (W := 1) (rm9_0 l Z a0 hw [] h7 n0 O w_JANUARY S_JANUARY) hZ (ow hw 45 rfl) (ow hw 44 rfl) (by decide) (by decide)) (g := (mkF m 61 #[jv i0, .second, iv i1, jv 1, .second, rv b1, rv b6, rv w_JANUARY] [.int 1, .ref w_JANUARY])) rfl (by rw [hml]; rfl) (argsL := [(.int (1 : Int32))]) (rest := [(.ref w_JANUARY)]) (lenOf pd_4 rfl) rfl (by show 2 * 0 + _ ≤ _; exact Nat.le_of_eq rfl) (hb hby at_61) (fun _ _ => ⟨rfl, e8, (by decide : 3 + 0 ≤ _), (by decide : 8 + 0 ≤ _)⟩)
    dsimp only [Pt.U, Pt.locs, Pt.cells, Pt.slots] at X9 lq9 yq9 zq9 st9 hQ9
    subst lq9 yq9 zq9
    obtain ⟨rfl, rfl, e9⟩ := hQ9
    try rw [List.append_nil] at X9
    refine gb st9 ?_
    show G T9 (mkF m 64 #[jv i0, .second, iv i1, jv 1, .second, rv b1, rv b6, rv w_JANUARY] [.ref w_JANUARY, .ref w_JANUARY])
    refine gb (fun _ k => Jvm.RoadKit.acmp (g := (mkF m 64 #[jv i0, .second, iv i1, jv 1, .second, rv b1, rv b6, rv w_JANUARY] [.ref w_JANUARY, .ref w_JANUARY])) X9 hx rfl rfl rfl (pc0 := 64) (pc' := 67) (same := true) rfl (hb hby at_64) rfl (decide_eq_true rfl) (by decide) (by decide) (XS.iconst X9.here hx rfl (hb hby at_67) (XS.goto X9.here hx rfl (pc0 := 68) (pc' := 72) rfl (hb hby at_68) (by decide) (by decide) k))) ?_
    show G T9 (mkF m 72 #[jv i0, .second, iv i1, jv 1, .second, rv b1, rv b6, rv w_JANUARY] [.int 1])
    exact go X9 (v := (some (.int (1 : Int32)))) (fun h => by rw [Bd.returns] at h; cases h) (fun fs hr => retOut X9 hx Bd.returns rfl (Or.inl ⟨rfl, by simp, _, rfl⟩) (hb hby at_72) hr) (⟨rfl, N⟩) (by decide) (by decide)
  · skip
    rw [hk]
    show G T7 (mkF m 49 #[jv i0, .second, iv i1, jv 2, .second, rv b1, rv b6, .unset] [])
    refine gb (fun _ k => XS.lloadN X7.here hx rfl (hb hby at_49) rfl (XS.aload X7.here hx rfl (hb hby at_50) rfl rfl k)) ?_
    show G T7 (mkF m 52 #[jv i0, .second, iv i1, jv 2, .second, rv b1, rv b6, .unset] [.ref b6, .long 2])
    obtain ⟨_, _, ⟨T10, Lz10, kz10, nz10⟩, -, X10, ⟨Lc10, hQ10, lq10, yq10, zq10⟩, st10⟩ := Jvm.LawKit.callS X7 hx (y := (⟨"com/example/ratchetbook/ratchetbook/tariff/AnnualMinimum", "monthNumbered", "(JLjava/lang/String;)Ljava/time/Month;"⟩ : MethodName)) hown (mvT hZ (ow hw 32 rfl)) (mvT hZ (ow hw 33 rfl)) (mvT hZ (ow hw 34 rfl)) (mvT hZ (ow hw 35 rfl)) (by decide) (backOf (W := 0) (rm7_1 l Z a0 hw [] b6 h7 n0 O w_FEBRUARY wE cE S_E ArE szE hel1) hZ (ow hw 35 rfl) (ow hw 34 rfl) (by decide) (by decide)) (g := (mkF m 52 #[jv i0, .second, iv i1, jv 2, .second, rv b1, rv b6, .unset] [.ref b6, .long 2])) rfl (by rw [hml]; rfl) (argsL := [(.long (2 : Int64)), (.ref b6)]) (rest := []) (lenOf pd_6 rfl) rfl (by show 2 * 0 + _ ≤ _; exact Nat.le_of_eq rfl) (hb hby at_52) (fun _ _ => ⟨rfl, e7, (by decide : 3 + 0 ≤ _), (by decide : 8 + 0 ≤ _)⟩)
    dsimp only [Pt.U, Pt.locs, Pt.cells, Pt.slots] at X10 lq10 yq10 zq10 st10 hQ10
    subst lq10 yq10 zq10
    obtain ⟨rfl, rfl, e10⟩ := hQ10
    try rw [List.append_nil] at X10
    refine gb st10 ?_
    show G T10 (mkF m 55 #[jv i0, .second, iv i1, jv 2, .second, rv b1, rv b6, .unset] [.ref w_FEBRUARY])
    refine gb (fun _ k => XS.astore X10.here hx rfl (hb hby at_55) rfl rfl (l' := #[jv i0, .second, iv i1, jv 2, .second, rv b1, rv b6, rv w_FEBRUARY]) rfl (XS.aload X10.here hx rfl (hb hby at_57) rfl rfl (XS.lloadN X10.here hx rfl (hb hby at_59) rfl (XS.l2i X10.here hx rfl (hb hby at_60) rfl k)))) ?_
    show G T10 (mkF m 61 #[jv i0, .second, iv i1, jv 2, .second, rv b1, rv b6, rv w_FEBRUARY] [.int 2, .ref w_FEBRUARY])
    obtain ⟨_, _, ⟨T11, Lz11, kz11, nz11⟩, -, X11, ⟨Lc11, hQ11, lq11, yq11, zq11⟩, st11⟩ := Jvm.LawKit.callS X10 hx (y := (⟨"com/example/ratchetbook/ratchetbook/tariff/AnnualMinimumMonthNumberedPinLaw", "expected", "(I)Ljava/time/Month;"⟩ : MethodName)) hown (mvT hZ (ow hw 42 rfl)) (mvT hZ (ow hw 43 rfl)) (mvT hZ (ow hw 44 rfl)) (mvT hZ (ow hw 45 rfl)) (by decide) (backOf (W := 1) (rm9_1 l Z a0 hw [] h7 n0 O w_FEBRUARY S_FEBRUARY) hZ (ow hw 45 rfl) (ow hw 44 rfl) (by decide) (by decide)) (g := (mkF m 61 #[jv i0, .second, iv i1, jv 2, .second, rv b1, rv b6, rv w_FEBRUARY] [.int 2, .ref w_FEBRUARY])) rfl (by rw [hml]; rfl) (argsL := [(.int (2 : Int32))]) (rest := [(.ref w_FEBRUARY)]) (lenOf pd_4 rfl) rfl (by show 2 * 0 + _ ≤ _; exact Nat.le_of_eq rfl) (hb hby at_61) (fun _ _ => ⟨rfl, e10, (by decide : 3 + 0 ≤ _), (by decide : 8 + 0 ≤ _)⟩)
    dsimp only [Pt.U, Pt.locs, Pt.cells, Pt.slots] at X11 lq11 yq11 zq11 st11 hQ11
    subst lq11 yq11 zq11
    obtain ⟨rfl, rfl, e11⟩ := hQ11
    try rw [List.append_nil] at X11
    refine gb st11 ?_
    show G T11 (mkF m 64 #[jv i0, .second, iv i1, jv 2, .second, rv b1, rv b6, rv w_FEBRUARY] [.ref w_FEBRUARY, .ref w_FEBRUARY])
    refine gb (fun _ k => Jvm.RoadKit.acmp (g := (mkF m 64 #[jv i0, .second, iv i1, jv 2, .second, rv b1, rv b6, rv w_FEBRUARY] [.ref w_FEBRUARY, .ref w_FEBRUARY])) X11 hx rfl rfl rfl (pc0 := 64) (pc' := 67) (same := true) rfl (hb hby at_64) rfl (decide_eq_true rfl) (by decide) (by decide) (XS.iconst X11.here hx rfl (hb hby at_67) (XS.goto X11.here hx rfl (pc0 := 68) (pc' := 72) rfl (hb hby at_68) (by decide) (by decide) k))) ?_
    show G T11 (mkF m 72 #[jv i0, .second, iv i1, jv 2, .second, rv b1, rv b6, rv w_FEBRUARY] [.int 1])
    exact go X11 (v := (some (.int (1 : Int32)))) (fun h => by rw [Bd.returns] at h; cases h) (fun fs hr => retOut X11 hx Bd.returns rfl (Or.inl ⟨rfl, by simp, _, rfl⟩) (hb hby at_72) hr) (⟨rfl, N⟩) (by decide) (by decide)
  · skip
    rw [hk]
    show G T7 (mkF m 49 #[jv i0, .second, iv i1, jv 3, .second, rv b1, rv b6, .unset] [])
    refine gb (fun _ k => XS.lloadN X7.here hx rfl (hb hby at_49) rfl (XS.aload X7.here hx rfl (hb hby at_50) rfl rfl k)) ?_
    show G T7 (mkF m 52 #[jv i0, .second, iv i1, jv 3, .second, rv b1, rv b6, .unset] [.ref b6, .long 3])
    obtain ⟨_, _, ⟨T12, Lz12, kz12, nz12⟩, -, X12, ⟨Lc12, hQ12, lq12, yq12, zq12⟩, st12⟩ := Jvm.LawKit.callS X7 hx (y := (⟨"com/example/ratchetbook/ratchetbook/tariff/AnnualMinimum", "monthNumbered", "(JLjava/lang/String;)Ljava/time/Month;"⟩ : MethodName)) hown (mvT hZ (ow hw 32 rfl)) (mvT hZ (ow hw 33 rfl)) (mvT hZ (ow hw 34 rfl)) (mvT hZ (ow hw 35 rfl)) (by decide) (backOf (W := 0) (rm7_2 l Z a0 hw [] b6 h7 n0 O w_MARCH wE cE S_E ArE szE hel2) hZ (ow hw 35 rfl) (ow hw 34 rfl) (by decide) (by decide)) (g := (mkF m 52 #[jv i0, .second, iv i1, jv 3, .second, rv b1, rv b6, .unset] [.ref b6, .long 3])) rfl (by rw [hml]; rfl) (argsL := [(.long (3 : Int64)), (.ref b6)]) (rest := []) (lenOf pd_6 rfl) rfl (by show 2 * 0 + _ ≤ _; exact Nat.le_of_eq rfl) (hb hby at_52) (fun _ _ => ⟨rfl, e7, (by decide : 3 + 0 ≤ _), (by decide : 8 + 0 ≤ _)⟩)
    dsimp only [Pt.U, Pt.locs, Pt.cells, Pt.slots] at X12 lq12 yq12 zq12 st12 hQ12
    subst lq12 yq12 zq12
    obtain ⟨rfl, rfl, e12⟩ := hQ12
    try rw [List.append_nil] at X12
    refine gb st12 ?_
    show G T12 (mkF m 55 #[jv i0, .second, iv i1, jv 3, .second, rv b1, rv b6, .unset] [.ref w_MARCH])
    refine gb (fun _ k => XS.astore X12.here hx rfl (hb hby at_55) rfl rfl (l' := #[jv i0, .second, iv i1, jv 3, .second, rv b1, rv b6, rv w_MARCH]) rfl (XS.aload X12.here hx rfl (hb hby at_57) rfl rfl (XS.lloadN X12.here hx rfl (hb hby at_59) rfl (XS.l2i X12.here hx rfl (hb hby at_60) rfl k)))) ?_
    show G T12 (mkF m 61 #[jv i0, .second, iv i1, jv 3, .second, rv b1, rv b6, rv w_MARCH] [.int 3, .ref w_MARCH])
    obtain ⟨_, _, ⟨T13, Lz13, kz13, nz13⟩, -, X13, ⟨Lc13, hQ13, lq13, yq13, zq13⟩, st13⟩ := Jvm.LawKit.callS X12 hx (y := (⟨"com/example/ratchetbook/ratchetbook/tariff/AnnualMinimumMonthNumberedPinLaw", "expected", "(I)Ljava/time/Month;"⟩ : MethodName)) hown (mvT hZ (ow hw 42 rfl)) (mvT hZ (ow hw 43 rfl)) (mvT hZ (ow hw 44 rfl)) (mvT hZ (ow hw 45 rfl)) (by decide) (backOf (W := 1) (rm9_2 l Z a0 hw [] h7 n0 O w_MARCH S_MARCH) hZ (ow hw 45 rfl) (ow hw 44 rfl) (by decide) (by decide)) (g := (mkF m 61 #[jv i0, .second, iv i1, jv 3, .second, rv b1, rv b6, rv w_MARCH] [.int 3, .ref w_MARCH])) rfl (by rw [hml]; rfl) (argsL := [(.int (3 : Int32))]) (rest := [(.ref w_MARCH)]) (lenOf pd_4 rfl) rfl (by show 2 * 0 + _ ≤ _; exact Nat.le_of_eq rfl) (hb hby at_61) (fun _ _ => ⟨rfl, e12, (by decide : 3 + 0 ≤ _), (by decide : 8 + 0 ≤ _)⟩)
    dsimp only [Pt.U, Pt.locs, Pt.cells, Pt.slots] at X13 lq13 yq13 zq13 st13 hQ13
    subst lq13 yq13 zq13
    obtain ⟨rfl, rfl, e13⟩ := hQ13
    try rw [List.append_nil] at X13
    refine gb st13 ?_
    show G T13 (mkF m 64 #[jv i0, .second, iv i1, jv 3, .second, rv b1, rv b6, rv w_MARCH] [.ref w_MARCH, .ref w_MARCH])
    refine gb (fun _ k => Jvm.RoadKit.acmp (g := (mkF m 64 #[jv i0, .second, iv i1, jv 3, .second, rv b1, rv b6, rv w_MARCH] [.ref w_MARCH, .ref w_MARCH])) X13 hx rfl rfl rfl (pc0 := 64) (pc' := 67) (same := true) rfl (hb hby at_64) rfl (decide_eq_true rfl) (by decide) (by decide) (XS.iconst X13.here hx rfl (hb hby at_67) (XS.goto X13.here hx rfl (pc0 := 68) (pc' := 72) rfl (hb hby at_68) (by decide) (by decide) k))) ?_
    show G T13 (mkF m 72 #[jv i0, .second, iv i1, jv 3, .second, rv b1, rv b6, rv w_MARCH] [.int 1])
    exact go X13 (v := (some (.int (1 : Int32)))) (fun h => by rw [Bd.returns] at h; cases h) (fun fs hr => retOut X13 hx Bd.returns rfl (Or.inl ⟨rfl, by simp, _, rfl⟩) (hb hby at_72) hr) (⟨rfl, N⟩) (by decide) (by decide)
  · skip
    rw [hk]
    show G T7 (mkF m 49 #[jv i0, .second, iv i1, jv 4, .second, rv b1, rv b6, .unset] [])
    refine gb (fun _ k => XS.lloadN X7.here hx rfl (hb hby at_49) rfl (XS.aload X7.here hx rfl (hb hby at_50) rfl rfl k)) ?_
    show G T7 (mkF m 52 #[jv i0, .second, iv i1, jv 4, .second, rv b1, rv b6, .unset] [.ref b6, .long 4])
    obtain ⟨_, _, ⟨T14, Lz14, kz14, nz14⟩, -, X14, ⟨Lc14, hQ14, lq14, yq14, zq14⟩, st14⟩ := Jvm.LawKit.callS X7 hx (y := (⟨"com/example/ratchetbook/ratchetbook/tariff/AnnualMinimum", "monthNumbered", "(JLjava/lang/String;)Ljava/time/Month;"⟩ : MethodName)) hown (mvT hZ (ow hw 32 rfl)) (mvT hZ (ow hw 33 rfl)) (mvT hZ (ow hw 34 rfl)) (mvT hZ (ow hw 35 rfl)) (by decide) (backOf (W := 0) (rm7_3 l Z a0 hw [] b6 h7 n0 O w_APRIL wE cE S_E ArE szE hel3) hZ (ow hw 35 rfl) (ow hw 34 rfl) (by decide) (by decide)) (g := (mkF m 52 #[jv i0, .second, iv i1, jv 4, .second, rv b1, rv b6, .unset] [.ref b6, .long 4])) rfl (by rw [hml]; rfl) (argsL := [(.long (4 : Int64)), (.ref b6)]) (rest := []) (lenOf pd_6 rfl) rfl (by show 2 * 0 + _ ≤ _; exact Nat.le_of_eq rfl) (hb hby at_52) (fun _ _ => ⟨rfl, e7, (by decide : 3 + 0 ≤ _), (by decide : 8 + 0 ≤ _)⟩)
    dsimp only [Pt.U, Pt.locs, Pt.cells, Pt.slots] at X14 lq14 yq14 zq14 st14 hQ14
    subst lq14 yq14 zq14
    obtain ⟨rfl, rfl, e14⟩ := hQ14
    try rw [List.append_nil] at X14
    refine gb st14 ?_
    show G T14 (mkF m 55 #[jv i0, .second, iv i1, jv 4, .second, rv b1, rv b6, .unset] [.ref w_APRIL])
    refine gb (fun _ k => XS.astore X14.here hx rfl (hb hby at_55) rfl rfl (l' := #[jv i0, .second, iv i1, jv 4, .second, rv b1, rv b6, rv w_APRIL]) rfl (XS.aload X14.here hx rfl (hb hby at_57) rfl rfl (XS.lloadN X14.here hx rfl (hb hby at_59) rfl (XS.l2i X14.here hx rfl (hb hby at_60) rfl k)))) ?_
    show G T14 (mkF m 61 #[jv i0, .second, iv i1, jv 4, .second, rv b1, rv b6, rv w_APRIL] [.int 4, .ref w_APRIL])
    obtain ⟨_, _, ⟨T15, Lz15, kz15, nz15⟩, -, X15, ⟨Lc15, hQ15, lq15, yq15, zq15⟩, st15⟩ := Jvm.LawKit.callS X14 hx (y := (⟨"com/example/ratchetbook/ratchetbook/tariff/AnnualMinimumMonthNumberedPinLaw", "expected", "(I)Ljava/time/Month;"⟩ : MethodName)) hown (mvT hZ (ow hw 42 rfl)) (mvT hZ (ow hw 43 rfl)) (mvT hZ (ow hw 44 rfl)) (mvT hZ (ow hw 45 rfl)) (by decide) (backOf (W := 1) (rm9_3 l Z a0 hw [] h7 n0 O w_APRIL S_APRIL) hZ (ow hw 45 rfl) (ow hw 44 rfl) (by decide) (by decide)) (g := (mkF m 61 #[jv i0, .second, iv i1, jv 4, .second, rv b1, rv b6, rv w_APRIL] [.int 4, .ref w_APRIL])) rfl (by rw [hml]; rfl) (argsL := [(.int (4 : Int32))]) (rest := [(.ref w_APRIL)]) (lenOf pd_4 rfl) rfl (by show 2 * 0 + _ ≤ _; exact Nat.le_of_eq rfl) (hb hby at_61) (fun _ _ => ⟨rfl, e14, (by decide : 3 + 0 ≤ _), (by decide : 8 + 0 ≤ _)⟩)
    dsimp only [Pt.U, Pt.locs, Pt.cells, Pt.slots] at X15 lq15 yq15 zq15 st15 hQ15
    subst lq15 yq15 zq15
    obtain ⟨rfl, rfl, e15⟩ := hQ15
    try rw [List.append_nil] at X15
    refine gb st15 ?_
    show G T15 (mkF m 64 #[jv i0, .second, iv i1, jv 4, .second, rv b1, rv b6, rv w_APRIL] [.ref w_APRIL, .ref w_APRIL])
    refine gb (fun _ k => Jvm.RoadKit.acmp (g := (mkF m 64 #[jv i0, .second, iv i1, jv 4, .second, rv b1, rv b6, rv w_APRIL] [.ref w_APRIL, .ref w_APRIL])) X15 hx rfl rfl rfl (pc0 := 64) (pc' := 67) (same := true) rfl (hb hby at_64) rfl (decide_eq_true rfl) (by decide) (by decide) (XS.iconst X15.here hx rfl (hb hby at_67) (XS.goto X15.here hx rfl (pc0 := 68) (pc' := 72) rfl (hb hby at_68) (by decide) (by decide) k))) ?_
    show G T15 (mkF m 72 #[jv i0, .second, iv i1, jv 4, .second, rv b1, rv b6, rv w_APRIL] [.int 1])
    exact go X15 (v := (some (.int (1 : Int32)))) (fun h => by rw [Bd.returns] at h; cases h) (fun fs hr => retOut X15 hx Bd.returns rfl (Or.inl ⟨rfl, by simp, _, rfl⟩) (hb hby at_72) hr) (⟨rfl, N⟩) (by decide) (by decide)
  · skip
    rw [hk]
    show G T7 (mkF m 49 #[jv i0, .second, iv i1, jv 5, .second, rv b1, rv b6, .unset] [])
    refine gb (fun _ k => XS.lloadN X7.here hx rfl (hb hby at_49) rfl (XS.aload X7.here hx rfl (hb hby at_50) rfl rfl k)) ?_
    show G T7 (mkF m 52 #[jv i0, .second, iv i1, jv 5, .second, rv b1, rv b6, .unset] [.ref b6, .long 5])
    obtain ⟨_, _, ⟨T16, Lz16, kz16, nz16⟩, -, X16, ⟨Lc16, hQ16, lq16, yq16, zq16⟩, st16⟩ := Jvm.LawKit.callS X7 hx (y := (⟨"com/example/ratchetbook/ratchetbook/tariff/AnnualMinimum", "monthNumbered", "(JLjava/lang/String;)Ljava/time/Month;"⟩ : MethodName)) hown (mvT hZ (ow hw 32 rfl)) (mvT hZ (ow hw 33 rfl)) (mvT hZ (ow hw 34 rfl)) (mvT hZ (ow hw 35 rfl)) (by decide) (backOf (W := 0) (rm7_4 l Z a0 hw [] b6 h7 n0 O w_MAY wE cE S_E ArE szE hel4) hZ (ow hw 35 rfl) (ow hw 34 rfl) (by decide) (by decide)) (g := (mkF m 52 #[jv i0, .second, iv i1, jv 5, .second, rv b1, rv b6, .unset] [.ref b6, .long 5])) rfl (by rw [hml]; rfl) (argsL := [(.long (5 : Int64)), (.ref b6)]) (rest := []) (lenOf pd_6 rfl) rfl (by show 2 * 0 + _ ≤ _; exact Nat.le_of_eq rfl) (hb hby at_52) (fun _ _ => ⟨rfl, e7, (by decide : 3 + 0 ≤ _), (by decide : 8 + 0 ≤ _)⟩)
    dsimp only [Pt.U, Pt.locs, Pt.cells, Pt.slots] at X16 lq16 yq16 zq16 st16 hQ16
    subst lq16 yq16 zq16
    obtain ⟨rfl, rfl, e16⟩ := hQ16
    try rw [List.append_nil] at X16
    refine gb st16 ?_
    show G T16 (mkF m 55 #[jv i0, .second, iv i1, jv 5, .second, rv b1, rv b6, .unset] [.ref w_MAY])
    refine gb (fun _ k => XS.astore X16.here hx rfl (hb hby at_55) rfl rfl (l' := #[jv i0, .second, iv i1, jv 5, .second, rv b1, rv b6, rv w_MAY]) rfl (XS.aload X16.here hx rfl (hb hby at_57) rfl rfl (XS.lloadN X16.here hx rfl (hb hby at_59) rfl (XS.l2i X16.here hx rfl (hb hby at_60) rfl k)))) ?_
    show G T16 (mkF m 61 #[jv i0, .second, iv i1, jv 5, .second, rv b1, rv b6, rv w_MAY] [.int 5, .ref w_MAY])
    obtain ⟨_, _, ⟨T17, Lz17, kz17, nz17⟩, -, X17, ⟨Lc17, hQ17, lq17, yq17, zq17⟩, st17⟩ := Jvm.LawKit.callS X16 hx (y := (⟨"com/example/ratchetbook/ratchetbook/tariff/AnnualMinimumMonthNumberedPinLaw", "expected", "(I)Ljava/time/Month;"⟩ : MethodName)) hown (mvT hZ (ow hw 42 rfl)) (mvT hZ (ow hw 43 rfl)) (mvT hZ (ow hw 44 rfl)) (mvT hZ (ow hw 45 rfl)) (by decide) (backOf (W := 1) (rm9_4 l Z a0 hw [] h7 n0 O w_MAY S_MAY) hZ (ow hw 45 rfl) (ow hw 44 rfl) (by decide) (by decide)) (g := (mkF m 61 #[jv i0, .second, iv i1, jv 5, .second, rv b1, rv b6, rv w_MAY] [.int 5, .ref w_MAY])) rfl (by rw [hml]; rfl) (argsL := [(.int (5 : Int32))]) (rest := [(.ref w_MAY)]) (lenOf pd_4 rfl) rfl (by show 2 * 0 + _ ≤ _; exact Nat.le_of_eq rfl) (hb hby at_61) (fun _ _ => ⟨rfl, e16, (by decide : 3 + 0 ≤ _), (by decide : 8 + 0 ≤ _)⟩)
    dsimp only [Pt.U, Pt.locs, Pt.cells, Pt.slots] at X17 lq17 yq17 zq17 st17 hQ17
    subst lq17 yq17 zq17
    obtain ⟨rfl, rfl, e17⟩ := hQ17
    try rw [List.append_nil] at X17
    refine gb st17 ?_
    show G T17 (mkF m 64 #[jv i0, .second, iv i1, jv 5, .second, rv b1, rv b6, rv w_MAY] [.ref w_MAY, .ref w_MAY])
    refine gb (fun _ k => Jvm.RoadKit.acmp (g := (mkF m 64 #[jv i0, .second, iv i1, jv 5, .second, rv b1, rv b6, rv w_MAY] [.ref w_MAY, .ref w_MAY])) X17 hx rfl rfl rfl (pc0 := 64) (pc' := 67) (same := true) rfl (hb hby at_64) rfl (decide_eq_true rfl) (by decide) (by decide) (XS.iconst X17.here hx rfl (hb hby at_67) (XS.goto X17.here hx rfl (pc0 := 68) (pc' := 72) rfl (hb hby at_68) (by decide) (by decide) k))) ?_
    show G T17 (mkF m 72 #[jv i0, .second, iv i1, jv 5, .second, rv b1, rv b6, rv w_MAY] [.int 1])
    exact go X17 (v := (some (.int (1 : Int32)))) (fun h => by rw [Bd.returns] at h; cases h) (fun fs hr => retOut X17 hx Bd.returns rfl (Or.inl ⟨rfl, by simp, _, rfl⟩) (hb hby at_72) hr) (⟨rfl, N⟩) (by decide) (by decide)
  · skip
    rw [hk]
    show G T7 (mkF m 49 #[jv i0, .second, iv i1, jv 6, .second, rv b1, rv b6, .unset] [])
    refine gb (fun _ k => XS.lloadN X7.here hx rfl (hb hby at_49) rfl (XS.aload X7.here hx rfl (hb hby at_50) rfl rfl k)) ?_
    show G T7 (mkF m 52 #[jv i0, .second, iv i1, jv 6, .second, rv b1, rv b6, .unset] [.ref b6, .long 6])
    obtain ⟨_, _, ⟨T18, Lz18, kz18, nz18⟩, -, X18, ⟨Lc18, hQ18, lq18, yq18, zq18⟩, st18⟩ := Jvm.LawKit.callS X7 hx (y := (⟨"com/example/ratchetbook/ratchetbook/tariff/AnnualMinimum", "monthNumbered", "(JLjava/lang/String;)Ljava/time/Month;"⟩ : MethodName)) hown (mvT hZ (ow hw 32 rfl)) (mvT hZ (ow hw 33 rfl)) (mvT hZ (ow hw 34 rfl)) (mvT hZ (ow hw 35 rfl)) (by decide) (backOf (W := 0) (rm7_5 l Z a0 hw [] b6 h7 n0 O w_JUNE wE cE S_E ArE szE hel5) hZ (ow hw 35 rfl) (ow hw 34 rfl) (by decide) (by decide)) (g := (mkF m 52 #[jv i0, .second, iv i1, jv 6, .second, rv b1, rv b6, .unset] [.ref b6, .long 6])) rfl (by rw [hml]; rfl) (argsL := [(.long (6 : Int64)), (.ref b6)]) (rest := []) (lenOf pd_6 rfl) rfl (by show 2 * 0 + _ ≤ _; exact Nat.le_of_eq rfl) (hb hby at_52) (fun _ _ => ⟨rfl, e7, (by decide : 3 + 0 ≤ _), (by decide : 8 + 0 ≤ _)⟩)
    dsimp only [Pt.U, Pt.locs, Pt.cells, Pt.slots] at X18 lq18 yq18 zq18 st18 hQ18
    subst lq18 yq18 zq18
    obtain ⟨rfl, rfl, e18⟩ := hQ18
    try rw [List.append_nil] at X18
    refine gb st18 ?_
    show G T18 (mkF m 55 #[jv i0, .second, iv i1, jv 6, .second, rv b1, rv b6, .unset] [.ref w_JUNE])
    refine gb (fun _ k => XS.astore X18.here hx rfl (hb hby at_55) rfl rfl (l' := #[jv i0, .second, iv i1, jv 6, .second, rv b1, rv b6, rv w_JUNE]) rfl (XS.aload X18.here hx rfl (hb hby at_57) rfl rfl (XS.lloadN X18.here hx rfl (hb hby at_59) rfl (XS.l2i X18.here hx rfl (hb hby at_60) rfl k)))) ?_
    show G T18 (mkF m 61 #[jv i0, .second, iv i1, jv 6, .second, rv b1, rv b6, rv w_JUNE] [.int 6, .ref w_JUNE])
    obtain ⟨_, _, ⟨T19, Lz19, kz19, nz19⟩, -, X19, ⟨Lc19, hQ19, lq19, yq19, zq19⟩, st19⟩ := Jvm.LawKit.callS X18 hx (y := (⟨"com/example/ratchetbook/ratchetbook/tariff/AnnualMinimumMonthNumberedPinLaw", "expected", "(I)Ljava/time/Month;"⟩ : MethodName)) hown (mvT hZ (ow hw 42 rfl)) (mvT hZ (ow hw 43 rfl)) (mvT hZ (ow hw 44 rfl)) (mvT hZ (ow hw 45 rfl)) (by decide) (backOf (W := 1) (rm9_5 l Z a0 hw [] h7 n0 O w_JUNE S_JUNE) hZ (ow hw 45 rfl) (ow hw 44 rfl) (by decide) (by decide)) (g := (mkF m 61 #[jv i0, .second, iv i1, jv 6, .second, rv b1, rv b6, rv w_JUNE] [.int 6, .ref w_JUNE])) rfl (by rw [hml]; rfl) (argsL := [(.int (6 : Int32))]) (rest := [(.ref w_JUNE)]) (lenOf pd_4 rfl) rfl (by show 2 * 0 + _ ≤ _; exact Nat.le_of_eq rfl) (hb hby at_61) (fun _ _ => ⟨rfl, e18, (by decide : 3 + 0 ≤ _), (by decide : 8 + 0 ≤ _)⟩)
    dsimp only [Pt.U, Pt.locs, Pt.cells, Pt.slots] at X19 lq19 yq19 zq19 st19 hQ19
    subst lq19 yq19 zq19
    obtain ⟨rfl, rfl, e19⟩ := hQ19
    try rw [List.append_nil] at X19
    refine gb st19 ?_
    show G T19 (mkF m 64 #[jv i0, .second, iv i1, jv 6, .second, rv b1, rv b6, rv w_JUNE] [.ref w_JUNE, .ref w_JUNE])
    refine gb (fun _ k => Jvm.RoadKit.acmp (g := (mkF m 64 #[jv i0, .second, iv i1, jv 6, .second, rv b1, rv b6, rv w_JUNE] [.ref w_JUNE, .ref w_JUNE])) X19 hx rfl rfl rfl (pc0 := 64) (pc' := 67) (same := true) rfl (hb hby at_64) rfl (decide_eq_true rfl) (by decide) (by decide) (XS.iconst X19.here hx rfl (hb hby at_67) (XS.goto X19.here hx rfl (pc0 := 68) (pc' := 72) rfl (hb hby at_68) (by decide) (by decide) k))) ?_
    show G T19 (mkF m 72 #[jv i0, .second, iv i1, jv 6, .second, rv b1, rv b6, rv w_JUNE] [.int 1])
    exact go X19 (v := (some (.int (1 : Int32)))) (fun h => by rw [Bd.returns] at h; cases h) (fun fs hr => retOut X19 hx Bd.returns rfl (Or.inl ⟨rfl, by simp, _, rfl⟩) (hb hby at_72) hr) (⟨rfl, N⟩) (by decide) (by decide)
  · skip
    rw [hk]
    show G T7 (mkF m 49 #[jv i0, .second, iv i1, jv 7, .second, rv b1, rv b6, .unset] [])
    refine gb (fun _ k => XS.lloadN X7.here hx rfl (hb hby at_49) rfl (XS.aload X7.here hx rfl (hb hby at_50) rfl rfl k)) ?_
    show G T7 (mkF m 52 #[jv i0, .second, iv i1, jv 7, .second, rv b1, rv b6, .unset] [.ref b6, .long 7])
    obtain ⟨_, _, ⟨T20, Lz20, kz20, nz20⟩, -, X20, ⟨Lc20, hQ20, lq20, yq20, zq20⟩, st20⟩ := Jvm.LawKit.callS X7 hx (y := (⟨"com/example/ratchetbook/ratchetbook/tariff/AnnualMinimum", "monthNumbered", "(JLjava/lang/String;)Ljava/time/Month;"⟩ : MethodName)) hown (mvT hZ (ow hw 32 rfl)) (mvT hZ (ow hw 33 rfl)) (mvT hZ (ow hw 34 rfl)) (mvT hZ (ow hw 35 rfl)) (by decide) (backOf (W := 0) (rm7_6 l Z a0 hw [] b6 h7 n0 O w_JULY wE cE S_E ArE szE hel6) hZ (ow hw 35 rfl) (ow hw 34 rfl) (by decide) (by decide)) (g := (mkF m 52 #[jv i0, .second, iv i1, jv 7, .second, rv b1, rv b6, .unset] [.ref b6, .long 7])) rfl (by rw [hml]; rfl) (argsL := [(.long (7 : Int64)), (.ref b6)]) (rest := []) (lenOf pd_6 rfl) rfl (by show 2 * 0 + _ ≤ _; exact Nat.le_of_eq rfl) (hb hby at_52) (fun _ _ => ⟨rfl, e7, (by decide : 3 + 0 ≤ _), (by decide : 8 + 0 ≤ _)⟩)
    dsimp only [Pt.U, Pt.locs, Pt.cells, Pt.slots] at X20 lq20 yq20 zq20 st20 hQ20
    subst lq20 yq20 zq20
    obtain ⟨rfl, rfl, e20⟩ := hQ20
    try rw [List.append_nil] at X20
    refine gb st20 ?_
    show G T20 (mkF m 55 #[jv i0, .second, iv i1, jv 7, .second, rv b1, rv b6, .unset] [.ref w_JULY])
    refine gb (fun _ k => XS.astore X20.here hx rfl (hb hby at_55) rfl rfl (l' := #[jv i0, .second, iv i1, jv 7, .second, rv b1, rv b6, rv w_JULY]) rfl (XS.aload X20.here hx rfl (hb hby at_57) rfl rfl (XS.lloadN X20.here hx rfl (hb hby at_59) rfl (XS.l2i X20.here hx rfl (hb hby at_60) rfl k)))) ?_
    show G T20 (mkF m 61 #[jv i0, .second, iv i1, jv 7, .second, rv b1, rv b6, rv w_JULY] [.int 7, .ref w_JULY])
    obtain ⟨_, _, ⟨T21, Lz21, kz21, nz21⟩, -, X21, ⟨Lc21, hQ21, lq21, yq21, zq21⟩, st21⟩ := Jvm.LawKit.callS X20 hx (y := (⟨"com/example/ratchetbook/ratchetbook/tariff/AnnualMinimumMonthNumberedPinLaw", "expected", "(I)Ljava/time/Month;"⟩ : MethodName)) hown (mvT hZ (ow hw 42 rfl)) (mvT hZ (ow hw 43 rfl)) (mvT hZ (ow hw 44 rfl)) (mvT hZ (ow hw 45 rfl)) (by decide) (backOf (W := 1) (rm9_6 l Z a0 hw [] h7 n0 O w_JULY S_JULY) hZ (ow hw 45 rfl) (ow hw 44 rfl) (by decide) (by decide)) (g := (mkF m 61 #[jv i0, .second, iv i1, jv 7, .second, rv b1, rv b6, rv w_JULY] [.int 7, .ref w_JULY])) rfl (by rw [hml]; rfl) (argsL := [(.int (7 : Int32))]) (rest := [(.ref w_JULY)]) (lenOf pd_4 rfl) rfl (by show 2 * 0 + _ ≤ _; exact Nat.le_of_eq rfl) (hb hby at_61) (fun _ _ => ⟨rfl, e20, (by decide : 3 + 0 ≤ _), (by decide : 8 + 0 ≤ _)⟩)
    dsimp only [Pt.U, Pt.locs, Pt.cells, Pt.slots] at X21 lq21 yq21 zq21 st21 hQ21
    subst lq21 yq21 zq21
    obtain ⟨rfl, rfl, e21⟩ := hQ21
    try rw [List.append_nil] at X21
    refine gb st21 ?_
    show G T21 (mkF m 64 #[jv i0, .second, iv i1, jv 7, .second, rv b1, rv b6, rv w_JULY] [.ref w_JULY, .ref w_JULY])
    refine gb (fun _ k => Jvm.RoadKit.acmp (g := (mkF m 64 #[jv i0, .second, iv i1, jv 7, .second, rv b1, rv b6, rv w_JULY] [.ref w_JULY, .ref w_JULY])) X21 hx rfl rfl rfl (pc0 := 64) (pc' := 67) (same := true) rfl (hb hby at_64) rfl (decide_eq_true rfl) (by decide) (by decide) (XS.iconst X21.here hx rfl (hb hby at_67) (XS.goto X21.here hx rfl (pc0 := 68) (pc' := 72) rfl (hb hby at_68) (by decide) (by decide) k))) ?_
    show G T21 (mkF m 72 #[jv i0, .second, iv i1, jv 7, .second, rv b1, rv b6, rv w_JULY] [.int 1])
    exact go X21 (v := (some (.int (1 : Int32)))) (fun h => by rw [Bd.returns] at h; cases h) (fun fs hr => retOut X21 hx Bd.returns rfl (Or.inl ⟨rfl, by simp, _, rfl⟩) (hb hby at_72) hr) (⟨rfl, N⟩) (by decide) (by decide)
  · skip
    rw [hk]
    show G T7 (mkF m 49 #[jv i0, .second, iv i1, jv 8, .second, rv b1, rv b6, .unset] [])
    refine gb (fun _ k => XS.lloadN X7.here hx rfl (hb hby at_49) rfl (XS.aload X7.here hx rfl (hb hby at_50) rfl rfl k)) ?_
    show G T7 (mkF m 52 #[jv i0, .second, iv i1, jv 8, .second, rv b1, rv b6, .unset] [.ref b6, .long 8])
    obtain ⟨_, _, ⟨T22, Lz22, kz22, nz22⟩, -, X22, ⟨Lc22, hQ22, lq22, yq22, zq22⟩, st22⟩ := Jvm.LawKit.callS X7 hx (y := (⟨"com/example/ratchetbook/ratchetbook/tariff/AnnualMinimum", "monthNumbered", "(JLjava/lang/String;)Ljava/time/Month;"⟩ : MethodName)) hown (mvT hZ (ow hw 32 rfl)) (mvT hZ (ow hw 33 rfl)) (mvT hZ (ow hw 34 rfl)) (mvT hZ (ow hw 35 rfl)) (by decide) (backOf (W := 0) (rm7_7 l Z a0 hw [] b6 h7 n0 O w_AUGUST wE cE S_E ArE szE hel7) hZ (ow hw 35 rfl) (ow hw 34 rfl) (by decide) (by decide)) (g := (mkF m 52 #[jv i0, .second, iv i1, jv 8, .second, rv b1, rv b6, .unset] [.ref b6, .long 8])) rfl (by rw [hml]; rfl) (argsL := [(.long (8 : Int64)), (.ref b6)]) (rest := []) (lenOf pd_6 rfl) rfl (by show 2 * 0 + _ ≤ _; exact Nat.le_of_eq rfl) (hb hby at_52) (fun _ _ => ⟨rfl, e7, (by decide : 3 + 0 ≤ _), (by decide : 8 + 0 ≤ _)⟩)
    dsimp only [Pt.U, Pt.locs, Pt.cells, Pt.slots] at X22 lq22 yq22 zq22 st22 hQ22
    subst lq22 yq22 zq22
    obtain ⟨rfl, rfl, e22⟩ := hQ22
    try rw [List.append_nil] at X22
    refine gb st22 ?_
    show G T22 (mkF m 55 #[jv i0, .second, iv i1, jv 8, .second, rv b1, rv b6, .unset] [.ref w_AUGUST])
    refine gb (fun _ k => XS.astore X22.here hx rfl (hb hby at_55) rfl rfl (l' := #[jv i0, .second, iv i1, jv 8, .second, rv b1, rv b6, rv w_AUGUST]) rfl (XS.aload X22.here hx rfl (hb hby at_57) rfl rfl (XS.lloadN X22.here hx rfl (hb hby at_59) rfl (XS.l2i X22.here hx rfl (hb hby at_60) rfl k)))) ?_
    show G T22 (mkF m 61 #[jv i0, .second, iv i1, jv 8, .second, rv b1, rv b6, rv w_AUGUST] [.int 8, .ref w_AUGUST])
    obtain ⟨_, _, ⟨T23, Lz23, kz23, nz23⟩, -, X23, ⟨Lc23, hQ23, lq23, yq23, zq23⟩, st23⟩ := Jvm.LawKit.callS X22 hx (y := (⟨"com/example/ratchetbook/ratchetbook/tariff/AnnualMinimumMonthNumberedPinLaw", "expected", "(I)Ljava/time/Month;"⟩ : MethodName)) hown (mvT hZ (ow hw 42 rfl)) (mvT hZ (ow hw 43 rfl)) (mvT hZ (ow hw 44 rfl)) (mvT hZ (ow hw 45 rfl)) (by decide) (backOf (W := 1) (rm9_7 l Z a0 hw [] h7 n0 O w_AUGUST S_AUGUST) hZ (ow hw 45 rfl) (ow hw 44 rfl) (by decide) (by decide)) (g := (mkF m 61 #[jv i0, .second, iv i1, jv 8, .second, rv b1, rv b6, rv w_AUGUST] [.int 8, .ref w_AUGUST])) rfl (by rw [hml]; rfl) (argsL := [(.int (8 : Int32))]) (rest := [(.ref w_AUGUST)]) (lenOf pd_4 rfl) rfl (by show 2 * 0 + _ ≤ _; exact Nat.le_of_eq rfl) (hb hby at_61) (fun _ _ => ⟨rfl, e22, (by decide : 3 + 0 ≤ _), (by decide : 8 + 0 ≤ _)⟩)
    dsimp only [Pt.U, Pt.locs, Pt.cells, Pt.slots] at X23 lq23 yq23 zq23 st23 hQ23
    subst lq23 yq23 zq23
    obtain ⟨rfl, rfl, e23⟩ := hQ23
    try rw [List.append_nil] at X23
    refine gb st23 ?_
    show G T23 (mkF m 64 #[jv i0, .second, iv i1, jv 8, .second, rv b1, rv b6, rv w_AUGUST] [.ref w_AUGUST, .ref w_AUGUST])
    refine gb (fun _ k => Jvm.RoadKit.acmp (g := (mkF m 64 #[jv i0, .second, iv i1, jv 8, .second, rv b1, rv b6, rv w_AUGUST] [.ref w_AUGUST, .ref w_AUGUST])) X23 hx rfl rfl rfl (pc0 := 64) (pc' := 67) (same := true) rfl (hb hby at_64) rfl (decide_eq_true rfl) (by decide) (by decide) (XS.iconst X23.here hx rfl (hb hby at_67) (XS.goto X23.here hx rfl (pc0 := 68) (pc' := 72) rfl (hb hby at_68) (by decide) (by decide) k))) ?_
    show G T23 (mkF m 72 #[jv i0, .second, iv i1, jv 8, .second, rv b1, rv b6, rv w_AUGUST] [.int 1])
    exact go X23 (v := (some (.int (1 : Int32)))) (fun h => by rw [Bd.returns] at h; cases h) (fun fs hr => retOut X23 hx Bd.returns rfl (Or.inl ⟨rfl, by simp, _, rfl⟩) (hb hby at_72) hr) (⟨rfl, N⟩) (by decide) (by decide)
  · skip
    rw [hk]
    show G T7 (mkF m 49 #[jv i0, .second, iv i1, jv 9, .second, rv b1, rv b6, .unset] [])
    refine gb (fun _ k => XS.lloadN X7.here hx rfl (hb hby at_49) rfl (XS.aload X7.here hx rfl (hb hby at_50) rfl rfl k)) ?_
    show G T7 (mkF m 52 #[jv i0, .second, iv i1, jv 9, .second, rv b1, rv b6, .unset] [.ref b6, .long 9])
    obtain ⟨_, _, ⟨T24, Lz24, kz24, nz24⟩, -, X24, ⟨Lc24, hQ24, lq24, yq24, zq24⟩, st24⟩ := Jvm.LawKit.callS X7 hx (y := (⟨"com/example/ratchetbook/ratchetbook/tariff/AnnualMinimum", "monthNumbered", "(JLjava/lang/String;)Ljava/time/Month;"⟩ : MethodName)) hown (mvT hZ (ow hw 32 rfl)) (mvT hZ (ow hw 33 rfl)) (mvT hZ (ow hw 34 rfl)) (mvT hZ (ow hw 35 rfl)) (by decide) (backOf (W := 0) (rm7_8 l Z a0 hw [] b6 h7 n0 O w_SEPTEMBER wE cE S_E ArE szE hel8) hZ (ow hw 35 rfl) (ow hw 34 rfl) (by decide) (by decide)) (g := (mkF m 52 #[jv i0, .second, iv i1, jv 9, .second, rv b1, rv b6, .unset] [.ref b6, .long 9])) rfl (by rw [hml]; rfl) (argsL := [(.long (9 : Int64)), (.ref b6)]) (rest := []) (lenOf pd_6 rfl) rfl (by show 2 * 0 + _ ≤ _; exact Nat.le_of_eq rfl) (hb hby at_52) (fun _ _ => ⟨rfl, e7, (by decide : 3 + 0 ≤ _), (by decide : 8 + 0 ≤ _)⟩)
    dsimp only [Pt.U, Pt.locs, Pt.cells, Pt.slots] at X24 lq24 yq24 zq24 st24 hQ24
    subst lq24 yq24 zq24
    obtain ⟨rfl, rfl, e24⟩ := hQ24
    try rw [List.append_nil] at X24
    refine gb st24 ?_
    show G T24 (mkF m 55 #[jv i0, .second, iv i1, jv 9, .second, rv b1, rv b6, .unset] [.ref w_SEPTEMBER])
    refine gb (fun _ k => XS.astore X24.here hx rfl (hb hby at_55) rfl rfl (l' := #[jv i0, .second, iv i1, jv 9, .second, rv b1, rv b6, rv w_SEPTEMBER]) rfl (XS.aload X24.here hx rfl (hb hby at_57) rfl rfl (XS.lloadN X24.here hx rfl (hb hby at_59) rfl (XS.l2i X24.here hx rfl (hb hby at_60) rfl k)))) ?_
    show G T24 (mkF m 61 #[jv i0, .second, iv i1, jv 9, .second, rv b1, rv b6, rv w_SEPTEMBER] [.int 9, .ref w_SEPTEMBER])
    obtain ⟨_, _, ⟨T25, Lz25, kz25, nz25⟩, -, X25, ⟨Lc25, hQ25, lq25, yq25, zq25⟩, st25⟩ := Jvm.LawKit.callS X24 hx (y := (⟨"com/example/ratchetbook/ratchetbook/tariff/AnnualMinimumMonthNumberedPinLaw", "expected", "(I)Ljava/time/Month;"⟩ : MethodName)) hown (mvT hZ (ow hw 42 rfl)) (mvT hZ (ow hw 43 rfl)) (mvT hZ (ow hw 44 rfl)) (mvT hZ (ow hw 45 rfl)) (by decide) (backOf (W := 1) (rm9_8 l Z a0 hw [] h7 n0 O w_SEPTEMBER S_SEPTEMBER) hZ (ow hw 45 rfl) (ow hw 44 rfl) (by decide) (by decide)) (g := (mkF m 61 #[jv i0, .second, iv i1, jv 9, .second, rv b1, rv b6, rv w_SEPTEMBER] [.int 9, .ref w_SEPTEMBER])) rfl (by rw [hml]; rfl) (argsL := [(.int (9 : Int32))]) (rest := [(.ref w_SEPTEMBER)]) (lenOf pd_4 rfl) rfl (by show 2 * 0 + _ ≤ _; exact Nat.le_of_eq rfl) (hb hby at_61) (fun _ _ => ⟨rfl, e24, (by decide : 3 + 0 ≤ _), (by decide : 8 + 0 ≤ _)⟩)
    dsimp only [Pt.U, Pt.locs, Pt.cells, Pt.slots] at X25 lq25 yq25 zq25 st25 hQ25
    subst lq25 yq25 zq25
    obtain ⟨rfl, rfl, e25⟩ := hQ25
    try rw [List.append_nil] at X25
    refine gb st25 ?_
    show G T25 (mkF m 64 #[jv i0, .second, iv i1, jv 9, .second, rv b1, rv b6, rv w_SEPTEMBER] [.ref w_SEPTEMBER, .ref w_SEPTEMBER])
    refine gb (fun _ k => Jvm.RoadKit.acmp (g := (mkF m 64 #[jv i0, .second, iv i1, jv 9, .second, rv b1, rv b6, rv w_SEPTEMBER] [.ref w_SEPTEMBER, .ref w_SEPTEMBER])) X25 hx rfl rfl rfl (pc0 := 64) (pc' := 67) (same := true) rfl (hb hby at_64) rfl (decide_eq_true rfl) (by decide) (by decide) (XS.iconst X25.here hx rfl (hb hby at_67) (XS.goto X25.here hx rfl (pc0 := 68) (pc' := 72) rfl (hb hby at_68) (by decide) (by decide) k))) ?_
    show G T25 (mkF m 72 #[jv i0, .second, iv i1, jv 9, .second, rv b1, rv b6, rv w_SEPTEMBER] [.int 1])
    exact go X25 (v := (some (.int (1 : Int32)))) (fun h => by rw [Bd.returns] at h; cases h) (fun fs hr => retOut X25 hx Bd.returns rfl (Or.inl ⟨rfl, by simp, _, rfl⟩) (hb hby at_72) hr) (⟨rfl, N⟩) (by decide) (by decide)
  · skip
    rw [hk]
    show G T7 (mkF m 49 #[jv i0, .second, iv i1, jv 10, .second, rv b1, rv b6, .unset] [])
    refine gb (fun _ k => XS.lloadN X7.here hx rfl (hb hby at_49) rfl (XS.aload X7.here hx rfl (hb hby at_50) rfl rfl k)) ?_
    show G T7 (mkF m 52 #[jv i0, .second, iv i1, jv 10, .second, rv b1, rv b6, .unset] [.ref b6, .long 10])
    obtain ⟨_, _, ⟨T26, Lz26, kz26, nz26⟩, -, X26, ⟨Lc26, hQ26, lq26, yq26, zq26⟩, st26⟩ := Jvm.LawKit.callS X7 hx (y := (⟨"com/example/ratchetbook/ratchetbook/tariff/AnnualMinimum", "monthNumbered", "(JLjava/lang/String;)Ljava/time/Month;"⟩ : MethodName)) hown (mvT hZ (ow hw 32 rfl)) (mvT hZ (ow hw 33 rfl)) (mvT hZ (ow hw 34 rfl)) (mvT hZ (ow hw 35 rfl)) (by decide) (backOf (W := 0) (rm7_9 l Z a0 hw [] b6 h7 n0 O w_OCTOBER wE cE S_E ArE szE hel9) hZ (ow hw 35 rfl) (ow hw 34 rfl) (by decide) (by decide)) (g := (mkF m 52 #[jv i0, .second, iv i1, jv 10, .second, rv b1, rv b6, .unset] [.ref b6, .long 10])) rfl (by rw [hml]; rfl) (argsL := [(.long (10 : Int64)), (.ref b6)]) (rest := []) (lenOf pd_6 rfl) rfl (by show 2 * 0 + _ ≤ _; exact Nat.le_of_eq rfl) (hb hby at_52) (fun _ _ => ⟨rfl, e7, (by decide : 3 + 0 ≤ _), (by decide : 8 + 0 ≤ _)⟩)
    dsimp only [Pt.U, Pt.locs, Pt.cells, Pt.slots] at X26 lq26 yq26 zq26 st26 hQ26
    subst lq26 yq26 zq26
    obtain ⟨rfl, rfl, e26⟩ := hQ26
    try rw [List.append_nil] at X26
    refine gb st26 ?_
    show G T26 (mkF m 55 #[jv i0, .second, iv i1, jv 10, .second, rv b1, rv b6, .unset] [.ref w_OCTOBER])
    refine gb (fun _ k => XS.astore X26.here hx rfl (hb hby at_55) rfl rfl (l' := #[jv i0, .second, iv i1, jv 10, .second, rv b1, rv b6, rv w_OCTOBER]) rfl (XS.aload X26.here hx rfl (hb hby at_57) rfl rfl (XS.lloadN X26.here hx rfl (hb hby at_59) rfl (XS.l2i X26.here hx rfl (hb hby at_60) rfl k)))) ?_
    show G T26 (mkF m 61 #[jv i0, .second, iv i1, jv 10, .second, rv b1, rv b6, rv w_OCTOBER] [.int 10, .ref w_OCTOBER])
    obtain ⟨_, _, ⟨T27, Lz27, kz27, nz27⟩, -, X27, ⟨Lc27, hQ27, lq27, yq27, zq27⟩, st27⟩ := Jvm.LawKit.callS X26 hx (y := (⟨"com/example/ratchetbook/ratchetbook/tariff/AnnualMinimumMonthNumberedPinLaw", "expected", "(I)Ljava/time/Month;"⟩ : MethodName)) hown (mvT hZ (ow hw 42 rfl)) (mvT hZ (ow hw 43 rfl)) (mvT hZ (ow hw 44 rfl)) (mvT hZ (ow hw 45 rfl)) (by decide) (backOf (W := 1) (rm9_9 l Z a0 hw [] h7 n0 O w_OCTOBER S_OCTOBER) hZ (ow hw 45 rfl) (ow hw 44 rfl) (by decide) (by decide)) (g := (mkF m 61 #[jv i0, .second, iv i1, jv 10, .second, rv b1, rv b6, rv w_OCTOBER] [.int 10, .ref w_OCTOBER])) rfl (by rw [hml]; rfl) (argsL := [(.int (10 : Int32))]) (rest := [(.ref w_OCTOBER)]) (lenOf pd_4 rfl) rfl (by show 2 * 0 + _ ≤ _; exact Nat.le_of_eq rfl) (hb hby at_61) (fun _ _ => ⟨rfl, e26, (by decide : 3 + 0 ≤ _), (by decide : 8 + 0 ≤ _)⟩)
    dsimp only [Pt.U, Pt.locs, Pt.cells, Pt.slots] at X27 lq27 yq27 zq27 st27 hQ27
    subst lq27 yq27 zq27
    obtain ⟨rfl, rfl, e27⟩ := hQ27
    try rw [List.append_nil] at X27
    refine gb st27 ?_
    show G T27 (mkF m 64 #[jv i0, .second, iv i1, jv 10, .second, rv b1, rv b6, rv w_OCTOBER] [.ref w_OCTOBER, .ref w_OCTOBER])
    refine gb (fun _ k => Jvm.RoadKit.acmp (g := (mkF m 64 #[jv i0, .second, iv i1, jv 10, .second, rv b1, rv b6, rv w_OCTOBER] [.ref w_OCTOBER, .ref w_OCTOBER])) X27 hx rfl rfl rfl (pc0 := 64) (pc' := 67) (same := true) rfl (hb hby at_64) rfl (decide_eq_true rfl) (by decide) (by decide) (XS.iconst X27.here hx rfl (hb hby at_67) (XS.goto X27.here hx rfl (pc0 := 68) (pc' := 72) rfl (hb hby at_68) (by decide) (by decide) k))) ?_
    show G T27 (mkF m 72 #[jv i0, .second, iv i1, jv 10, .second, rv b1, rv b6, rv w_OCTOBER] [.int 1])
    exact go X27 (v := (some (.int (1 : Int32)))) (fun h => by rw [Bd.returns] at h; cases h) (fun fs hr => retOut X27 hx Bd.returns rfl (Or.inl ⟨rfl, by simp, _, rfl⟩) (hb hby at_72) hr) (⟨rfl, N⟩) (by decide) (by decide)
  · skip
    rw [hk]
    show G T7 (mkF m 49 #[jv i0, .second, iv i1, jv 11, .second, rv b1, rv b6, .unset] [])
    refine gb (fun _ k => XS.lloadN X7.here hx rfl (hb hby at_49) rfl (XS.aload X7.here hx rfl (hb hby at_50) rfl rfl k)) ?_
    show G T7 (mkF m 52 #[jv i0, .second, iv i1, jv 11, .second, rv b1, rv b6, .unset] [.ref b6, .long 11])
    obtain ⟨_, _, ⟨T28, Lz28, kz28, nz28⟩, -, X28, ⟨Lc28, hQ28, lq28, yq28, zq28⟩, st28⟩ := Jvm.LawKit.callS X7 hx (y := (⟨"com/example/ratchetbook/ratchetbook/tariff/AnnualMinimum", "monthNumbered", "(JLjava/lang/String;)Ljava/time/Month;"⟩ : MethodName)) hown (mvT hZ (ow hw 32 rfl)) (mvT hZ (ow hw 33 rfl)) (mvT hZ (ow hw 34 rfl)) (mvT hZ (ow hw 35 rfl)) (by decide) (backOf (W := 0) (rm7_10 l Z a0 hw [] b6 h7 n0 O w_NOVEMBER wE cE S_E ArE szE hel10) hZ (ow hw 35 rfl) (ow hw 34 rfl) (by decide) (by decide)) (g := (mkF m 52 #[jv i0, .second, iv i1, jv 11, .second, rv b1, rv b6, .unset] [.ref b6, .long 11])) rfl (by rw [hml]; rfl) (argsL := [(.long (11 : Int64)), (.ref b6)]) (rest := []) (lenOf pd_6 rfl) rfl (by show 2 * 0 + _ ≤ _; exact Nat.le_of_eq rfl) (hb hby at_52) (fun _ _ => ⟨rfl, e7, (by decide : 3 + 0 ≤ _), (by decide : 8 + 0 ≤ _)⟩)
    dsimp only [Pt.U, Pt.locs, Pt.cells, Pt.slots] at X28 lq28 yq28 zq28 st28 hQ28
    subst lq28 yq28 zq28
    obtain ⟨rfl, rfl, e28⟩ := hQ28
    try rw [List.append_nil] at X28
    refine gb st28 ?_
    show G T28 (mkF m 55 #[jv i0, .second, iv i1, jv 11, .second, rv b1, rv b6, .unset] [.ref w_NOVEMBER])
    refine gb (fun _ k => XS.astore X28.here hx rfl (hb hby at_55) rfl rfl (l' := #[jv i0, .second, iv i1, jv 11, .second, rv b1, rv b6, rv w_NOVEMBER]) rfl (XS.aload X28.here hx rfl (hb hby at_57) rfl rfl (XS.lloadN X28.here hx rfl (hb hby at_59) rfl (XS.l2i X28.here hx rfl (hb hby at_60) rfl k)))) ?_
    show G T28 (mkF m 61 #[jv i0, .second, iv i1, jv 11, .second, rv b1, rv b6, rv w_NOVEMBER] [.int 11, .ref w_NOVEMBER])
    obtain ⟨_, _, ⟨T29, Lz29, kz29, nz29⟩, -, X29, ⟨Lc29, hQ29, lq29, yq29, zq29⟩, st29⟩ := Jvm.LawKit.callS X28 hx (y := (⟨"com/example/ratchetbook/ratchetbook/tariff/AnnualMinimumMonthNumberedPinLaw", "expected", "(I)Ljava/time/Month;"⟩ : MethodName)) hown (mvT hZ (ow hw 42 rfl)) (mvT hZ (ow hw 43 rfl)) (mvT hZ (ow hw 44 rfl)) (mvT hZ (ow hw 45 rfl)) (by decide) (backOf (W := 1) (rm9_10 l Z a0 hw [] h7 n0 O w_NOVEMBER S_NOVEMBER) hZ (ow hw 45 rfl) (ow hw 44 rfl) (by decide) (by decide)) (g := (mkF m 61 #[jv i0, .second, iv i1, jv 11, .second, rv b1, rv b6, rv w_NOVEMBER] [.int 11, .ref w_NOVEMBER])) rfl (by rw [hml]; rfl) (argsL := [(.int (11 : Int32))]) (rest := [(.ref w_NOVEMBER)]) (lenOf pd_4 rfl) rfl (by show 2 * 0 + _ ≤ _; exact Nat.le_of_eq rfl) (hb hby at_61) (fun _ _ => ⟨rfl, e28, (by decide : 3 + 0 ≤ _), (by decide : 8 + 0 ≤ _)⟩)
    dsimp only [Pt.U, Pt.locs, Pt.cells, Pt.slots] at X29 lq29 yq29 zq29 st29 hQ29
    subst lq29 yq29 zq29
    obtain ⟨rfl, rfl, e29⟩ := hQ29
    try rw [List.append_nil] at X29
    refine gb st29 ?_
    show G T29 (mkF m 64 #[jv i0, .second, iv i1, jv 11, .second, rv b1, rv b6, rv w_NOVEMBER] [.ref w_NOVEMBER, .ref w_NOVEMBER])
    refine gb (fun _ k => Jvm.RoadKit.acmp (g := (mkF m 64 #[jv i0, .second, iv i1, jv 11, .second, rv b1, rv b6, rv w_NOVEMBER] [.ref w_NOVEMBER, .ref w_NOVEMBER])) X29 hx rfl rfl rfl (pc0 := 64) (pc' := 67) (same := true) rfl (hb hby at_64) rfl (decide_eq_true rfl) (by decide) (by decide) (XS.iconst X29.here hx rfl (hb hby at_67) (XS.goto X29.here hx rfl (pc0 := 68) (pc' := 72) rfl (hb hby at_68) (by decide) (by decide) k))) ?_
    show G T29 (mkF m 72 #[jv i0, .second, iv i1, jv 11, .second, rv b1, rv b6, rv w_NOVEMBER] [.int 1])
    exact go X29 (v := (some (.int (1 : Int32)))) (fun h => by rw [Bd.returns] at h; cases h) (fun fs hr => retOut X29 hx Bd.returns rfl (Or.inl ⟨rfl, by simp, _, rfl⟩) (hb hby at_72) hr) (⟨rfl, N⟩) (by decide) (by decide)
  · skip
    rw [hk]
    show G T7 (mkF m 49 #[jv i0, .second, iv i1, jv 12, .second, rv b1, rv b6, .unset] [])
    refine gb (fun _ k => XS.lloadN X7.here hx rfl (hb hby at_49) rfl (XS.aload X7.here hx rfl (hb hby at_50) rfl rfl k)) ?_
    show G T7 (mkF m 52 #[jv i0, .second, iv i1, jv 12, .second, rv b1, rv b6, .unset] [.ref b6, .long 12])
    obtain ⟨_, _, ⟨T30, Lz30, kz30, nz30⟩, -, X30, ⟨Lc30, hQ30, lq30, yq30, zq30⟩, st30⟩ := Jvm.LawKit.callS X7 hx (y := (⟨"com/example/ratchetbook/ratchetbook/tariff/AnnualMinimum", "monthNumbered", "(JLjava/lang/String;)Ljava/time/Month;"⟩ : MethodName)) hown (mvT hZ (ow hw 32 rfl)) (mvT hZ (ow hw 33 rfl)) (mvT hZ (ow hw 34 rfl)) (mvT hZ (ow hw 35 rfl)) (by decide) (backOf (W := 0) (rm7_11 l Z a0 hw [] b6 h7 n0 O w_DECEMBER wE cE S_E ArE szE hel11) hZ (ow hw 35 rfl) (ow hw 34 rfl) (by decide) (by decide)) (g := (mkF m 52 #[jv i0, .second, iv i1, jv 12, .second, rv b1, rv b6, .unset] [.ref b6, .long 12])) rfl (by rw [hml]; rfl) (argsL := [(.long (12 : Int64)), (.ref b6)]) (rest := []) (lenOf pd_6 rfl) rfl (by show 2 * 0 + _ ≤ _; exact Nat.le_of_eq rfl) (hb hby at_52) (fun _ _ => ⟨rfl, e7, (by decide : 3 + 0 ≤ _), (by decide : 8 + 0 ≤ _)⟩)
    dsimp only [Pt.U, Pt.locs, Pt.cells, Pt.slots] at X30 lq30 yq30 zq30 st30 hQ30
    subst lq30 yq30 zq30
    obtain ⟨rfl, rfl, e30⟩ := hQ30
    try rw [List.append_nil] at X30
    refine gb st30 ?_
    show G T30 (mkF m 55 #[jv i0, .second, iv i1, jv 12, .second, rv b1, rv b6, .unset] [.ref w_DECEMBER])
    refine gb (fun _ k => XS.astore X30.here hx rfl (hb hby at_55) rfl rfl (l' := #[jv i0, .second, iv i1, jv 12, .second, rv b1, rv b6, rv w_DECEMBER]) rfl (XS.aload X30.here hx rfl (hb hby at_57) rfl rfl (XS.lloadN X30.here hx rfl (hb hby at_59) rfl (XS.l2i X30.here hx rfl (hb hby at_60) rfl k)))) ?_
    show G T30 (mkF m 61 #[jv i0, .second, iv i1, jv 12, .second, rv b1, rv b6, rv w_DECEMBER] [.int 12, .ref w_DECEMBER])
    obtain ⟨_, _, ⟨T31, Lz31, kz31, nz31⟩, -, X31, ⟨Lc31, hQ31, lq31, yq31, zq31⟩, st31⟩ := Jvm.LawKit.callS X30 hx (y := (⟨"com/example/ratchetbook/ratchetbook/tariff/AnnualMinimumMonthNumberedPinLaw", "expected", "(I)Ljava/time/Month;"⟩ : MethodName)) hown (mvT hZ (ow hw 42 rfl)) (mvT hZ (ow hw 43 rfl)) (mvT hZ (ow hw 44 rfl)) (mvT hZ (ow hw 45 rfl)) (by decide) (backOf (W := 1) (rm9_11 l Z a0 hw [] h7 n0 O w_DECEMBER S_DECEMBER) hZ (ow hw 45 rfl) (ow hw 44 rfl) (by decide) (by decide)) (g := (mkF m 61 #[jv i0, .second, iv i1, jv 12, .second, rv b1, rv b6, rv w_DECEMBER] [.int 12, .ref w_DECEMBER])) rfl (by rw [hml]; rfl) (argsL := [(.int (12 : Int32))]) (rest := [(.ref w_DECEMBER)]) (lenOf pd_4 rfl) rfl (by show 2 * 0 + _ ≤ _; exact Nat.le_of_eq rfl) (hb hby at_61) (fun _ _ => ⟨rfl, e30, (by decide : 3 + 0 ≤ _), (by decide : 8 + 0 ≤ _)⟩)
    dsimp only [Pt.U, Pt.locs, Pt.cells, Pt.slots] at X31 lq31 yq31 zq31 st31 hQ31
    subst lq31 yq31 zq31
    obtain ⟨rfl, rfl, e31⟩ := hQ31
    try rw [List.append_nil] at X31
    refine gb st31 ?_
    show G T31 (mkF m 64 #[jv i0, .second, iv i1, jv 12, .second, rv b1, rv b6, rv w_DECEMBER] [.ref w_DECEMBER, .ref w_DECEMBER])
    refine gb (fun _ k => Jvm.RoadKit.acmp (g := (mkF m 64 #[jv i0, .second, iv i1, jv 12, .second, rv b1, rv b6, rv w_DECEMBER] [.ref w_DECEMBER, .ref w_DECEMBER])) X31 hx rfl rfl rfl (pc0 := 64) (pc' := 67) (same := true) rfl (hb hby at_64) rfl (decide_eq_true rfl) (by decide) (by decide) (XS.iconst X31.here hx rfl (hb hby at_67) (XS.goto X31.here hx rfl (pc0 := 68) (pc' := 72) rfl (hb hby at_68) (by decide) (by decide) k))) ?_
    show G T31 (mkF m 72 #[jv i0, .second, iv i1, jv 12, .second, rv b1, rv b6, rv w_DECEMBER] [.int 1])
    exact go X31 (v := (some (.int (1 : Int32)))) (fun h => by rw [Bd.returns] at h; cases h) (fun fs hr => retOut X31 hx Bd.returns rfl (Or.inl ⟨rfl, by simp, _, rfl⟩) (hb hby at_72) hr) (⟨rfl, N⟩) (by decide) (by decide)
set_option maxRecDepth 65536 in
set_option maxHeartbeats 40000000 in
theorem comes_1 {Post : Tables → Env → Array Value → State → Outcome → State → Prop} (hpost : ∀ tb e args s v u, (limb_1_1.after args s (.returned v) u = true ∧ limb_1_2.after args s (.returned v) u = true ∧ True) → FrameEnd s (.returned v) u (Jvm.fieldLocs frame_1_writes args s ++ Jvm.arrayLocs frame_1_arrays args s ++ Jvm.staticLocs frame_1_statics s) 16 128 → Post tb e args s (.returned v) u) :
    ArmFor flags0 classFile x code maxLocals ret World_1 tables_1 room_1 Calls_1 rest_1 Pre_1 Post := by
  intro l hfl _ _ p e ha hc hk s m args below hf hA hF happ hP
  obtain ⟨hcalls, hrest, hpre⟩ := hP
  obtain ⟨-, -, -, hnamed, -, -, -, hat⟩ := (Spec.applies_iff hf).mp happ
  obtain ⟨hg, hn⟩ := and_e (Cond.before_iff.mp (show (Jvm.Cond.and given_1 narrow_1).before args s = true from hpre))
  obtain ⟨g1, g2⟩ := and_e hg
  obtain ⟨g3, g4⟩ := and_e g2
  obtain ⟨w0, w1, rfl⟩ : ∃ w0 w1 : Value, args = #[w0, w1] := by
    have hs : args.size = 2 := by simpa [Cond.value, given_1] using g1
    obtain ⟨L⟩ := args
    match L, hs with
    | [w0, w1], _ => exact ⟨w0, w1, rfl⟩
  have hw := fun d (hd : d ∈ tables_1) => atoms_spec (ws := Jvm.Cond.code x code maxLocals ret :: tables_1) hat d (List.mem_cons_of_mem _ hd)
  have hfit : Fit s := fun {y c} hc i hi => by
    obtain ⟨ha, rfl⟩ := Array.getElem?_eq_some_iff.mp hc
    have q := List.all_eq_true.mp ((Array.all_eq_true_iff_forall_mem.mp hF) _ (Array.getElem_mem ha)) i (List.mem_range.mpr hi)
    simpa [Array.getElem?_eq_getElem hi] using q
  obtain ⟨hsets, hown0⟩ := atoms_of _ (rest_1_c_eq ▸ (show rest_1_c.before _ s = true from hrest))
  have hr0 := Cond.before_iff.mp hown0
  obtain ⟨i0, ei0⟩ := isL_v g3
  obtain rfl : w0 = (.long i0) := Option.some.inj ei0
  obtain ⟨i1, ei1⟩ := is_v g4
  obtain rfl : w1 = (.int i1) := Option.some.inj ei1
  obtain ⟨zc, ezc⟩ := is_v (Cond.before_iff.mp (hsets _ (List.mem_of_getElem? (i := 1) rfl)))
  have S_cs : Sta s s.heap "java/lang/String" "COMPACT_STRINGS" "Z" (.int zc) := Sta.start ezc (Or.inl (hsets _ (List.mem_of_getElem? (i := 0) rfl)))
  have hzc : ¬ zc = (0 : Int32) := gotF (Cond.eq_ints ezc (Term.int_eval 0)) (not_v (Cond.before_iff.mp (hsets _ (List.mem_of_getElem? (i := 2) rfl))))
  have hA := Cond.before_iff.mp (hsets _ (List.mem_of_getElem? (i := 35) rfl))
  obtain ⟨wE, evE⟩ := arr_v hA
  obtain ⟨cE, ArE⟩ := Arr.start evE hA
  have S_E : Sta s s.heap "java/time/Month" "ENUMS" "[Ljava/time/Month;" (.ref wE) := Sta.start evE (Or.inl (hsets _ (List.mem_of_getElem? (i := 10) rfl)))
  have hL := eqv_i (Term.int_eval (12 : Int32)) (Cond.before_iff.mp (hsets _ (List.mem_of_getElem? (i := 37) rfl)))
  obtain ⟨hl1, hl2⟩ := own_len evE ArE hL
  have szE : cE.slots.size = (12 : Int32).toNatClampNeg := by rw [← hl2]; simp only [Int32.toNatClampNeg, len_toInt hl1]; rfl
  obtain ⟨w_JANUARY, ee0⟩ := exa_v (Cond.before_iff.mp (hsets _ (List.mem_of_getElem? (i := 39) rfl)))
  have es0 := own_eqS ee0 (Cond.before_iff.mp (hsets _ (List.mem_of_getElem? (i := 38) rfl)))
  have S_JANUARY : Sta s s.heap "java/time/Month" "JANUARY" "Ljava/time/Month;" (.ref w_JANUARY) := Sta.start es0 (Or.inl (hsets _ (List.mem_of_getElem? (i := 12) rfl)))
  have hel0 := (elem_in ee0 evE (Term.int_eval (0 : Int32)) ArE.1).2
  obtain ⟨w_FEBRUARY, ee1⟩ := exa_v (Cond.before_iff.mp (hsets _ (List.mem_of_getElem? (i := 43) rfl)))
  have es1 := own_eqS ee1 (Cond.before_iff.mp (hsets _ (List.mem_of_getElem? (i := 42) rfl)))
  have S_FEBRUARY : Sta s s.heap "java/time/Month" "FEBRUARY" "Ljava/time/Month;" (.ref w_FEBRUARY) := Sta.start es1 (Or.inl (hsets _ (List.mem_of_getElem? (i := 14) rfl)))
  have hel1 := (elem_in ee1 evE (Term.int_eval (1 : Int32)) ArE.1).2
  obtain ⟨w_MARCH, ee2⟩ := exa_v (Cond.before_iff.mp (hsets _ (List.mem_of_getElem? (i := 47) rfl)))
  have es2 := own_eqS ee2 (Cond.before_iff.mp (hsets _ (List.mem_of_getElem? (i := 46) rfl)))
  have S_MARCH : Sta s s.heap "java/time/Month" "MARCH" "Ljava/time/Month;" (.ref w_MARCH) := Sta.start es2 (Or.inl (hsets _ (List.mem_of_getElem? (i := 16) rfl)))
  have hel2 := (elem_in ee2 evE (Term.int_eval (2 : Int32)) ArE.1).2
  obtain ⟨w_APRIL, ee3⟩ := exa_v (Cond.before_iff.mp (hsets _ (List.mem_of_getElem? (i := 51) rfl)))
  have es3 := own_eqS ee3 (Cond.before_iff.mp (hsets _ (List.mem_of_getElem? (i := 50) rfl)))
  have S_APRIL : Sta s s.heap "java/time/Month" "APRIL" "Ljava/time/Month;" (.ref w_APRIL) := Sta.start es3 (Or.inl (hsets _ (List.mem_of_getElem? (i := 18) rfl)))
  have hel3 := (elem_in ee3 evE (Term.int_eval (3 : Int32)) ArE.1).2
  obtain ⟨w_MAY, ee4⟩ := exa_v (Cond.before_iff.mp (hsets _ (List.mem_of_getElem? (i := 55) rfl)))
  have es4 := own_eqS ee4 (Cond.before_iff.mp (hsets _ (List.mem_of_getElem? (i := 54) rfl)))
  have S_MAY : Sta s s.heap "java/time/Month" "MAY" "Ljava/time/Month;" (.ref w_MAY) := Sta.start es4 (Or.inl (hsets _ (List.mem_of_getElem? (i := 20) rfl)))
  have hel4 := (elem_in ee4 evE (Term.int_eval (4 : Int32)) ArE.1).2
  obtain ⟨w_JUNE, ee5⟩ := exa_v (Cond.before_iff.mp (hsets _ (List.mem_of_getElem? (i := 59) rfl)))
  have es5 := own_eqS ee5 (Cond.before_iff.mp (hsets _ (List.mem_of_getElem? (i := 58) rfl)))
  have S_JUNE : Sta s s.heap "java/time/Month" "JUNE" "Ljava/time/Month;" (.ref w_JUNE) := Sta.start es5 (Or.inl (hsets _ (List.mem_of_getElem? (i := 22) rfl)))
  have hel5 := (elem_in ee5 evE (Term.int_eval (5 : Int32)) ArE.1).2
  obtain ⟨w_JULY, ee6⟩ := exa_v (Cond.before_iff.mp (hsets _ (List.mem_of_getElem? (i := 63) rfl)))
  have es6 := own_eqS ee6 (Cond.before_iff.mp (hsets _ (List.mem_of_getElem? (i := 62) rfl)))
  have S_JULY : Sta s s.heap "java/time/Month" "JULY" "Ljava/time/Month;" (.ref w_JULY) := Sta.start es6 (Or.inl (hsets _ (List.mem_of_getElem? (i := 24) rfl)))
  have hel6 := (elem_in ee6 evE (Term.int_eval (6 : Int32)) ArE.1).2
  obtain ⟨w_AUGUST, ee7⟩ := exa_v (Cond.before_iff.mp (hsets _ (List.mem_of_getElem? (i := 67) rfl)))
  have es7 := own_eqS ee7 (Cond.before_iff.mp (hsets _ (List.mem_of_getElem? (i := 66) rfl)))
  have S_AUGUST : Sta s s.heap "java/time/Month" "AUGUST" "Ljava/time/Month;" (.ref w_AUGUST) := Sta.start es7 (Or.inl (hsets _ (List.mem_of_getElem? (i := 26) rfl)))
  have hel7 := (elem_in ee7 evE (Term.int_eval (7 : Int32)) ArE.1).2
  obtain ⟨w_SEPTEMBER, ee8⟩ := exa_v (Cond.before_iff.mp (hsets _ (List.mem_of_getElem? (i := 71) rfl)))
  have es8 := own_eqS ee8 (Cond.before_iff.mp (hsets _ (List.mem_of_getElem? (i := 70) rfl)))
  have S_SEPTEMBER : Sta s s.heap "java/time/Month" "SEPTEMBER" "Ljava/time/Month;" (.ref w_SEPTEMBER) := Sta.start es8 (Or.inl (hsets _ (List.mem_of_getElem? (i := 28) rfl)))
  have hel8 := (elem_in ee8 evE (Term.int_eval (8 : Int32)) ArE.1).2
  obtain ⟨w_OCTOBER, ee9⟩ := exa_v (Cond.before_iff.mp (hsets _ (List.mem_of_getElem? (i := 75) rfl)))
  have es9 := own_eqS ee9 (Cond.before_iff.mp (hsets _ (List.mem_of_getElem? (i := 74) rfl)))
  have S_OCTOBER : Sta s s.heap "java/time/Month" "OCTOBER" "Ljava/time/Month;" (.ref w_OCTOBER) := Sta.start es9 (Or.inl (hsets _ (List.mem_of_getElem? (i := 30) rfl)))
  have hel9 := (elem_in ee9 evE (Term.int_eval (9 : Int32)) ArE.1).2
  obtain ⟨w_NOVEMBER, ee10⟩ := exa_v (Cond.before_iff.mp (hsets _ (List.mem_of_getElem? (i := 79) rfl)))
  have es10 := own_eqS ee10 (Cond.before_iff.mp (hsets _ (List.mem_of_getElem? (i := 78) rfl)))
  have S_NOVEMBER : Sta s s.heap "java/time/Month" "NOVEMBER" "Ljava/time/Month;" (.ref w_NOVEMBER) := Sta.start es10 (Or.inl (hsets _ (List.mem_of_getElem? (i := 32) rfl)))
  have hel10 := (elem_in ee10 evE (Term.int_eval (10 : Int32)) ArE.1).2
  obtain ⟨w_DECEMBER, ee11⟩ := exa_v (Cond.before_iff.mp (hsets _ (List.mem_of_getElem? (i := 83) rfl)))
  have es11 := own_eqS ee11 (Cond.before_iff.mp (hsets _ (List.mem_of_getElem? (i := 82) rfl)))
  have S_DECEMBER : Sta s s.heap "java/time/Month" "DECEMBER" "Ljava/time/Month;" (.ref w_DECEMBER) := Sta.start es11 (Or.inl (hsets _ (List.mem_of_getElem? (i := 34) rfl)))
  have hel11 := (elem_in ee11 evE (Term.int_eval (11 : Int32)) ArE.1).2
  obtain ⟨n, o, h1, h2, h3, _, L, rfl, ⟨rfl, N⟩, hq⟩ := rm0 l s _ hw tables_1 i0 i1 s.heap s.heap.size (Old.start s) zc S_cs hzc wE cE S_E ArE szE w_JANUARY S_JANUARY w_FEBRUARY S_FEBRUARY w_MARCH S_MARCH w_APRIL S_APRIL w_MAY S_MAY w_JUNE S_JUNE w_JULY S_JULY w_AUGUST S_AUGUST w_SEPTEMBER S_SEPTEMBER w_OCTOBER S_OCTOBER w_NOVEMBER S_NOVEMBER w_DECEMBER S_DECEMBER hel0 hel1 hel2 hel3 hel4 hel5 hel6 hel7 hel8 hel9 hel10 hel11 p e ha hc hk s m _ below hf ((Spec.applies_iff_loose hf).mp happ).1 ⟨rfl, State.Warmed39.refl s, rfl, rfl⟩ trivial
  refine ⟨n, _, h1, h2, h3, hpost _ _ _ _ _ _ ⟨Cond.after_iff.mpr rfl, Cond.after_iff.mpr (eq_i res_at (Term.int_eval (1)) rfl), trivial⟩ ⟨hq.1, hq.2.1, (hq.2.2.sift fun y hy => Or.inr (N y hy)).mono (by decide) (by decide)⟩⟩
theorem main_1_1 : Claimed_1_1 := comes_1 fun _ _ _ _ _ _ h hF => ⟨h.1, hF⟩
theorem main_1_2 : Claimed_1_2 := comes_1 fun _ _ _ _ _ _ h hF => ⟨h.2.1, hF⟩
end Jvm.Pilot.@@N@@
namespace Jvm.Pilot.@@N@@
open Jvm Jvm.ClassFile Sem Op Lib Jvm.Free Jvm.Stand Jvm.Pilot.@@N@@.Jvm.D
/-! MADE BY PROGRAM (witnessworld.py) out of the Statement's table words and the real class files: 26 classes; the members and pool entries that the words name. The judged class is class 1, her method 1. -/
namespace start1
open Jvm.ClassFile
def u (s : String) : CpInfo := .utf8 (stringToUtf16 s)
/-- a pool by its gaps: so many unusable entries, then the entry; so many at the end -/
def gap : Nat → List CpInfo → List CpInfo
  | 0, r => r
  | n + 1, r => .unusable :: gap n r
def poolList (es : List (Nat × CpInfo)) (last : Nat) : List CpInfo := es.foldr (fun e r => gap e.1 (e.2 :: r)) (gap last [])
def pool (es : List (Nat × CpInfo)) (last : Nat) : Array CpInfo := ⟨poolList es last⟩
def fileOf (pool : Array CpInfo) (this : Nat) (attrs : Array Attribute := #[]) (ms : Array MethodInfo := #[]) (fl : Nat := 33) (sup : Nat := 0) (ifs : Array Nat := #[]) (fds : Array FieldInfo := #[]) : ClassFile where
  minorVersion := 0
  majorVersion := 65
  constantPool := pool
  accessFlags := fl
  thisClass := this
  superClass := sup
  interfaces := ifs
  fields := fds
  methods := ms
  attributes := attrs
def plain (name : String) (sup : Option ClassId) : Class where
  name := name
  kind := .ordinary
  loader := none
  accessFlags := 33
  super := sup
  interfaces := #[]
  cf := none
  fields := #[]
  methods := #[]
  instanceTypes := #[]
  staticTypes := #[]
  resolved := #[]
  callSites := []
  init := .initialized
  statics := none
  mirror := none

def pool0 : Array CpInfo := pool [(5, u "<init>"), (0, u "()V"), (1, .class_ 10), (1, u "java/lang/Object")] 113

def k0c0 : Code := { maxStack := 0, maxLocals := 1, code := object_method_1_code, exceptionTable := #[], attributes := #[] }
def k0m0 : Method := { name := "<init>", desc := "()V", sig := { parameters := [], returnType := none }, accessFlags := 1, code := some k0c0 }
/-- java/lang/Object -/
def k0 : Class := { plain "java/lang/Object" none with
  accessFlags := 33
  interfaces := #[]
  cf := some (fileOf pool0 8 #[] #[{ accessFlags := 1, nameIndex := 5, descriptorIndex := 6, attributes := #[] }] 33 0 #[] #[])
  fields := #[]
  methods := #[k0m0]
  instanceTypes := #[]
  staticTypes := #[]
  resolved := Array.replicate 124 none
  statics := none }

def pool1 : Array CpInfo := pool [(2, .class_ 4), (1, u "java/lang/Object"), (0, u "<init>"), (0, u "()V"), (0, .long 9223372036854775807), (1, .long 12), (1, .class_ 12), (0, u "java/lang/String"), (0, .methodref 11 14), (0, .nameAndType 5 15), (0, u "([C)V"), (0, .methodref 17 18), (0, .class_ 19), (0, .nameAndType 20 21), (0, u "com/example/ratchetbook/ratchetbook/tariff/AnnualMinimum"), (0, u "monthNumbered"), (0, u "(JLjava/lang/String;)Ljava/time/Month;"), (0, .methodref 23 24), (0, .class_ 25), (0, .nameAndType 26 27), (0, u "com/example/ratchetbook/ratchetbook/tariff/AnnualMinimumMonthNumberedPinLaw"), (0, u "expected"), (0, u "(I)Ljava/time/Month;"), (0, .fieldref 29 30), (0, .class_ 31), (0, .nameAndType 32 33), (0, u "java/time/Month"), (0, u "JANUARY"), (0, u "Ljava/time/Month;"), (0, .fieldref 29 35), (0, .nameAndType 36 33), (0, u "FEBRUARY"), (0, .fieldref 29 38), (0, .nameAndType 39 33), (0, u "MARCH"), (0, .fieldref 29 41), (0, .nameAndType 42 33), (0, u "APRIL"), (0, .fieldref 29 44), (0, .nameAndType 45 33), (0, u "MAY"), (0, .fieldref 29 47), (0, .nameAndType 48 33), (0, u "JUNE"), (0, .fieldref 29 50), (0, .nameAndType 51 33), (0, u "JULY"), (0, .fieldref 29 53), (0, .nameAndType 54 33), (0, u "AUGUST"), (0, .fieldref 29 56), (0, .nameAndType 57 33), (0, u "SEPTEMBER"), (0, .fieldref 29 59), (0, .nameAndType 60 33), (0, u "OCTOBER"), (0, .fieldref 29 62), (0, .nameAndType 63 33), (0, u "NOVEMBER"), (0, .fieldref 29 65), (0, .nameAndType 66 33), (0, u "DECEMBER"), (2, u "law"), (0, u "(JI)Z")] 5

def k1m0 : Method := { name := "<init>", desc := "()V", sig := { parameters := [], returnType := none }, accessFlags := 2, code := none }
def k1c1 : Code := { maxStack := 5, maxLocals := 8, code := code, exceptionTable := #[], attributes := #[] }
def k1m1 : Method := { name := "law", desc := "(JI)Z", sig := { parameters := [.long, .int], returnType := some .boolean }, accessFlags := 9, code := some k1c1 }
def k1c2 : Code := { maxStack := 2, maxLocals := 1, code := method_3_code, exceptionTable := #[], attributes := #[] }
def k1m2 : Method := { name := "expected", desc := "(I)Ljava/time/Month;", sig := { parameters := [.int], returnType := some (.object "java/time/Month") }, accessFlags := 10, code := some k1c2 }
/-- com/example/ratchetbook/ratchetbook/tariff/AnnualMinimumMonthNumberedPinLaw -/
def k1 : Class := { plain "com/example/ratchetbook/ratchetbook/tariff/AnnualMinimumMonthNumberedPinLaw" (some 0) with
  accessFlags := 49
  interfaces := #[]
  cf := some (fileOf pool1 23 #[] #[{ accessFlags := 2, nameIndex := 5, descriptorIndex := 6, attributes := #[] }, { accessFlags := 9, nameIndex := 69, descriptorIndex := 70, attributes := #[] }, { accessFlags := 10, nameIndex := 26, descriptorIndex := 27, attributes := #[] }] 49 2 #[] #[])
  fields := #[]
  methods := #[k1m0, k1m1, k1m2]
  instanceTypes := #[]
  staticTypes := #[]
  resolved := Array.replicate 76 none
  statics := none }

def pool2 : Array CpInfo := pool [(1, .class_ 2), (0, u "java/io/Serializable"), (0, .class_ 4), (0, u "java/lang/Object")] 2

/-- java/io/Serializable -/
def k2 : Class := { plain "java/io/Serializable" (some 0) with
  accessFlags := 1537
  interfaces := #[]
  cf := some (fileOf pool2 1 #[] #[] 1537 3 #[] #[])
  fields := #[]
  methods := #[]
  instanceTypes := #[]
  staticTypes := #[]
  resolved := Array.replicate 7 none
  statics := none }

def pool3 : Array CpInfo := pool [(1, .class_ 2), (0, u "java/lang/Comparable"), (0, .class_ 4), (0, u "java/lang/Object")] 7

/-- java/lang/Comparable -/
def k3 : Class := { plain "java/lang/Comparable" (some 0) with
  accessFlags := 1537
  interfaces := #[]
  cf := some (fileOf pool3 1 #[] #[] 1537 3 #[] #[])
  fields := #[]
  methods := #[]
  instanceTypes := #[]
  staticTypes := #[]
  resolved := Array.replicate 12 none
  statics := none }

def pool4 : Array CpInfo := pool [(2, .class_ 4), (1, u "java/lang/CharSequence"), (42, .class_ 48), (0, u "java/lang/CharSequence$1CodePointIterator"), (10, .class_ 60), (0, u "java/lang/CharSequence$1CharIterator"), (5, .class_ 67), (0, u "java/lang/Object")] 63

/-- java/lang/CharSequence -/
def k4 : Class := { plain "java/lang/CharSequence" (some 0) with
  accessFlags := 1537
  interfaces := #[]
  cf := some (fileOf pool4 2 #[.nestMembers #[47, 59]] #[] 1537 66 #[] #[])
  fields := #[]
  methods := #[]
  instanceTypes := #[]
  staticTypes := #[]
  resolved := Array.replicate 131 none
  statics := none }

def pool5 : Array CpInfo := pool [(1, .class_ 2), (0, u "java/lang/constant/Constable"), (0, .class_ 4), (0, u "java/lang/Object")] 6

/-- java/lang/constant/Constable -/
def k5 : Class := { plain "java/lang/constant/Constable" (some 0) with
  accessFlags := 1537
  interfaces := #[]
  cf := some (fileOf pool5 1 #[] #[] 1537 3 #[] #[])
  fields := #[]
  methods := #[]
  instanceTypes := #[]
  staticTypes := #[]
  resolved := Array.replicate 11 none
  statics := none }

def pool6 : Array CpInfo := pool [(1, .class_ 2), (0, u "java/lang/constant/ConstantDesc"), (0, .class_ 4), (0, u "java/lang/Object")] 32

/-- java/lang/constant/ConstantDesc -/
def k6 : Class := { plain "java/lang/constant/ConstantDesc" (some 0) with
  accessFlags := 1537
  interfaces := #[]
  cf := some (fileOf pool6 1 #[] #[] 1537 3 #[] #[])
  fields := #[]
  methods := #[]
  instanceTypes := #[]
  staticTypes := #[]
  resolved := Array.replicate 37 none
  statics := none }

def pool7 : Array CpInfo := pool [(1, .methodref 2 3), (0, .class_ 4), (0, .nameAndType 5 6), (0, u "java/lang/Object"), (0, u "<init>"), (0, u "()V"), (2, .fieldref 10 11), (0, .class_ 12), (0, .nameAndType 13 14), (0, u "java/lang/String"), (0, u "value"), (0, u "[B"), (0, .fieldref 10 16), (0, .nameAndType 17 18), (0, u "coder"), (0, u "B"), (2, u "hash"), (0, u "I"), (2, u "hashIsZero"), (0, u "Z"), (0, .methodref 10 28), (0, .nameAndType 5 29), (0, u "([CIILjava/lang/Void;)V"), (8, .fieldref 10 39), (0, .nameAndType 40 26), (0, u "COMPACT_STRINGS"), (1, .class_ 44), (1, u "java/lang/StringUTF16"), (0, u "compress"), (1, .methodref 42 48), (0, .nameAndType 49 50), (0, u "coderFromArrayLen"), (0, u "([BI)B"), (126, .methodref 42 178), (0, .nameAndType 45 179), (0, u "([CII)[B"), (395, .class_ 576), (0, u "java/lang/CharSequence"), (22, u "CASE_INSENSITIVE_ORDER"), (0, u "Ljava/util/Comparator;"), (409, u "([C)V"), (90, u "serialPersistentFields"), (0, u "[Ljava/io/ObjectStreamField;"), (0, .class_ 1104), (0, u "java/lang/String$CaseInsensitiveComparator"), (1, .class_ 1107), (0, u "java/io/Serializable"), (0, .class_ 1109), (0, u "java/lang/Comparable"), (0, .class_ 1111), (0, u "java/lang/constant/Constable"), (0, .class_ 1113), (0, u "java/lang/constant/ConstantDesc"), (2, u "serialVersionUID"), (0, u "J"), (3, u "REPL"), (0, u "C"), (2, u "LATIN1"), (1, u "UTF16")] 323

def k7m0 : Method := { name := "<init>", desc := "()V", sig := { parameters := [], returnType := none }, accessFlags := 1, code := none }
def k7c1 : Code := { maxStack := 5, maxLocals := 2, code := jdk_42_method_3_code, exceptionTable := #[], attributes := #[] }
def k7m1 : Method := { name := "<init>", desc := "([C)V", sig := { parameters := [(.array .char)], returnType := none }, accessFlags := 1, code := some k7c1 }
def k7c2 : Code := { maxStack := 4, maxLocals := 6, code := jdk_42_method_149_code, exceptionTable := #[], attributes := #[] }
def k7m2 : Method := { name := "<init>", desc := "([CIILjava/lang/Void;)V", sig := { parameters := [(.array .char), .int, .int, (.object "java/lang/Void")], returnType := none }, accessFlags := 2, code := some k7c2 }
/-- java/lang/String -/
def k7 : Class := { plain "java/lang/String" (some 0) with
  accessFlags := 49
  interfaces := #[2, 3, 4, 5, 6]
  cf := some (fileOf pool7 10 #[.nestMembers #[1103]] #[{ accessFlags := 1, nameIndex := 5, descriptorIndex := 6, attributes := #[] }, { accessFlags := 1, nameIndex := 5, descriptorIndex := 1010, attributes := #[] }, { accessFlags := 2, nameIndex := 5, descriptorIndex := 29, attributes := #[] }] 49 2 #[1106, 1108, 575, 1110, 1112] #[{ accessFlags := 18, nameIndex := 13, descriptorIndex := 14, attributes := #[] }, { accessFlags := 18, nameIndex := 17, descriptorIndex := 18, attributes := #[] }, { accessFlags := 2, nameIndex := 21, descriptorIndex := 22, attributes := #[] }, { accessFlags := 2, nameIndex := 25, descriptorIndex := 26, attributes := #[] }, { accessFlags := 26, nameIndex := 1116, descriptorIndex := 1117, attributes := #[] }, { accessFlags := 24, nameIndex := 40, descriptorIndex := 26, attributes := #[] }, { accessFlags := 26, nameIndex := 1101, descriptorIndex := 1102, attributes := #[] }, { accessFlags := 26, nameIndex := 1121, descriptorIndex := 1122, attributes := #[] }, { accessFlags := 25, nameIndex := 599, descriptorIndex := 600, attributes := #[] }, { accessFlags := 24, nameIndex := 1125, descriptorIndex := 18, attributes := #[] }, { accessFlags := 24, nameIndex := 1127, descriptorIndex := 18, attributes := #[] }])
  fields := #[{ name := "value", type := (.array .byte), accessFlags := 18, slot := 0, constantValue := 0 }, { name := "coder", type := .byte, accessFlags := 18, slot := 1, constantValue := 0 }, { name := "hash", type := .int, accessFlags := 2, slot := 2, constantValue := 0 }, { name := "hashIsZero", type := .boolean, accessFlags := 2, slot := 3, constantValue := 0 }, { name := "serialVersionUID", type := .long, accessFlags := 26, slot := 0, constantValue := 0 }, { name := "COMPACT_STRINGS", type := .boolean, accessFlags := 24, slot := 1, constantValue := 0 }, { name := "serialPersistentFields", type := (.array (.object "java/io/ObjectStreamField")), accessFlags := 26, slot := 2, constantValue := 0 }, { name := "REPL", type := .char, accessFlags := 26, slot := 3, constantValue := 0 }, { name := "CASE_INSENSITIVE_ORDER", type := (.object "java/util/Comparator"), accessFlags := 25, slot := 4, constantValue := 0 }, { name := "LATIN1", type := .byte, accessFlags := 24, slot := 5, constantValue := 0 }, { name := "UTF16", type := .byte, accessFlags := 24, slot := 6, constantValue := 0 }]
  methods := #[k7m0, k7m1, k7m2]
  instanceTypes := #[(.array .byte), .byte, .int, .boolean]
  staticTypes := #[.long, .boolean, (.array (.object "java/io/ObjectStreamField")), .char, (.object "java/util/Comparator"), .byte, .byte]
  resolved := Array.replicate 1451 none
  statics := some 0 }

def pool8 : Array CpInfo := pool [(6, .class_ 8), (1, u "java/lang/Object"), (0, u "<init>"), (0, u "()V"), (1, .class_ 14), (1, u "java/lang/StringUTF16"), (31, u "$assertionsDisabled"), (0, u "Z"), (13, u "HI_BYTE_SHIFT"), (0, u "I"), (2, u "LO_BYTE_SHIFT"), (49, .methodref 12 116), (0, .nameAndType 117 118), (0, u "compress"), (0, u "([CI[BII)I"), (3, u "([CII)[B"), (138, u "coderFromArrayLen"), (0, u "([BI)B"), (106, .class_ 371), (1, u "java/lang/StringUTF16$LinesSpliterator"), (58, u "MAX_LENGTH"), (196, .class_ 628), (0, u "java/lang/StringUTF16$CodePointsSpliterator"), (0, .class_ 630), (0, u "java/lang/StringUTF16$CharsSpliterator")] 4

def k8m0 : Method := { name := "<init>", desc := "()V", sig := { parameters := [], returnType := none }, accessFlags := 0, code := none }
def k8c1 : Code := { maxStack := 2, maxLocals := 2, code := jdk_52_method_15_code, exceptionTable := #[], attributes := #[] }
def k8m1 : Method := { name := "coderFromArrayLen", desc := "([BI)B", sig := { parameters := [(.array .byte), .int], returnType := some .byte }, accessFlags := 8, code := some k8c1 }
def k8c2 : Code := { maxStack := 5, maxLocals := 6, code := jdk_52_method_16_code, exceptionTable := #[], attributes := #[] }
def k8m2 : Method := { name := "compress", desc := "([CII)[B", sig := { parameters := [(.array .char), .int, .int], returnType := some (.array .byte) }, accessFlags := 9, code := some k8c2 }
def k8c3 : Code := { maxStack := 3, maxLocals := 7, code := jdk_52_method_21_code, exceptionTable := #[], attributes := #[] }
def k8m3 : Method := { name := "compress", desc := "([CI[BII)I", sig := { parameters := [(.array .char), .int, (.array .byte), .int, .int], returnType := some .int }, accessFlags := 9, code := some k8c3 }
/-- java/lang/StringUTF16 -/
def k8 : Class := { plain "java/lang/StringUTF16" (some 0) with
  accessFlags := 48
  interfaces := #[]
  cf := some (fileOf pool8 12 #[.nestMembers #[627, 629, 369]] #[{ accessFlags := 0, nameIndex := 9, descriptorIndex := 10, attributes := #[] }, { accessFlags := 8, nameIndex := 261, descriptorIndex := 262, attributes := #[] }, { accessFlags := 9, nameIndex := 117, descriptorIndex := 122, attributes := #[] }, { accessFlags := 9, nameIndex := 117, descriptorIndex := 118, attributes := #[] }] 48 6 #[] #[{ accessFlags := 26, nameIndex := 61, descriptorIndex := 62, attributes := #[] }, { accessFlags := 26, nameIndex := 65, descriptorIndex := 62, attributes := #[] }, { accessFlags := 24, nameIndex := 430, descriptorIndex := 62, attributes := #[] }, { accessFlags := 4120, nameIndex := 46, descriptorIndex := 47, attributes := #[] }])
  fields := #[{ name := "HI_BYTE_SHIFT", type := .int, accessFlags := 26, slot := 0, constantValue := 0 }, { name := "LO_BYTE_SHIFT", type := .int, accessFlags := 26, slot := 1, constantValue := 0 }, { name := "MAX_LENGTH", type := .int, accessFlags := 24, slot := 2, constantValue := 0 }, { name := "$assertionsDisabled", type := .boolean, accessFlags := 4120, slot := 3, constantValue := 0 }]
  methods := #[k8m0, k8m1, k8m2, k8m3]
  instanceTypes := #[]
  staticTypes := #[.int, .int, .int, .boolean]
  resolved := Array.replicate 635 none
  statics := none }

def pool9 : Array CpInfo := pool [(2, .class_ 4), (1, u "java/lang/Object"), (0, u "<init>"), (0, u "()V"), (0, .class_ 8), (0, u "java/lang/Record")] 13

def k9m0 : Method := { name := "<init>", desc := "()V", sig := { parameters := [], returnType := none }, accessFlags := 4, code := none }
/-- java/lang/Record -/
def k9 : Class := { plain "java/lang/Record" (some 0) with
  accessFlags := 1057
  interfaces := #[]
  cf := some (fileOf pool9 7 #[] #[{ accessFlags := 4, nameIndex := 5, descriptorIndex := 6, attributes := #[] }] 1057 2 #[] #[])
  fields := #[]
  methods := #[k9m0]
  instanceTypes := #[]
  staticTypes := #[]
  resolved := Array.replicate 22 none
  statics := none }

def pool10 : Array CpInfo := pool [(2, .class_ 4), (1, u "java/lang/Record"), (3, u "closingMonth"), (16, u "amount"), (1, .class_ 29), (1, u "com/example/ratchetbook/ratchetbook/tariff/AnnualMinimum"), (3, u "register"), (1, u "unit"), (1, u "rate"), (2, u "Ljava/time/Month;"), (2, u "Ljava/math/BigDecimal;"), (2, u "Ljava/lang/String;"), (4, .long 12), (5, .methodref 58 59), (0, .class_ 60), (0, .nameAndType 61 62), (0, u "java/time/Month"), (0, u "of"), (0, u "(I)Ljava/time/Month;"), (30, u "PEAK"), (65, .class_ 161), (1, u "com/example/ratchetbook/ratchetbook/tariff/AnnualMinimum$Priced"), (73, u "Lcom/example/ratchetbook/ratchetbook/decimal/Shown;"), (168, u "ID"), (1, u "MONTHS"), (0, u "I"), (5, u "monthNumbered"), (0, u "(JLjava/lang/String;)Ljava/time/Month;")] 79

def k10c0 : Code := { maxStack := 5, maxLocals := 3, code := prog_84_method_2_code, exceptionTable := #[], attributes := #[] }
def k10m0 : Method := { name := "monthNumbered", desc := "(JLjava/lang/String;)Ljava/time/Month;", sig := { parameters := [.long, (.object "java/lang/String")], returnType := some (.object "java/time/Month") }, accessFlags := 9, code := some k10c0 }
/-- com/example/ratchetbook/ratchetbook/tariff/AnnualMinimum -/
def k10 : Class := { plain "com/example/ratchetbook/ratchetbook/tariff/AnnualMinimum" (some 9) with
  accessFlags := 49
  interfaces := #[]
  cf := some (fileOf pool10 27 #[.nestMembers #[159]] #[{ accessFlags := 9, nameIndex := 413, descriptorIndex := 414, attributes := #[] }] 49 2 #[] #[{ accessFlags := 18, nameIndex := 8, descriptorIndex := 40, attributes := #[] }, { accessFlags := 18, nameIndex := 25, descriptorIndex := 43, attributes := #[] }, { accessFlags := 18, nameIndex := 33, descriptorIndex := 46, attributes := #[] }, { accessFlags := 18, nameIndex := 35, descriptorIndex := 46, attributes := #[] }, { accessFlags := 18, nameIndex := 37, descriptorIndex := 43, attributes := #[] }, { accessFlags := 25, nameIndex := 404, descriptorIndex := 46, attributes := #[] }, { accessFlags := 26, nameIndex := 406, descriptorIndex := 407, attributes := #[] }, { accessFlags := 26, nameIndex := 93, descriptorIndex := 235, attributes := #[] }])
  fields := #[{ name := "closingMonth", type := (.object "java/time/Month"), accessFlags := 18, slot := 0, constantValue := 0 }, { name := "amount", type := (.object "java/math/BigDecimal"), accessFlags := 18, slot := 1, constantValue := 0 }, { name := "register", type := (.object "java/lang/String"), accessFlags := 18, slot := 2, constantValue := 0 }, { name := "unit", type := (.object "java/lang/String"), accessFlags := 18, slot := 3, constantValue := 0 }, { name := "rate", type := (.object "java/math/BigDecimal"), accessFlags := 18, slot := 4, constantValue := 0 }, { name := "ID", type := (.object "java/lang/String"), accessFlags := 25, slot := 0, constantValue := 0 }, { name := "MONTHS", type := .int, accessFlags := 26, slot := 1, constantValue := 0 }, { name := "PEAK", type := (.object "com/example/ratchetbook/ratchetbook/decimal/Shown"), accessFlags := 26, slot := 2, constantValue := 0 }]
  methods := #[k10m0]
  instanceTypes := #[(.object "java/time/Month"), (.object "java/math/BigDecimal"), (.object "java/lang/String"), (.object "java/lang/String"), (.object "java/math/BigDecimal")]
  staticTypes := #[(.object "java/lang/String"), .int, (.object "com/example/ratchetbook/ratchetbook/decimal/Shown")]
  resolved := Array.replicate 494 none
  statics := none }

def pool11 : Array CpInfo := pool [(2, .class_ 4), (1, u "java/lang/Enum"), (0, u "name"), (0, u "Ljava/lang/String;"), (2, u "ordinal"), (0, u "I"), (1, .class_ 14), (1, u "java/lang/Object"), (4, u "hash"), (86, .class_ 108), (1, u "java/lang/Enum$EnumDesc"), (2, .class_ 112), (0, u "java/lang/constant/Constable"), (0, .class_ 114), (0, u "java/lang/Comparable"), (0, .class_ 116), (0, u "java/io/Serializable")] 87

/-- java/lang/Enum -/
def k11 : Class := { plain "java/lang/Enum" (some 0) with
  accessFlags := 1057
  interfaces := #[5, 3, 2]
  cf := some (fileOf pool11 2 #[.nestMembers #[106]] #[] 1057 12 #[111, 113, 115] #[{ accessFlags := 18, nameIndex := 5, descriptorIndex := 6, attributes := #[] }, { accessFlags := 18, nameIndex := 9, descriptorIndex := 10, attributes := #[] }, { accessFlags := 2, nameIndex := 19, descriptorIndex := 10, attributes := #[] }])
  fields := #[{ name := "name", type := (.object "java/lang/String"), accessFlags := 18, slot := 0, constantValue := 0 }, { name := "ordinal", type := .int, accessFlags := 18, slot := 1, constantValue := 0 }, { name := "hash", type := .int, accessFlags := 2, slot := 2, constantValue := 0 }]
  methods := #[]
  instanceTypes := #[(.object "java/lang/String"), .int, .int]
  staticTypes := #[]
  resolved := Array.replicate 204 none
  statics := none }

def pool12 : Array CpInfo := pool [(4, .class_ 6), (1, u "java/time/temporal/TemporalAccessor"), (95, .class_ 103), (0, u "java/lang/Object")] 21

/-- java/time/temporal/TemporalAccessor -/
def k12 : Class := { plain "java/time/temporal/TemporalAccessor" (some 0) with
  accessFlags := 1537
  interfaces := #[]
  cf := some (fileOf pool12 4 #[] #[] 1537 102 #[] #[])
  fields := #[]
  methods := #[]
  instanceTypes := #[]
  staticTypes := #[]
  resolved := Array.replicate 125 none
  statics := none }

def pool13 : Array CpInfo := pool [(1, .class_ 2), (0, u "java/time/temporal/TemporalAdjuster"), (0, .class_ 4), (0, u "java/lang/Object")] 6

/-- java/time/temporal/TemporalAdjuster -/
def k13 : Class := { plain "java/time/temporal/TemporalAdjuster" (some 0) with
  accessFlags := 1537
  interfaces := #[]
  cf := some (fileOf pool13 1 #[] #[] 1537 3 #[] #[])
  fields := #[]
  methods := #[]
  instanceTypes := #[]
  staticTypes := #[]
  resolved := Array.replicate 11 none
  statics := none }

def pool14 : Array CpInfo := pool [(1, .class_ 2), (0, u "java/time/Month"), (2, u "JANUARY"), (0, u "Ljava/time/Month;"), (2, u "FEBRUARY"), (2, u "MARCH"), (2, u "APRIL"), (2, u "MAY"), (2, u "JUNE"), (2, u "JULY"), (2, u "AUGUST"), (2, u "SEPTEMBER"), (2, u "OCTOBER"), (2, u "NOVEMBER"), (2, u "DECEMBER"), (2, u "$VALUES"), (0, u "[Ljava/time/Month;"), (6, .class_ 52), (1, u "java/lang/Enum"), (29, .fieldref 1 83), (0, .nameAndType 84 43), (0, u "ENUMS"), (28, .class_ 115), (1, u "java/time/temporal/TemporalAccessor"), (4, u "of"), (0, u "(I)Ljava/time/Month;"), (119, .class_ 242), (0, u "java/time/temporal/TemporalAdjuster")] 54

def k14c0 : Code := { maxStack := 4, maxLocals := 1, code := jdk_2329_method_4_code, exceptionTable := #[], attributes := #[] }
def k14m0 : Method := { name := "of", desc := "(I)Ljava/time/Month;", sig := { parameters := [.int], returnType := some (.object "java/time/Month") }, accessFlags := 9, code := some k14c0 }
/-- java/time/Month -/
def k14 : Class := { plain "java/time/Month" (some 11) with
  accessFlags := 16433
  interfaces := #[12, 13]
  cf := some (fileOf pool14 1 #[] #[{ accessFlags := 9, nameIndex := 120, descriptorIndex := 121, attributes := #[] }] 16433 50 #[113, 241] #[{ accessFlags := 16409, nameIndex := 5, descriptorIndex := 6, attributes := #[] }, { accessFlags := 16409, nameIndex := 9, descriptorIndex := 6, attributes := #[] }, { accessFlags := 16409, nameIndex := 12, descriptorIndex := 6, attributes := #[] }, { accessFlags := 16409, nameIndex := 15, descriptorIndex := 6, attributes := #[] }, { accessFlags := 16409, nameIndex := 18, descriptorIndex := 6, attributes := #[] }, { accessFlags := 16409, nameIndex := 21, descriptorIndex := 6, attributes := #[] }, { accessFlags := 16409, nameIndex := 24, descriptorIndex := 6, attributes := #[] }, { accessFlags := 16409, nameIndex := 27, descriptorIndex := 6, attributes := #[] }, { accessFlags := 16409, nameIndex := 30, descriptorIndex := 6, attributes := #[] }, { accessFlags := 16409, nameIndex := 33, descriptorIndex := 6, attributes := #[] }, { accessFlags := 16409, nameIndex := 36, descriptorIndex := 6, attributes := #[] }, { accessFlags := 16409, nameIndex := 39, descriptorIndex := 6, attributes := #[] }, { accessFlags := 26, nameIndex := 84, descriptorIndex := 43, attributes := #[] }, { accessFlags := 4122, nameIndex := 42, descriptorIndex := 43, attributes := #[] }])
  fields := #[{ name := "JANUARY", type := (.object "java/time/Month"), accessFlags := 16409, slot := 0, constantValue := 0 }, { name := "FEBRUARY", type := (.object "java/time/Month"), accessFlags := 16409, slot := 1, constantValue := 0 }, { name := "MARCH", type := (.object "java/time/Month"), accessFlags := 16409, slot := 2, constantValue := 0 }, { name := "APRIL", type := (.object "java/time/Month"), accessFlags := 16409, slot := 3, constantValue := 0 }, { name := "MAY", type := (.object "java/time/Month"), accessFlags := 16409, slot := 4, constantValue := 0 }, { name := "JUNE", type := (.object "java/time/Month"), accessFlags := 16409, slot := 5, constantValue := 0 }, { name := "JULY", type := (.object "java/time/Month"), accessFlags := 16409, slot := 6, constantValue := 0 }, { name := "AUGUST", type := (.object "java/time/Month"), accessFlags := 16409, slot := 7, constantValue := 0 }, { name := "SEPTEMBER", type := (.object "java/time/Month"), accessFlags := 16409, slot := 8, constantValue := 0 }, { name := "OCTOBER", type := (.object "java/time/Month"), accessFlags := 16409, slot := 9, constantValue := 0 }, { name := "NOVEMBER", type := (.object "java/time/Month"), accessFlags := 16409, slot := 10, constantValue := 0 }, { name := "DECEMBER", type := (.object "java/time/Month"), accessFlags := 16409, slot := 11, constantValue := 0 }, { name := "ENUMS", type := (.array (.object "java/time/Month")), accessFlags := 26, slot := 12, constantValue := 0 }, { name := "$VALUES", type := (.array (.object "java/time/Month")), accessFlags := 4122, slot := 13, constantValue := 0 }]
  methods := #[k14m0]
  instanceTypes := #[(.object "java/lang/String"), .int, .int]
  staticTypes := #[(.object "java/time/Month"), (.object "java/time/Month"), (.object "java/time/Month"), (.object "java/time/Month"), (.object "java/time/Month"), (.object "java/time/Month"), (.object "java/time/Month"), (.object "java/time/Month"), (.object "java/time/Month"), (.object "java/time/Month"), (.object "java/time/Month"), (.object "java/time/Month"), (.array (.object "java/time/Month")), (.array (.object "java/time/Month"))]
  resolved := Array.replicate 297 none
  statics := some 1 }

def pool15 : Array CpInfo := pool [(2, .class_ 4), (1, u "java/lang/Object"), (0, u "<init>"), (0, u "()V"), (17, .class_ 26), (1, u "jdk/internal/util/Preconditions"), (28, .class_ 56), (0, u "jdk/internal/util/Preconditions$4"), (57, .class_ 115), (0, u "jdk/internal/util/Preconditions$1"), (7, u "SIOOBE_FORMATTER"), (0, u "Ljava/util/function/BiFunction;"), (0, .class_ 126), (0, u "jdk/internal/util/Preconditions$2"), (3, u "AIOOBE_FORMATTER"), (0, .class_ 132), (0, u "jdk/internal/util/Preconditions$3"), (3, u "IOOBE_FORMATTER")] 57

def k15m0 : Method := { name := "<init>", desc := "()V", sig := { parameters := [], returnType := none }, accessFlags := 1, code := none }
/-- jdk/internal/util/Preconditions -/
def k15 : Class := { plain "jdk/internal/util/Preconditions" (some 0) with
  accessFlags := 33
  interfaces := #[]
  cf := some (fileOf pool15 24 #[.nestMembers #[55, 131, 125, 114]] #[{ accessFlags := 1, nameIndex := 5, descriptorIndex := 6, attributes := #[] }] 33 2 #[] #[{ accessFlags := 25, nameIndex := 123, descriptorIndex := 124, attributes := #[] }, { accessFlags := 25, nameIndex := 130, descriptorIndex := 124, attributes := #[] }, { accessFlags := 25, nameIndex := 136, descriptorIndex := 124, attributes := #[] }])
  fields := #[{ name := "SIOOBE_FORMATTER", type := (.object "java/util/function/BiFunction"), accessFlags := 25, slot := 0, constantValue := 0 }, { name := "AIOOBE_FORMATTER", type := (.object "java/util/function/BiFunction"), accessFlags := 25, slot := 1, constantValue := 0 }, { name := "IOOBE_FORMATTER", type := (.object "java/util/function/BiFunction"), accessFlags := 25, slot := 2, constantValue := 0 }]
  methods := #[k15m0]
  instanceTypes := #[]
  staticTypes := #[(.object "java/util/function/BiFunction"), (.object "java/util/function/BiFunction"), (.object "java/util/function/BiFunction")]
  resolved := Array.replicate 194 none
  statics := some 2 }

def pool16 : Array CpInfo := pool [(4, .class_ 6), (1, u "java/lang/Object"), (0, u "<init>"), (0, u "()V"), (5, .class_ 16), (1, u "java/lang/StringLatin1"), (104, u "$assertionsDisabled"), (0, u "Z"), (98, .class_ 223), (1, u "java/lang/StringLatin1$LinesSpliterator"), (166, .class_ 391), (0, u "java/lang/StringLatin1$CharsSpliterator")] 3

def k16m0 : Method := { name := "<init>", desc := "()V", sig := { parameters := [], returnType := none }, accessFlags := 0, code := none }
/-- java/lang/StringLatin1 -/
def k16 : Class := { plain "java/lang/StringLatin1" (some 0) with
  accessFlags := 48
  interfaces := #[]
  cf := some (fileOf pool16 14 #[.nestMembers #[390, 221]] #[{ accessFlags := 0, nameIndex := 7, descriptorIndex := 8, attributes := #[] }] 48 4 #[] #[{ accessFlags := 4120, nameIndex := 121, descriptorIndex := 122, attributes := #[] }])
  fields := #[{ name := "$assertionsDisabled", type := .boolean, accessFlags := 4120, slot := 0, constantValue := 0 }]
  methods := #[k16m0]
  instanceTypes := #[]
  staticTypes := #[.boolean]
  resolved := Array.replicate 395 none
  statics := none }

def pool17 : Array CpInfo := pool [(9, u "<init>"), (6, .class_ 18), (1, u "java/lang/Object"), (0, u "()V"), (1, .class_ 23), (1, u "jdk/internal/util/ArraysSupport"), (0, u "LOG2_ARRAY_LONG_INDEX_SCALE"), (0, u "I"), (2, u "U"), (0, u "Ljdk/internal/misc/Unsafe;"), (8, u "BIG_ENDIAN"), (0, u "Z"), (8, u "LOG2_BYTE_BIT_SIZE"), (4, u "LOG2_ARRAY_INT_INDEX_SCALE"), (54, u "JLA"), (0, u "Ljdk/internal/access/JavaLangAccess;"), (11, u "LOG2_ARRAY_BOOLEAN_INDEX_SCALE"), (9, u "LOG2_ARRAY_BYTE_INDEX_SCALE"), (5, u "LOG2_ARRAY_CHAR_INDEX_SCALE"), (5, u "LOG2_ARRAY_SHORT_INDEX_SCALE"), (18, u "LOG2_ARRAY_FLOAT_INDEX_SCALE"), (24, u "LOG2_ARRAY_DOUBLE_INDEX_SCALE"), (89, u "T_BOOLEAN"), (2, u "T_CHAR"), (1, u "T_FLOAT"), (1, u "T_DOUBLE"), (1, u "T_BYTE"), (1, u "T_SHORT"), (1, u "T_INT"), (1, u "T_LONG"), (1, u "SOFT_MAX_ARRAY_LENGTH")] 83

def k17m0 : Method := { name := "<init>", desc := "()V", sig := { parameters := [], returnType := none }, accessFlags := 2, code := none }
/-- jdk/internal/util/ArraysSupport -/
def k17 : Class := { plain "jdk/internal/util/ArraysSupport" (some 0) with
  accessFlags := 33
  interfaces := #[]
  cf := some (fileOf pool17 21 #[] #[{ accessFlags := 2, nameIndex := 9, descriptorIndex := 19, attributes := #[] }] 33 16 #[] #[{ accessFlags := 24, nameIndex := 28, descriptorIndex := 29, attributes := #[] }, { accessFlags := 26, nameIndex := 38, descriptorIndex := 39, attributes := #[] }, { accessFlags := 25, nameIndex := 121, descriptorIndex := 25, attributes := #[] }, { accessFlags := 25, nameIndex := 131, descriptorIndex := 25, attributes := #[] }, { accessFlags := 25, nameIndex := 137, descriptorIndex := 25, attributes := #[] }, { accessFlags := 25, nameIndex := 143, descriptorIndex := 25, attributes := #[] }, { accessFlags := 25, nameIndex := 53, descriptorIndex := 25, attributes := #[] }, { accessFlags := 25, nameIndex := 24, descriptorIndex := 25, attributes := #[] }, { accessFlags := 25, nameIndex := 162, descriptorIndex := 25, attributes := #[] }, { accessFlags := 25, nameIndex := 187, descriptorIndex := 25, attributes := #[] }, { accessFlags := 26, nameIndex := 48, descriptorIndex := 25, attributes := #[] }, { accessFlags := 25, nameIndex := 277, descriptorIndex := 25, attributes := #[] }, { accessFlags := 25, nameIndex := 280, descriptorIndex := 25, attributes := #[] }, { accessFlags := 25, nameIndex := 282, descriptorIndex := 25, attributes := #[] }, { accessFlags := 25, nameIndex := 284, descriptorIndex := 25, attributes := #[] }, { accessFlags := 25, nameIndex := 286, descriptorIndex := 25, attributes := #[] }, { accessFlags := 25, nameIndex := 288, descriptorIndex := 25, attributes := #[] }, { accessFlags := 25, nameIndex := 290, descriptorIndex := 25, attributes := #[] }, { accessFlags := 25, nameIndex := 292, descriptorIndex := 25, attributes := #[] }, { accessFlags := 26, nameIndex := 108, descriptorIndex := 109, attributes := #[] }, { accessFlags := 25, nameIndex := 294, descriptorIndex := 25, attributes := #[] }])
  fields := #[{ name := "U", type := (.object "jdk/internal/misc/Unsafe"), accessFlags := 24, slot := 0, constantValue := 0 }, { name := "BIG_ENDIAN", type := .boolean, accessFlags := 26, slot := 1, constantValue := 0 }, { name := "LOG2_ARRAY_BOOLEAN_INDEX_SCALE", type := .int, accessFlags := 25, slot := 2, constantValue := 0 }, { name := "LOG2_ARRAY_BYTE_INDEX_SCALE", type := .int, accessFlags := 25, slot := 3, constantValue := 0 }, { name := "LOG2_ARRAY_CHAR_INDEX_SCALE", type := .int, accessFlags := 25, slot := 4, constantValue := 0 }, { name := "LOG2_ARRAY_SHORT_INDEX_SCALE", type := .int, accessFlags := 25, slot := 5, constantValue := 0 }, { name := "LOG2_ARRAY_INT_INDEX_SCALE", type := .int, accessFlags := 25, slot := 6, constantValue := 0 }, { name := "LOG2_ARRAY_LONG_INDEX_SCALE", type := .int, accessFlags := 25, slot := 7, constantValue := 0 }, { name := "LOG2_ARRAY_FLOAT_INDEX_SCALE", type := .int, accessFlags := 25, slot := 8, constantValue := 0 }, { name := "LOG2_ARRAY_DOUBLE_INDEX_SCALE", type := .int, accessFlags := 25, slot := 9, constantValue := 0 }, { name := "LOG2_BYTE_BIT_SIZE", type := .int, accessFlags := 26, slot := 10, constantValue := 0 }, { name := "T_BOOLEAN", type := .int, accessFlags := 25, slot := 11, constantValue := 0 }, { name := "T_CHAR", type := .int, accessFlags := 25, slot := 12, constantValue := 0 }, { name := "T_FLOAT", type := .int, accessFlags := 25, slot := 13, constantValue := 0 }, { name := "T_DOUBLE", type := .int, accessFlags := 25, slot := 14, constantValue := 0 }, { name := "T_BYTE", type := .int, accessFlags := 25, slot := 15, constantValue := 0 }, { name := "T_SHORT", type := .int, accessFlags := 25, slot := 16, constantValue := 0 }, { name := "T_INT", type := .int, accessFlags := 25, slot := 17, constantValue := 0 }, { name := "T_LONG", type := .int, accessFlags := 25, slot := 18, constantValue := 0 }, { name := "JLA", type := (.object "jdk/internal/access/JavaLangAccess"), accessFlags := 26, slot := 19, constantValue := 0 }, { name := "SOFT_MAX_ARRAY_LENGTH", type := .int, accessFlags := 25, slot := 20, constantValue := 0 }]
  methods := #[k17m0]
  instanceTypes := #[]
  staticTypes := #[(.object "jdk/internal/misc/Unsafe"), .boolean, .int, .int, .int, .int, .int, .int, .int, .int, .int, .int, .int, .int, .int, .int, .int, .int, .int, (.object "jdk/internal/access/JavaLangAccess"), .int]
  resolved := Array.replicate 378 none
  statics := none }

def pool18 : Array CpInfo := pool [(1, u "java/lang/Cloneable"), (0, .class_ 1), (0, u "java/lang/Object"), (0, .class_ 3)] 3

/-- java/lang/Cloneable -/
def k18 : Class := { plain "java/lang/Cloneable" (some 0) with
  accessFlags := 1537
  interfaces := #[]
  cf := some (fileOf pool18 2 #[] #[] 1537 4 #[] #[])
  fields := #[]
  methods := #[]
  instanceTypes := #[]
  staticTypes := #[]
  resolved := Array.replicate 8 none
  statics := none }

/-- the primitive byte -/
def k19 : Class := { plain "byte" none with kind := .primitive 'B', accessFlags := 0x411 }
/-- [B -/
def k20 : Class := { plain "[B" (some 0) with kind := .array 19 .byte, interfaces := #[18, 2], accessFlags := 1041 }

/-- the primitive char -/
def k21 : Class := { plain "char" none with kind := .primitive 'C', accessFlags := 0x411 }
/-- [C -/
def k22 : Class := { plain "[C" (some 0) with kind := .array 21 .char, interfaces := #[18, 2], accessFlags := 1041 }

/-- the primitive int -/
def k23 : Class := { plain "int" none with kind := .primitive 'I', accessFlags := 0x411 }
/-- [I -/
def k24 : Class := { plain "[I" (some 0) with kind := .array 23 .int, interfaces := #[18, 2], accessFlags := 1041 }

/-- [Ljava/time/Month; -/
def k25 : Class := { plain "[Ljava/time/Month;" (some 0) with kind := .array 14 (.object "java/time/Month"), interfaces := #[18, 2], accessFlags := 1041 }

def heap : Heap := #[{ cls := 7, slots := #[.long 0, .int 1, .null, .int 0, .null, .int 0, .int 0], vm := .statics 7 },
  { cls := 14, slots := #[.ref 4, .ref 5, .ref 6, .ref 7, .ref 8, .ref 9, .ref 10, .ref 11, .ref 12, .ref 13, .ref 14, .ref 15, .ref 3, .null], vm := .statics 14 },
  { cls := 15, slots := #[.null, .null, .null], vm := .statics 15 },
  { cls := 25, slots := #[.ref 4, .ref 5, .ref 6, .ref 7, .ref 8, .ref 9, .ref 10, .ref 11, .ref 12, .ref 13, .ref 14, .ref 15], vm := .none },
  { cls := 14, slots := #[.ref 16, .int 0, .int 0], vm := .none },
  { cls := 14, slots := #[.ref 16, .int 1, .int 0], vm := .none },
  { cls := 14, slots := #[.ref 16, .int 2, .int 0], vm := .none },
  { cls := 14, slots := #[.ref 16, .int 3, .int 0], vm := .none },
  { cls := 14, slots := #[.ref 16, .int 4, .int 0], vm := .none },
  { cls := 14, slots := #[.ref 16, .int 5, .int 0], vm := .none },
  { cls := 14, slots := #[.ref 16, .int 6, .int 0], vm := .none },
  { cls := 14, slots := #[.ref 16, .int 7, .int 0], vm := .none },
  { cls := 14, slots := #[.ref 16, .int 8, .int 0], vm := .none },
  { cls := 14, slots := #[.ref 16, .int 9, .int 0], vm := .none },
  { cls := 14, slots := #[.ref 16, .int 10, .int 0], vm := .none },
  { cls := 14, slots := #[.ref 16, .int 11, .int 0], vm := .none },
  { cls := 7, slots := #[.null, .int 0, .int 0, .int 0], vm := .none },
  { cls := 16, slots := #[], vm := .none },
  { cls := 17, slots := #[], vm := .none }]
def classes : Array Class := #[k0, k1, k2, k3, k4, k5, k6, k7, k8, k9, k10, k11, k12, k13, k14, k15, k16, k17, k18, k19, k20, k21, k22, k23, k24, k25]
def interned : List (Array UInt16 × Addr) := []
def slotsUsed : Nat := 76
def theMethod : MethodId := ⟨1, 1⟩
def args0 : Array Value := #[.long 5, .int 5]
def aboutOver (below : List Frame) : State where
  vm := { classes := classes, interned := interned.toArray }
  heap := heap
  slotsUsed := slotsUsed
  threads := #[{ frames := .invoking theMethod args0 :: below }]
def below0 : List Frame := [.native { method := ⟨0, 0⟩, args := #[] }]
def about1 : State := aboutOver below0
def p0 : Program := .bare "" "" ""
def e0 : Env := launch0.env 0 0 0
theorem w_frames : about1.frames = Frame.invoking theMethod args0 :: below0 := rfl
set_option maxRecDepth 65536 in
theorem w_args : argsFit about1.vm theMethod args0 = true := by decide +kernel
set_option maxRecDepth 65536 in
theorem w_heap : heapFits about1 = true := by decide +kernel
set_option maxRecDepth 65536 in
theorem w_runnable : about1.curStatus? = some .runnable := by decide +kernel
set_option maxRecDepth 65536 in
theorem w_alone : about1.alone = true := by decide +kernel
set_option maxRecDepth 65536 in
theorem w_named : about1.methodNamed? x = some theMethod := by decide +kernel
set_option maxRecDepth 65536 in
theorem w_hears : about1.hears theMethod below0 = true := by decide +kernel
set_option maxRecDepth 65536 in
theorem w_ripe : about1.ripe theMethod args0 below0 = true := by decide +kernel
theorem w_running : about1.status = .running := rfl
set_option maxRecDepth 65536 in
theorem w_room : about1.hasRoom e0.platform room_1 = true :=
  launch0.hasRoom_least _ room_1 (by decide +kernel) (by decide +kernel) (by decide +kernel) (by decide +kernel) (by decide +kernel) (by decide +kernel)
theorem allAtoms_all (ts : List Jvm.Cond) (a : Array Jvm.Value) (st : Jvm.State) : (allAtoms ts).before a st = ts.all (fun c => c.before a st) := by
  induction ts with
  | nil => rfl
  | cons c t ih =>
    show (Jvm.Cond.and c (allAtoms t)).before a st = _
    rw [Jvm.Cond.before_and, ih, List.all_cons]
def words1 : List Jvm.Cond := Jvm.Cond.code x code maxLocals ret :: tables_1
/-- a 'code' word, met by the world's own term for the bytes: nothing is compared byte by byte -/
theorem code_word {y : MethodName} {bytes : ByteArray} {mx : Nat} {rt : Option FieldType} {a : Array Value} {s : State} {m : MethodId} {meth : Method} {c : Code} (h1 : s.methodNamed? y = some m) (h2 : s.vm.method? m = some meth) (h3 : meth.code = some c) (h4 : c.code = bytes)
    (h5 : (c.maxLocals == mx && c.exceptionTable.isEmpty && decide (c.maxStack ≤ mostOperands) && decide (meth.sig.returnType = rt) && !meth.locks && decide (parseMethodDescriptor y.desc = some meth.sig)) = true) : (Jvm.Cond.code y bytes mx rt).before a s = true := by
  simp only [Bool.and_eq_true, beq_iff_eq, Bool.not_eq_true', decide_eq_true_eq] at h5
  obtain ⟨⟨⟨⟨⟨g1, g2⟩, g3⟩, g4⟩, g5⟩, g6⟩ := h5
  simp [Cond.before, Cond.holds, Cond.value, h1, h2, h3, h4, g1, g2, g3, g4, g5, g6]
def isCode : Jvm.Cond → Bool
  | .code _ _ _ _ => true
  | _ => false
theorem all_split {L : List Jvm.Cond} {P : Jvm.Cond → Bool} (h1 : L.all (fun c => isCode c || P c) = true) (h2 : ∀ c ∈ L.filter isCode, P c = true) : L.all P = true := by
  refine List.all_eq_true.mpr fun c hc => ?_
  have h := List.all_eq_true.mp h1 c hc
  rcases Bool.eq_false_or_eq_true (isCode c) with hi | hi
  · exact h2 c (List.mem_filter.mpr ⟨hc, hi⟩)
  · simpa [hi] using h
set_option maxRecDepth 65536 in
theorem w_c0 : (Jvm.Cond.code x code maxLocals ret).before args0 about1 = true := code_word (m := ⟨1, 1⟩) (meth := k1m1) (c := k1c1) (by decide +kernel) rfl rfl rfl (by decide +kernel)
set_option maxRecDepth 65536 in
theorem w_c1 : (Jvm.Cond.code ({ cls := "java/lang/String", name := "<init>", desc := "([C)V" } : Jvm.MethodName) jdk_42_method_3_code (2 : Nat) (Option.none : Option Jvm.ClassFile.FieldType)).before args0 about1 = true := code_word (m := ⟨7, 1⟩) (meth := k7m1) (c := k7c1) (by decide +kernel) rfl rfl rfl (by decide +kernel)
set_option maxRecDepth 65536 in
theorem w_c2 : (Jvm.Cond.code ({ cls := "java/lang/String", name := "<init>", desc := "([CIILjava/lang/Void;)V" } : Jvm.MethodName) jdk_42_method_149_code (6 : Nat) (Option.none : Option Jvm.ClassFile.FieldType)).before args0 about1 = true := code_word (m := ⟨7, 2⟩) (meth := k7m2) (c := k7c2) (by decide +kernel) rfl rfl rfl (by decide +kernel)
set_option maxRecDepth 65536 in
theorem w_c3 : (Jvm.Cond.code ({ cls := "java/lang/Object", name := "<init>", desc := "()V" } : Jvm.MethodName) object_method_1_code (1 : Nat) (Option.none : Option Jvm.ClassFile.FieldType)).before args0 about1 = true := code_word (m := ⟨0, 0⟩) (meth := k0m0) (c := k0c0) (by decide +kernel) rfl rfl rfl (by decide +kernel)
set_option maxRecDepth 65536 in
theorem w_c4 : (Jvm.Cond.code ({ cls := "java/lang/StringUTF16", name := "compress", desc := "([CII)[B" } : Jvm.MethodName) jdk_52_method_16_code (6 : Nat) (Option.some (Jvm.ClassFile.FieldType.array Jvm.ClassFile.FieldType.byte))).before args0 about1 = true := code_word (m := ⟨8, 2⟩) (meth := k8m2) (c := k8c2) (by decide +kernel) rfl rfl rfl (by decide +kernel)
set_option maxRecDepth 65536 in
theorem w_c5 : (Jvm.Cond.code ({ cls := "java/lang/StringUTF16", name := "compress", desc := "([CI[BII)I" } : Jvm.MethodName) jdk_52_method_21_code (7 : Nat) (Option.some Jvm.ClassFile.FieldType.int)).before args0 about1 = true := code_word (m := ⟨8, 3⟩) (meth := k8m3) (c := k8c3) (by decide +kernel) rfl rfl rfl (by decide +kernel)
set_option maxRecDepth 65536 in
theorem w_c6 : (Jvm.Cond.code ({ cls := "java/lang/StringUTF16", name := "coderFromArrayLen", desc := "([BI)B" } : Jvm.MethodName) jdk_52_method_15_code (2 : Nat) (Option.some Jvm.ClassFile.FieldType.byte)).before args0 about1 = true := code_word (m := ⟨8, 1⟩) (meth := k8m1) (c := k8c1) (by decide +kernel) rfl rfl rfl (by decide +kernel)
set_option maxRecDepth 65536 in
theorem w_c7 : (Jvm.Cond.code ({ cls := "com/example/ratchetbook/ratchetbook/tariff/AnnualMinimum", name := "monthNumbered", desc := "(JLjava/lang/String;)Ljava/time/Month;" } : Jvm.MethodName) prog_84_method_2_code (3 : Nat) (Option.some (Jvm.ClassFile.FieldType.object "java/time/Month"))).before args0 about1 = true := code_word (m := ⟨10, 0⟩) (meth := k10m0) (c := k10c0) (by decide +kernel) rfl rfl rfl (by decide +kernel)
set_option maxRecDepth 65536 in
theorem w_c8 : (Jvm.Cond.code ({ cls := "java/time/Month", name := "of", desc := "(I)Ljava/time/Month;" } : Jvm.MethodName) jdk_2329_method_4_code (1 : Nat) (Option.some (Jvm.ClassFile.FieldType.object "java/time/Month"))).before args0 about1 = true := code_word (m := ⟨14, 0⟩) (meth := k14m0) (c := k14c0) (by decide +kernel) rfl rfl rfl (by decide +kernel)
set_option maxRecDepth 65536 in
theorem w_c9 : (Jvm.Cond.code ({ cls := "com/example/ratchetbook/ratchetbook/tariff/AnnualMinimumMonthNumberedPinLaw", name := "expected", desc := "(I)Ljava/time/Month;" } : Jvm.MethodName) method_3_code (1 : Nat) (Option.some (Jvm.ClassFile.FieldType.object "java/time/Month"))).before args0 about1 = true := code_word (m := ⟨1, 2⟩) (meth := k1m2) (c := k1c2) (by decide +kernel) rfl rfl rfl (by decide +kernel)
def codes1 : List Jvm.Cond := [Jvm.Cond.code x code maxLocals ret, Jvm.Cond.code ({ cls := "java/lang/String", name := "<init>", desc := "([C)V" } : Jvm.MethodName) jdk_42_method_3_code (2 : Nat) (Option.none : Option Jvm.ClassFile.FieldType), Jvm.Cond.code ({ cls := "java/lang/String", name := "<init>", desc := "([CIILjava/lang/Void;)V" } : Jvm.MethodName) jdk_42_method_149_code (6 : Nat) (Option.none : Option Jvm.ClassFile.FieldType), Jvm.Cond.code ({ cls := "java/lang/Object", name := "<init>", desc := "()V" } : Jvm.MethodName) object_method_1_code (1 : Nat) (Option.none : Option Jvm.ClassFile.FieldType), Jvm.Cond.code ({ cls := "java/lang/StringUTF16", name := "compress", desc := "([CII)[B" } : Jvm.MethodName) jdk_52_method_16_code (6 : Nat) (Option.some (Jvm.ClassFile.FieldType.array Jvm.ClassFile.FieldType.byte)), Jvm.Cond.code ({ cls := "java/lang/StringUTF16", name := "compress", desc := "([CI[BII)I" } : Jvm.MethodName) jdk_52_method_21_code (7 : Nat) (Option.some Jvm.ClassFile.FieldType.int), Jvm.Cond.code ({ cls := "java/lang/StringUTF16", name := "coderFromArrayLen", desc := "([BI)B" } : Jvm.MethodName) jdk_52_method_15_code (2 : Nat) (Option.some Jvm.ClassFile.FieldType.byte), Jvm.Cond.code ({ cls := "com/example/ratchetbook/ratchetbook/tariff/AnnualMinimum", name := "monthNumbered", desc := "(JLjava/lang/String;)Ljava/time/Month;" } : Jvm.MethodName) prog_84_method_2_code (3 : Nat) (Option.some (Jvm.ClassFile.FieldType.object "java/time/Month")), Jvm.Cond.code ({ cls := "java/time/Month", name := "of", desc := "(I)Ljava/time/Month;" } : Jvm.MethodName) jdk_2329_method_4_code (1 : Nat) (Option.some (Jvm.ClassFile.FieldType.object "java/time/Month")), Jvm.Cond.code ({ cls := "com/example/ratchetbook/ratchetbook/tariff/AnnualMinimumMonthNumberedPinLaw", name := "expected", desc := "(I)Ljava/time/Month;" } : Jvm.MethodName) method_3_code (1 : Nat) (Option.some (Jvm.ClassFile.FieldType.object "java/time/Month"))]
set_option maxRecDepth 65536 in
theorem codes_eq : words1.filter isCode = codes1 := rfl
theorem w_codes : ∀ c ∈ words1.filter isCode, c.before args0 about1 = true := by
  rw [codes_eq]
  intro c hc
  simp only [codes1, List.mem_cons, List.not_mem_nil, or_false] at hc
  rcases hc with rfl | rfl | rfl | rfl | rfl | rfl | rfl | rfl | rfl | rfl
  · exact w_c0
  · exact w_c1
  · exact w_c2
  · exact w_c3
  · exact w_c4
  · exact w_c5
  · exact w_c6
  · exact w_c7
  · exact w_c8
  · exact w_c9
set_option maxRecDepth 65536 in
theorem w_t1 : (words1.take 24).all (fun c => isCode c || c.before args0 about1) = true := by decide +kernel
set_option maxRecDepth 65536 in
theorem w_t2 : ((words1.drop 24).take 24).all (fun c => isCode c || c.before args0 about1) = true := by decide +kernel
set_option maxRecDepth 65536 in
theorem w_t3 : ((words1.drop 24).drop 24).all (fun c => isCode c || c.before args0 about1) = true := by decide +kernel
theorem w_tables : (allAtoms (Jvm.Cond.code x code maxLocals ret :: tables_1)).before args0 about1 = true := by
  rw [allAtoms_all]
  show words1.all (fun c => c.before args0 about1) = true
  refine all_split ?_ w_codes
  rw [← List.take_append_drop 24 words1, List.all_append, w_t1, ← List.take_append_drop 24 (words1.drop 24), List.all_append, w_t2, w_t3]
  rfl
set_option maxRecDepth 65536 in
theorem w_rest : rest_1_c.before args0 about1 = true := by decide +kernel
set_option maxRecDepth 65536 in
theorem w_case : (Jvm.Cond.and given_1 narrow_1).before args0 about1 = true := by decide +kernel
theorem w_applies : (headSpec (Jvm.Cond.code x code maxLocals ret :: tables_1) room_1).applies x e0.platform about1 = true :=
  (Spec.applies_iff w_frames).mpr ⟨w_running, w_runnable, w_alone, w_named, w_hears, w_ripe, w_room, w_tables⟩
theorem atStart : AtStart classFile x code maxLocals ret World_1 tables_1 room_1 Calls_1 rest_1 Pre_1 launch0 p0 e0 about1 theMethod args0 below0 :=
  ⟨lists_1, trivial, launch0.admits_env _ _ _, launch0.least_env, fairChoices_fair.cas, fairChoices_fair.clock, w_frames, w_args, w_heap, w_applies, trivial, w_rest, w_case⟩
end start1
theorem witness_1 : WitnessClaimed_1 := ⟨start1.p0, start1.e0, start1.about1, start1.theMethod, start1.args0, start1.below0, start1.atStart⟩
end Jvm.Pilot.@@N@@
