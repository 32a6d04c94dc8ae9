import JvmDerived
import JvmDerived.Pilot.@@N@@Statement
import JvmDerived.Pilot.@@N@@Code
set_option linter.unusedVariables false
set_option linter.unusedSimpArgs false
namespace Jvm.Pilot.@@N@@
open Jvm Jvm.ClassFile Sem Op Lib Jvm.Free Jvm.Stand Jvm.LawKit Jvm.RoadKit Bundle Jvm.Pilot.@@N@@.Jvm.D
abbrev jv (x : Int64) : Slot := .val (.long x)
theorem ow {Z : State} {a0 : Array Value} (hw : ∀ d ∈ tables_1, d.before a0 Z = true) (i : Nat) {d : Jvm.Cond} (h : tables_1[i]? = some d) : d.before a0 Z = true := hw _ (List.mem_of_getElem? h)
section OwnKit
variable {p : Program} {l : Launch} {e : Env} {R : Room} {s : State} {m : MethodId} {args : Array Value} {below : List Frame} {meth : Method} {c : Code} {T T' : State} {locs : List Loc} {cells slots kc ks : Nat} {Q : Option Value → Heap → List Loc → Prop} {g g' : JFrame}
/-- from this state and frame on the body ends, and Q holds of what it returns, of the heap and of the places written -/
def OwnG (p : Program) (e : Env) (below : List Frame) (s : State) (kc ks : Nat) (Q : Option Value → Heap → List Loc → Prop) (T : State) (g : JFrame) : Prop :=
  ∃ s₂ o, Steps p.tables e below (T.setTop g) s₂ ∧ s₂.status = .running ∧ Ended s₂ below o ∧ ∃ v L, o = .returned v ∧ Q v s₂.heap L ∧ FrameEnd s o s₂ L kc ks
theorem own_by (k : ∀ t, Steps p.tables e below (T'.setTop g') t → Steps p.tables e below (T.setTop g) t) (h : OwnG p e below s kc ks Q T' g') : OwnG p e below s kc ks Q T g := by
  obtain ⟨s₂, o, st, r⟩ := h
  exact ⟨s₂, o, k _ st, r⟩
theorem own_out (X : Stand p l e R s m args below meth c T locs cells slots) (hlk : meth.locks = false) {v : Option Value} (hv : meth.sig.returnType = none → v = none)
    (hst : ∀ fs, (∀ (f : JFrame) (acts : List Action), f.method = m → f.locked = none → f.entered = [] → (doReturn e (T.setTop f) acts v).1 = T.setFrames fs) → Steps p.tables e below (T.setTop g) (T.setFrames fs))
    (hq : Q v T.heap locs) (hc : cells ≤ kc) (hs : slots ≤ ks) : OwnG p e below s kc ks Q T g := by
  obtain ⟨fs, hr, hrun, hended, hW, hsame⟩ := X.leave (v := v) hv hlk
  exact ⟨_, _, hst fs hr, hrun, hended, v, locs, rfl, hq, ⟨_, rfl⟩, hW, hsame.mono hc hs⟩
def OwnGW (p : Program) (e : Env) (below : List Frame) (s : State) (kc ks : Nat) (Q : Option Value → Heap → List Loc → Prop) (T : State) (g : JFrame) : Prop :=
  ∃ s₂ o, Steps p.tables e below (T.setTop g) s₂ ∧ s₂.status = .running ∧ Ended s₂ below o ∧ ∃ v L, o = .returned v ∧ Q v s₂.heap L ∧ ReturnedEndW s o s₂ L kc ks
theorem own_byW (k : ∀ t, Steps p.tables e below (T'.setTop g') t → Steps p.tables e below (T.setTop g) t) (h : OwnGW p e below s kc ks Q T' g') : OwnGW p e below s kc ks Q T g := by
  obtain ⟨s₂, o, st, r⟩ := h
  exact ⟨s₂, o, k _ st, r⟩
theorem own_outW {vm : Vm} {k : Nat} (X : Stand p l e R (s.setVm vm) m args below meth c T locs cells slots) (hS : s.Since vm k) (hk : k ≤ T.heap.size) (hlk : meth.locks = false) {v : Option Value} (hv : meth.sig.returnType = none → v = none)
    (hst : ∀ fs, (∀ (f : JFrame) (acts : List Action), f.method = m → f.locked = none → f.entered = [] → (doReturn e (T.setTop f) acts v).1 = T.setFrames fs) → Steps p.tables e below (T.setTop g) (T.setFrames fs))
    (hq : Q v T.heap locs) (hc : cells ≤ kc) (hs : slots ≤ ks) : OwnGW p e below s kc ks Q T g := by
  obtain ⟨fs, hr, hrun, hended, h1, h2, h3, h4⟩ := X.leaveW hS hk (v := v) hv hlk
  exact ⟨_, _, hst fs hr, hrun, hended, v, locs, rfl, hq, h1, h2, h3, h4.mono hc hs⟩
def OwnGH (p : Program) (e : Env) (below : List Frame) (s Z : State) (EL : List (String × Nat)) (kc ks : Nat) (Q : Option Value → Heap → List Loc → Prop) (T : State) (g : JFrame) : Prop :=
  ∃ s₂ o, Steps p.tables e below (T.setTop g) s₂ ∧ s₂.status = .running ∧ Ended s₂ below o ∧ ∃ v L, o = .returned v ∧ Q v s₂.heap L ∧ CHr Z EL s.vm s.heap s₂.vm s₂.heap ∧ ReturnedEndW s o s₂ L kc ks
theorem own_byH {Z : State} {EL : List (String × Nat)} (k : ∀ t, Steps p.tables e below (T'.setTop g') t → Steps p.tables e below (T.setTop g) t) (h : OwnGH p e below s Z EL kc ks Q T' g') : OwnGH p e below s Z EL kc ks Q T g := by
  obtain ⟨s₂, o, st, r⟩ := h
  exact ⟨s₂, o, k _ st, r⟩
theorem own_outH {Z : State} {a0 : Array Value} {EL : List (String × Nat)} {h0 : Heap} {vm : Vm} {k : Nat} (X : Stand p l e R (s.setVm vm) m args below meth c T locs cells slots) (hh : s.heap = h0) (hEL : EW Z a0 EL) (hS : s.Since vm k) (hk : k ≤ T.heap.size) (HR : CHr Z EL s.vm h0 vm T.heap) (hZ : Z.Warmed39 vm) (hlk : meth.locks = false) {v : Option Value} (hv : meth.sig.returnType = none → v = none)
    (hst : ∀ fs, (∀ (f : JFrame) (acts : List Action), f.method = m → f.locked = none → f.entered = [] → (doReturn e (T.setTop f) acts v).1 = T.setFrames fs) → Steps p.tables e below (T.setTop g) (T.setFrames fs))
    (hq : Q v T.heap locs) (hc : cells ≤ kc) (hs : slots ≤ ks) : OwnGH p e below s Z EL kc ks Q T g := by
  obtain ⟨fs, hr, hrun, hended, h1, h2, h3, h4⟩ := X.leaveW hS hk (v := v) hv hlk
  have C := HR.trans (CHv.at X hZ hEL HR.1)
  exact ⟨_, _, hst fs hr, hrun, hended, v, locs, rfl, hq, (by rw [hh]; exact C), h1, h2, h3, h4.mono hc hs⟩
theorem own_lt (x y : Int64) : lcmpW x y < 0 ↔ x < y := by rw [lcW]; exact lc_lt x y
theorem own_gt (x y : Int64) : 0 < lcmpW x y ↔ y < x := by rw [lcW]; exact lc_gt x y
theorem own_eq (x y : Int64) : lcmpW x y = 0 ↔ x = y := by rw [lcW]; exact lc_eq x y
theorem own_fldI {Z : State} {a : Addr} {t : Jvm.Term} {C n d : String} {k : Int32} (ev : t.eval args Z none [] Z = some (.ref a)) (h : (Jvm.Cond.eq (Jvm.Term.field t C n d) (Jvm.Term.int k)).value args Z none Z [] = some true) : Fld Z Z.heap a C n d (.int k) := by
  obtain ⟨x, y, h1, h2, h3, h4⟩ := cmp_v (Or.inl h)
  cases (Term.int_eval k).symm.trans h2
  obtain ⟨z, rfl⟩ := h4
  rw [fld_at ev] at h1
  have h5 : (Jvm.Cond.eq (Jvm.Term.field t C n d) (Jvm.Term.int k)).value args Z none Z [] = some (decide (z = k)) := by simp [Jvm.Cond.value, fld_at ev, h1, Term.int_eval]
  cases gotT h5 h
  exact Fld.start h1
theorem own_fldJ {Z : State} {a : Addr} {t : Jvm.Term} {C n d : String} {k : Int64} (ev : t.eval args Z none [] Z = some (.ref a)) (h : (Jvm.Cond.eq (Jvm.Term.field t C n d) (Jvm.Term.long k)).value args Z none Z [] = some true) : Fld Z Z.heap a C n d (.long k) := by
  obtain ⟨x, y, h1, h2, h3, h4⟩ := cmp_v (Or.inl h)
  cases (long_at k).symm.trans h2
  obtain ⟨z, rfl⟩ := h4
  have h5 := gotT (eq_L h1 (long_at k)) h
  rw [fld_at ev] at h1
  cases h5
  exact Fld.start h1
theorem own_fldN {Z : State} {a : Addr} {t : Jvm.Term} {C n d : String} (ev : t.eval args Z none [] Z = some (.ref a)) (h : (Jvm.Cond.eq (Jvm.Term.field t C n d) Jvm.Term.null).value args Z none Z [] = some true) : Fld Z Z.heap a C n d .null := by
  have h1 := null_v h
  rw [fld_at ev] at h1
  exact Fld.start h1
theorem own_e0 {P : Prop} [Decidable P] (h : (if P then (1 : Int32) else (0 : Int32)) = 0) : ¬ P := fun q => by rw [if_pos q] at h; exact absurd h (by decide)
theorem own_e1 {P : Prop} [Decidable P] (h : ¬ (if P then (1 : Int32) else (0 : Int32)) = 0) : P := by
  by_cases q : P
  · exact q
  · exact absurd (if_neg q) h
theorem own_n2 {P Q : Prop} [Decidable P] [Decidable Q] {A : Int32} (h : ¬ (P ∧ Q)) : (if P then (if Q then A else (0 : Int32)) else (0 : Int32)) = 0 := by
  by_cases p : P
  · rw [if_pos p, if_neg (fun q => h ⟨p, q⟩)]
  · rw [if_neg p]
theorem own_narR {v : Value} {C : String} (h : v.isRef = true) : narrow (.object C) v = v := by rcases ref_cases h with rfl | ⟨_, rfl⟩ <;> rfl
theorem own_fitR {v : Value} {C : String} (h : v.isRef = true) : fits (.object C) v = true := by rcases ref_cases h with rfl | ⟨_, rfl⟩ <;> rfl
theorem own_len {Z : State} {t : Jvm.Term} {a : Addr} {cl : Cell} {ty : FieldType} {k : Int32} (et : t.eval args Z none [] Z = some (.ref a)) (A : Arr Z Z.heap a cl ty) (h : (Jvm.Term.length t).eval args Z none [] Z = some (.int k)) : cl.slots.size < 2 ^ 31 ∧ cl.slots.size.toInt32 = k := by
  have hA := A.fin (Vm.Alike.refl Z.vm)
  by_cases q : cl.slots.size < 2 ^ 31
  · rw [len_f et hA q] at h; exact ⟨q, by simpa using h⟩
  · simp [Jvm.Term.eval, et, hA] at h; exact absurd h.1 q
theorem own_mvM {Z : State} {a0 : Array Value} {own host : String} {index : Nat} {y : MethodName} (hZ : Z.Warmed39 s.vm) (w : (Jvm.Cond.methodLinkNest own index y host).before a0 Z = true) : (Jvm.Cond.methodLinkNest own index y host).before args s = true := (Cond.methodLinkNest_wide hZ w :)
end OwnKit
theorem d1_0 : decode jdk_42_method_3_code 0 = .ok (.aload_n 0, 1) := by decide +kernel
theorem d1_1 : decode jdk_42_method_3_code 1 = .ok (.aload_n 1, 1) := by decide +kernel
theorem d1_2 : decode jdk_42_method_3_code 2 = .ok (.iconst 0, 1) := by decide +kernel
theorem d1_3 : decode jdk_42_method_3_code 3 = .ok (.aload_n 1, 1) := by decide +kernel
theorem d1_4 : decode jdk_42_method_3_code 4 = .ok (.arraylength, 1) := by decide +kernel
theorem d1_5 : decode jdk_42_method_3_code 5 = .ok (.aconst_null, 1) := by decide +kernel
theorem d1_6 : decode jdk_42_method_3_code 6 = .ok (.invokespecial 27, 3) := by decide +kernel
theorem d1_9 : decode jdk_42_method_3_code 9 = .ok (.return_, 1) := by decide +kernel
theorem d2_0 : decode jdk_42_method_149_code 0 = .ok (.aload_n 0, 1) := by decide +kernel
theorem d2_1 : decode jdk_42_method_149_code 1 = .ok (.invokespecial 1, 3) := by decide +kernel
theorem d2_4 : decode jdk_42_method_149_code 4 = .ok (.iload_n 3, 1) := by decide +kernel
theorem d2_5 : decode jdk_42_method_149_code 5 = .ok (.ifCond .ne 22, 3) := by decide +kernel
theorem d2_27 : decode jdk_42_method_149_code 27 = .ok (.getstatic 38, 3) := by decide +kernel
theorem d2_30 : decode jdk_42_method_149_code 30 = .ok (.ifCond .eq 28, 3) := by decide +kernel
theorem d2_33 : decode jdk_42_method_149_code 33 = .ok (.aload_n 1, 1) := by decide +kernel
theorem d2_34 : decode jdk_42_method_149_code 34 = .ok (.iload_n 2, 1) := by decide +kernel
theorem d2_35 : decode jdk_42_method_149_code 35 = .ok (.iload_n 3, 1) := by decide +kernel
theorem d2_36 : decode jdk_42_method_149_code 36 = .ok (.invokestatic 177, 3) := by decide +kernel
theorem d2_39 : decode jdk_42_method_149_code 39 = .ok (.astore 5, 2) := by decide +kernel
theorem d2_41 : decode jdk_42_method_149_code 41 = .ok (.aload_n 0, 1) := by decide +kernel
theorem d2_42 : decode jdk_42_method_149_code 42 = .ok (.aload 5, 2) := by decide +kernel
theorem d2_44 : decode jdk_42_method_149_code 44 = .ok (.iload_n 3, 1) := by decide +kernel
theorem d2_45 : decode jdk_42_method_149_code 45 = .ok (.invokestatic 47, 3) := by decide +kernel
theorem d2_48 : decode jdk_42_method_149_code 48 = .ok (.putfield 15, 3) := by decide +kernel
theorem d2_51 : decode jdk_42_method_149_code 51 = .ok (.aload_n 0, 1) := by decide +kernel
theorem d2_52 : decode jdk_42_method_149_code 52 = .ok (.aload 5, 2) := by decide +kernel
theorem d2_54 : decode jdk_42_method_149_code 54 = .ok (.putfield 9, 3) := by decide +kernel
theorem d2_57 : decode jdk_42_method_149_code 57 = .ok (.return_, 1) := by decide +kernel
theorem d4_0 : decode jdk_52_method_16_code 0 = .ok (.iload_n 2, 1) := by decide +kernel
theorem d4_1 : decode jdk_52_method_16_code 1 = .ok (.newarray .byte, 2) := by decide +kernel
theorem d4_3 : decode jdk_52_method_16_code 3 = .ok (.astore_n 3, 1) := by decide +kernel
theorem d4_4 : decode jdk_52_method_16_code 4 = .ok (.aload_n 0, 1) := by decide +kernel
theorem d4_5 : decode jdk_52_method_16_code 5 = .ok (.iload_n 1, 1) := by decide +kernel
theorem d4_6 : decode jdk_52_method_16_code 6 = .ok (.aload_n 3, 1) := by decide +kernel
theorem d4_7 : decode jdk_52_method_16_code 7 = .ok (.iconst 0, 1) := by decide +kernel
theorem d4_8 : decode jdk_52_method_16_code 8 = .ok (.iload_n 2, 1) := by decide +kernel
theorem d4_9 : decode jdk_52_method_16_code 9 = .ok (.invokestatic 115, 3) := by decide +kernel
theorem d4_12 : decode jdk_52_method_16_code 12 = .ok (.istore 4, 2) := by decide +kernel
theorem d4_14 : decode jdk_52_method_16_code 14 = .ok (.iload 4, 2) := by decide +kernel
theorem d4_16 : decode jdk_52_method_16_code 16 = .ok (.iload_n 2, 1) := by decide +kernel
theorem d4_17 : decode jdk_52_method_16_code 17 = .ok (.if_icmp .eq 40, 3) := by decide +kernel
theorem d4_57 : decode jdk_52_method_16_code 57 = .ok (.aload_n 3, 1) := by decide +kernel
theorem d4_58 : decode jdk_52_method_16_code 58 = .ok (.areturn, 1) := by decide +kernel
theorem d5_0 : decode jdk_52_method_21_code 0 = .ok (.iconst 0, 1) := by decide +kernel
theorem d5_1 : decode jdk_52_method_21_code 1 = .ok (.istore 5, 2) := by decide +kernel
theorem d5_3 : decode jdk_52_method_21_code 3 = .ok (.iload 5, 2) := by decide +kernel
theorem d5_5 : decode jdk_52_method_21_code 5 = .ok (.iload 4, 2) := by decide +kernel
theorem d5_7 : decode jdk_52_method_21_code 7 = .ok (.if_icmp .ge 37, 3) := by decide +kernel
theorem d5_10 : decode jdk_52_method_21_code 10 = .ok (.aload_n 0, 1) := by decide +kernel
theorem d5_11 : decode jdk_52_method_21_code 11 = .ok (.iload_n 1, 1) := by decide +kernel
theorem d5_12 : decode jdk_52_method_21_code 12 = .ok (.caload, 1) := by decide +kernel
theorem d5_13 : decode jdk_52_method_21_code 13 = .ok (.istore 6, 2) := by decide +kernel
theorem d5_15 : decode jdk_52_method_21_code 15 = .ok (.iload 6, 2) := by decide +kernel
theorem d5_17 : decode jdk_52_method_21_code 17 = .ok (.sipush 255, 3) := by decide +kernel
theorem d5_20 : decode jdk_52_method_21_code 20 = .ok (.if_icmp .le 6, 3) := by decide +kernel
theorem d5_26 : decode jdk_52_method_21_code 26 = .ok (.aload_n 2, 1) := by decide +kernel
theorem d5_27 : decode jdk_52_method_21_code 27 = .ok (.iload_n 3, 1) := by decide +kernel
theorem d5_28 : decode jdk_52_method_21_code 28 = .ok (.iload 6, 2) := by decide +kernel
theorem d5_30 : decode jdk_52_method_21_code 30 = .ok (.i2b, 1) := by decide +kernel
theorem d5_31 : decode jdk_52_method_21_code 31 = .ok (.bastore, 1) := by decide +kernel
theorem d5_32 : decode jdk_52_method_21_code 32 = .ok (.iinc 1 1, 3) := by decide +kernel
theorem d5_35 : decode jdk_52_method_21_code 35 = .ok (.iinc 3 1, 3) := by decide +kernel
theorem d5_38 : decode jdk_52_method_21_code 38 = .ok (.iinc 5 1, 3) := by decide +kernel
theorem d5_41 : decode jdk_52_method_21_code 41 = .ok (.goto (-38), 3) := by decide +kernel
theorem d5_44 : decode jdk_52_method_21_code 44 = .ok (.iload 4, 2) := by decide +kernel
theorem d5_46 : decode jdk_52_method_21_code 46 = .ok (.ireturn, 1) := by decide +kernel
theorem d6_0 : decode jdk_52_method_15_code 0 = .ok (.iload_n 1, 1) := by decide +kernel
theorem d6_1 : decode jdk_52_method_15_code 1 = .ok (.aload_n 0, 1) := by decide +kernel
theorem d6_2 : decode jdk_52_method_15_code 2 = .ok (.arraylength, 1) := by decide +kernel
theorem d6_3 : decode jdk_52_method_15_code 3 = .ok (.isub, 1) := by decide +kernel
theorem d6_4 : decode jdk_52_method_15_code 4 = .ok (.bipush 31, 2) := by decide +kernel
theorem d6_6 : decode jdk_52_method_15_code 6 = .ok (.iushr, 1) := by decide +kernel
theorem d6_7 : decode jdk_52_method_15_code 7 = .ok (.i2b, 1) := by decide +kernel
theorem d6_8 : decode jdk_52_method_15_code 8 = .ok (.ireturn, 1) := by decide +kernel
theorem d7_0 : decode prog_16_method_1_code 0 = .ok (.aload_n 0, 1) := by decide +kernel
theorem d7_1 : decode prog_16_method_1_code 1 = .ok (.invokespecial 1, 3) := by decide +kernel
theorem d7_4 : decode prog_16_method_1_code 4 = .ok (.aload_n 0, 1) := by decide +kernel
theorem d7_5 : decode prog_16_method_1_code 5 = .ok (.aload_n 1, 1) := by decide +kernel
theorem d7_6 : decode prog_16_method_1_code 6 = .ok (.putfield 7, 3) := by decide +kernel
theorem d7_9 : decode prog_16_method_1_code 9 = .ok (.aload_n 0, 1) := by decide +kernel
theorem d7_10 : decode prog_16_method_1_code 10 = .ok (.lload_n 2, 1) := by decide +kernel
theorem d7_11 : decode prog_16_method_1_code 11 = .ok (.putfield 13, 3) := by decide +kernel
theorem d7_14 : decode prog_16_method_1_code 14 = .ok (.aload_n 0, 1) := by decide +kernel
theorem d7_15 : decode prog_16_method_1_code 15 = .ok (.lload 4, 2) := by decide +kernel
theorem d7_17 : decode prog_16_method_1_code 17 = .ok (.putfield 17, 3) := by decide +kernel
theorem d7_20 : decode prog_16_method_1_code 20 = .ok (.return_, 1) := by decide +kernel
theorem d8_0 : decode prog_16_method_5_code 0 = .ok (.aload_n 1, 1) := by decide +kernel
theorem d8_1 : decode prog_16_method_5_code 1 = .ok (.instanceof 8, 3) := by decide +kernel
theorem d8_4 : decode prog_16_method_5_code 4 = .ok (.ifCond .ne 5, 3) := by decide +kernel
theorem d8_7 : decode prog_16_method_5_code 7 = .ok (.iconst 0, 1) := by decide +kernel
theorem d8_8 : decode prog_16_method_5_code 8 = .ok (.ireturn, 1) := by decide +kernel
theorem d8_9 : decode prog_16_method_5_code 9 = .ok (.aload_n 1, 1) := by decide +kernel
theorem d8_10 : decode prog_16_method_5_code 10 = .ok (.checkcast 8, 3) := by decide +kernel
theorem d8_13 : decode prog_16_method_5_code 13 = .ok (.astore_n 2, 1) := by decide +kernel
theorem d8_14 : decode prog_16_method_5_code 14 = .ok (.aload_n 0, 1) := by decide +kernel
theorem d8_15 : decode prog_16_method_5_code 15 = .ok (.getfield 7, 3) := by decide +kernel
theorem d8_18 : decode prog_16_method_5_code 18 = .ok (.aload_n 2, 1) := by decide +kernel
theorem d8_19 : decode prog_16_method_5_code 19 = .ok (.getfield 7, 3) := by decide +kernel
theorem d8_22 : decode prog_16_method_5_code 22 = .ok (.invokevirtual 20, 3) := by decide +kernel
theorem d8_25 : decode prog_16_method_5_code 25 = .ok (.ifCond .eq 31, 3) := by decide +kernel
theorem d8_28 : decode prog_16_method_5_code 28 = .ok (.aload_n 0, 1) := by decide +kernel
theorem d8_29 : decode prog_16_method_5_code 29 = .ok (.getfield 13, 3) := by decide +kernel
theorem d8_32 : decode prog_16_method_5_code 32 = .ok (.aload_n 2, 1) := by decide +kernel
theorem d8_33 : decode prog_16_method_5_code 33 = .ok (.getfield 13, 3) := by decide +kernel
theorem d8_36 : decode prog_16_method_5_code 36 = .ok (.lcmp, 1) := by decide +kernel
theorem d8_37 : decode prog_16_method_5_code 37 = .ok (.ifCond .ne 19, 3) := by decide +kernel
theorem d8_40 : decode prog_16_method_5_code 40 = .ok (.aload_n 0, 1) := by decide +kernel
theorem d8_41 : decode prog_16_method_5_code 41 = .ok (.getfield 17, 3) := by decide +kernel
theorem d8_44 : decode prog_16_method_5_code 44 = .ok (.aload_n 2, 1) := by decide +kernel
theorem d8_45 : decode prog_16_method_5_code 45 = .ok (.getfield 17, 3) := by decide +kernel
theorem d8_48 : decode prog_16_method_5_code 48 = .ok (.lcmp, 1) := by decide +kernel
theorem d8_49 : decode prog_16_method_5_code 49 = .ok (.ifCond .ne 7, 3) := by decide +kernel
theorem d8_52 : decode prog_16_method_5_code 52 = .ok (.iconst 1, 1) := by decide +kernel
theorem d8_53 : decode prog_16_method_5_code 53 = .ok (.goto 4, 3) := by decide +kernel
theorem d8_56 : decode prog_16_method_5_code 56 = .ok (.iconst 0, 1) := by decide +kernel
theorem d8_57 : decode prog_16_method_5_code 57 = .ok (.ireturn, 1) := by decide +kernel
theorem d9_0 : decode jdk_42_method_66_code 0 = .ok (.aload_n 0, 1) := by decide +kernel
theorem d9_1 : decode jdk_42_method_66_code 1 = .ok (.aload_n 1, 1) := by decide +kernel
theorem d9_2 : decode jdk_42_method_66_code 2 = .ok (.if_acmp .ne 5, 3) := by decide +kernel
theorem d9_7 : decode jdk_42_method_66_code 7 = .ok (.aload_n 1, 1) := by decide +kernel
theorem d9_8 : decode jdk_42_method_66_code 8 = .ok (.instanceof 10, 3) := by decide +kernel
theorem d9_11 : decode jdk_42_method_66_code 11 = .ok (.ifCond .eq 43, 3) := by decide +kernel
theorem d9_14 : decode jdk_42_method_66_code 14 = .ok (.aload_n 1, 1) := by decide +kernel
theorem d9_15 : decode jdk_42_method_66_code 15 = .ok (.checkcast 10, 3) := by decide +kernel
theorem d9_18 : decode jdk_42_method_66_code 18 = .ok (.astore_n 2, 1) := by decide +kernel
theorem d9_19 : decode jdk_42_method_66_code 19 = .ok (.getstatic 38, 3) := by decide +kernel
theorem d9_22 : decode jdk_42_method_66_code 22 = .ok (.ifCond .eq 14, 3) := by decide +kernel
theorem d9_25 : decode jdk_42_method_66_code 25 = .ok (.aload_n 0, 1) := by decide +kernel
theorem d9_26 : decode jdk_42_method_66_code 26 = .ok (.getfield 15, 3) := by decide +kernel
theorem d9_29 : decode jdk_42_method_66_code 29 = .ok (.aload_n 2, 1) := by decide +kernel
theorem d9_30 : decode jdk_42_method_66_code 30 = .ok (.getfield 15, 3) := by decide +kernel
theorem d9_33 : decode jdk_42_method_66_code 33 = .ok (.if_icmp .ne 21, 3) := by decide +kernel
theorem d9_36 : decode jdk_42_method_66_code 36 = .ok (.aload_n 0, 1) := by decide +kernel
theorem d9_37 : decode jdk_42_method_66_code 37 = .ok (.getfield 9, 3) := by decide +kernel
theorem d9_40 : decode jdk_42_method_66_code 40 = .ok (.aload_n 2, 1) := by decide +kernel
theorem d9_41 : decode jdk_42_method_66_code 41 = .ok (.getfield 9, 3) := by decide +kernel
theorem d9_44 : decode jdk_42_method_66_code 44 = .ok (.invokestatic 541, 3) := by decide +kernel
theorem d9_47 : decode jdk_42_method_66_code 47 = .ok (.ifCond .eq 7, 3) := by decide +kernel
theorem d9_50 : decode jdk_42_method_66_code 50 = .ok (.iconst 1, 1) := by decide +kernel
theorem d9_51 : decode jdk_42_method_66_code 51 = .ok (.goto 4, 3) := by decide +kernel
theorem d9_54 : decode jdk_42_method_66_code 54 = .ok (.iconst 0, 1) := by decide +kernel
theorem d9_55 : decode jdk_42_method_66_code 55 = .ok (.ireturn, 1) := by decide +kernel
theorem d10_0 : decode jdk_43_method_13_code 0 = .ok (.aload_n 0, 1) := by decide +kernel
theorem d10_1 : decode jdk_43_method_13_code 1 = .ok (.arraylength, 1) := by decide +kernel
theorem d10_2 : decode jdk_43_method_13_code 2 = .ok (.aload_n 1, 1) := by decide +kernel
theorem d10_3 : decode jdk_43_method_13_code 3 = .ok (.arraylength, 1) := by decide +kernel
theorem d10_4 : decode jdk_43_method_13_code 4 = .ok (.if_icmp .ne 30, 3) := by decide +kernel
theorem d10_7 : decode jdk_43_method_13_code 7 = .ok (.iconst 0, 1) := by decide +kernel
theorem d10_8 : decode jdk_43_method_13_code 8 = .ok (.istore_n 2, 1) := by decide +kernel
theorem d10_9 : decode jdk_43_method_13_code 9 = .ok (.iload_n 2, 1) := by decide +kernel
theorem d10_10 : decode jdk_43_method_13_code 10 = .ok (.aload_n 0, 1) := by decide +kernel
theorem d10_11 : decode jdk_43_method_13_code 11 = .ok (.arraylength, 1) := by decide +kernel
theorem d10_12 : decode jdk_43_method_13_code 12 = .ok (.if_icmp .ge 20, 3) := by decide +kernel
theorem d10_15 : decode jdk_43_method_13_code 15 = .ok (.aload_n 0, 1) := by decide +kernel
theorem d10_16 : decode jdk_43_method_13_code 16 = .ok (.iload_n 2, 1) := by decide +kernel
theorem d10_17 : decode jdk_43_method_13_code 17 = .ok (.baload, 1) := by decide +kernel
theorem d10_18 : decode jdk_43_method_13_code 18 = .ok (.aload_n 1, 1) := by decide +kernel
theorem d10_19 : decode jdk_43_method_13_code 19 = .ok (.iload_n 2, 1) := by decide +kernel
theorem d10_20 : decode jdk_43_method_13_code 20 = .ok (.baload, 1) := by decide +kernel
theorem d10_21 : decode jdk_43_method_13_code 21 = .ok (.if_icmp .eq 5, 3) := by decide +kernel
theorem d10_24 : decode jdk_43_method_13_code 24 = .ok (.iconst 0, 1) := by decide +kernel
theorem d10_25 : decode jdk_43_method_13_code 25 = .ok (.ireturn, 1) := by decide +kernel
theorem d10_26 : decode jdk_43_method_13_code 26 = .ok (.iinc 2 1, 3) := by decide +kernel
theorem d10_29 : decode jdk_43_method_13_code 29 = .ok (.goto (-20), 3) := by decide +kernel
theorem d10_32 : decode jdk_43_method_13_code 32 = .ok (.iconst 1, 1) := by decide +kernel
theorem d10_33 : decode jdk_43_method_13_code 33 = .ok (.ireturn, 1) := by decide +kernel
theorem pn_0 : plainName "java/lang/StringUTF16" = true := by first | (simp [plainName, overriddenIn]; done) | decide +kernel
theorem pn_1 : plainName "java/lang/String" = true := by first | (simp [plainName, overriddenIn]; done) | decide +kernel
theorem pn_2 : plainName "java/lang/StringLatin1" = true := by first | (simp [plainName, overriddenIn]; done) | decide +kernel
theorem pn_3 : plainName "com/example/rankle/rankle/Standing" = true := by first | (simp [plainName, overriddenIn]; done) | decide +kernel
theorem pn_4 : plainName "com/example/rankle/rankle/StandingEqualsPinLaw" = true := by first | (simp [plainName, overriddenIn]; done) | decide +kernel
theorem pd_0 : parseMethodDescriptor "([CI[BII)I" = some ⟨[(.array .char), .int, (.array .byte), .int, .int], some .int⟩ := by decide +kernel
theorem pd_1 : parseMethodDescriptor "([CII)[B" = some ⟨[(.array .char), .int, .int], some (.array .byte)⟩ := by decide +kernel
theorem pd_2 : parseMethodDescriptor "([BI)B" = some ⟨[(.array .byte), .int], some .byte⟩ := by decide +kernel
theorem pd_3 : parseMethodDescriptor "([CIILjava/lang/Void;)V" = some ⟨[(.array .char), .int, .int, (.object "java/lang/Void")], none⟩ := by decide +kernel
theorem pd_4 : parseMethodDescriptor "([B[B)Z" = some ⟨[(.array .byte), (.array .byte)], some .boolean⟩ := by decide +kernel
theorem pd_5 : parseMethodDescriptor "(Ljava/lang/Object;)Z" = some ⟨[(.object "java/lang/Object")], some .boolean⟩ := by decide +kernel
theorem pd_6 : parseMethodDescriptor "([C)V" = some ⟨[(.array .char)], none⟩ := by decide +kernel
theorem pd_7 : parseMethodDescriptor "(Ljava/lang/String;JJ)V" = some ⟨[(.object "java/lang/String"), .long, .long], none⟩ := by decide +kernel
theorem ef_rmC2_2 (m : MethodId) (x0 : Addr) (x1 : Int32) (x2 : Addr) (x3 : Int32) (x4 : Int32) : entryFrame m #[(.ref x0), (.int x1), (.ref x2), (.int x3), (.int x4)] 7 = mkF m 0 #[.val (.ref x0), .val (.int x1), .val (.ref x2), .val (.int x3), .val (.int x4), .unset, .unset] [] := by first | (simp [entryFrame, mkF, argsToLocals, Value.category]; done) | rfl
theorem ef_rmC1_2 (m : MethodId) (x0 : Addr) (x1 : Int32) (x2 : Int32) : entryFrame m #[(.ref x0), (.int x1), (.int x2)] 6 = mkF m 0 #[.val (.ref x0), .val (.int x1), .val (.int x2), .unset, .unset, .unset] [] := by first | (simp [entryFrame, mkF, argsToLocals, Value.category]; done) | rfl
theorem ef_rmCo_2 (m : MethodId) (x0 : Addr) (x1 : Int32) : entryFrame m #[(.ref x0), (.int x1)] 2 = mkF m 0 #[.val (.ref x0), .val (.int x1)] [] := by first | (simp [entryFrame, mkF, argsToLocals, Value.category]; done) | rfl
theorem ef_rmS4_2 (m : MethodId) (x0 : Addr) (x1 : Addr) (x2 : Int32) (x3 : Int32) : entryFrame m #[(.ref x0), (.ref x1), (.int x2), (.int x3), .null] 6 = mkF m 0 #[.val (.ref x0), .val (.ref x1), .val (.int x2), .val (.int x3), .val .null, .unset] [] := by first | (simp [entryFrame, mkF, argsToLocals, Value.category]; done) | rfl
theorem ef_rmS1_2 (m : MethodId) (x0 : Addr) (x1 : Addr) : entryFrame m #[(.ref x0), (.ref x1)] 2 = mkF m 0 #[.val (.ref x0), .val (.ref x1)] [] := by first | (simp [entryFrame, mkF, argsToLocals, Value.category]; done) | rfl
theorem ef_rmLE_2_2 (m : MethodId) (x0 : Addr) (x1 : Addr) : entryFrame m #[(.ref x0), (.ref x1)] 3 = mkF m 0 #[.val (.ref x0), .val (.ref x1), .unset] [] := by first | (simp [entryFrame, mkF, argsToLocals, Value.category]; done) | rfl
theorem ef_rmEq_2_2 (m : MethodId) (x0 : Addr) (x1 : Addr) : entryFrame m #[(.ref x0), (.ref x1)] 3 = mkF m 0 #[.val (.ref x0), .val (.ref x1), .unset] [] := by first | (simp [entryFrame, mkF, argsToLocals, Value.category]; done) | rfl
theorem ef_rm7 (m : MethodId) (x0 : Addr) (x1 : Addr) (x2 : Int64) (x3 : Int64) : entryFrame m #[(.ref x0), (.ref x1), (.long x2), (.long x3)] 6 = mkF m 0 #[.val (.ref x0), .val (.ref x1), .val (.long x2), .second, .val (.long x3), .second] [] := by first | (simp [entryFrame, mkF, argsToLocals, Value.category]; done) | rfl
theorem ef_rm8_n (m : MethodId) (x0 : Addr) : entryFrame m #[(.ref x0), .null] 3 = mkF m 0 #[.val (.ref x0), .val .null, .unset] [] := by first | (simp [entryFrame, mkF, argsToLocals, Value.category]; done) | rfl
theorem ef_rm8_s (m : MethodId) (x0 : Addr) (x1 : Addr) : entryFrame m #[(.ref x0), (.ref x1)] 3 = mkF m 0 #[.val (.ref x0), .val (.ref x1), .unset] [] := by first | (simp [entryFrame, mkF, argsToLocals, Value.category]; done) | rfl
theorem ef_rm8_t (m : MethodId) (x0 : Addr) (x1 : Addr) : entryFrame m #[(.ref x0), (.ref x1)] 3 = mkF m 0 #[.val (.ref x0), .val (.ref x1), .unset] [] := by first | (simp [entryFrame, mkF, argsToLocals, Value.category]; done) | rfl
theorem ef_rm0 (m : MethodId) (x0 : Int32) (x1 : Int32) (x2 : Int64) (x3 : Int64) (x4 : Int64) (x5 : Int64) : entryFrame m #[(.int x0), (.int x1), (.long x2), (.long x3), (.long x4), (.long x5)] maxLocals = mkF m 0 #[.val (.int x0), .val (.int x1), .val (.long x2), .second, .val (.long x3), .second, .val (.long x4), .second, .val (.long x5), .second, .unset, .unset, .unset, .unset, .unset, .unset, .unset, .unset, .unset, .unset, .unset, .unset, .unset, .unset] [] := by first | (simp [entryFrame, mkF, argsToLocals, Value.category, maxLocals]; done) | rfl
theorem own_i2c (x : Int32) (h0 : 0 ≤ x.toInt) (h1 : x.toInt ≤ 65535) : x.toUInt32.toUInt16.toUInt32.toInt32 = x := by
  have h := c_i2c x
  exact Int32.toInt_inj.mp (by omega)
theorem own_narc (x : Int32) : nar .char x = x.toUInt32.toUInt16.toUInt32.toInt32 := rfl
theorem own_c8 (x : Int32) : ((x &&& (255 : Int32)).toUInt32.toUInt16.toUInt32.toInt32) = (x &&& (255 : Int32)) := by
  have h := c_and x (255 : Int32) (by decide)
  have h2 : (255 : Int32).toInt = 255 := rfl
  exact own_i2c _ h.1 (by omega)
theorem own_n8 (x : Int32) : nar .char (x &&& (255 : Int32)) = (x &&& (255 : Int32)) := own_c8 x
theorem own_nc {x : Int32} (h0 : ¬ (x < (0 : Int32))) (h1 : ¬ ((255 : Int32) < x)) : nar .char x = x := by
  have a0 : (0 : Int32).toInt = 0 := rfl
  have a1 : (255 : Int32).toInt = 255 := rfl
  rw [Int32.lt_iff_toInt_lt] at h0 h1
  exact own_i2c x (by omega) (by omega)
theorem own_ic {x : Int32} (h0 : ¬ (x < (0 : Int32))) (h1 : ¬ ((255 : Int32) < x)) : x.toUInt32.toUInt16.toUInt32.toInt32 = x := own_nc h0 h1
theorem own_ch8 (x : Int32) : nar .char (((x &&& (255 : Int32)).toUInt32.toUInt16.toUInt32.toInt32)) = (x &&& (255 : Int32)) := by
  have h := c_and x (255 : Int32) (by decide)
  have h2 : (255 : Int32).toInt = 255 := rfl
  rw [own_narc, own_i2c _ h.1 (by omega), own_i2c _ h.1 (by omega)]
theorem own_le255 (x : Int32) : ¬ ((255 : Int32) < (x &&& (255 : Int32))) := by
  have h := c_and x (255 : Int32) (by decide)
  rw [Int32.lt_iff_toInt_lt]; omega
theorem own_ge0 (x : Int32) : ¬ ((x &&& (255 : Int32)) < (0 : Int32)) := by
  have h := c_and x (255 : Int32) (by decide)
  have h2 : (0 : Int32).toInt = 0 := rfl
  rw [Int32.lt_iff_toInt_lt]; omega
theorem own_ob {c d : Int32} (c0 : ¬ (c < (0 : Int32))) (c1 : ¬ ((255 : Int32) < c)) (d0 : ¬ (d < (0 : Int32))) (d1 : ¬ ((255 : Int32) < d)) (h : nar .byte (c.toInt8.toInt32) = nar .byte (d.toInt8.toInt32)) : c = d := by
  have a0 : (0 : Int32).toInt = 0 := rfl
  have a1 : (255 : Int32).toInt = 255 := rfl
  rw [Int32.lt_iff_toInt_lt] at c0 c1 d0 d1
  have e : ∀ x : Int32, (nar .byte (x.toInt8.toInt32)).toInt = x.toInt.bmod 256 := fun x => by
    show (x.toInt8.toInt32.toInt8.toInt32).toInt = _
    rw [Int8.toInt_toInt32, Int32.toInt_toInt8, Int8.toInt_toInt32, Int32.toInt_toInt8]
    simp
  have q : (nar .byte (c.toInt8.toInt32)).toInt = (nar .byte (d.toInt8.toInt32)).toInt := by rw [h]
  rw [e, e] at q
  simp only [Int.bmod] at q
  apply Int32.toInt_inj.mp
  split at q <;> split at q <;> omega
theorem own_notInst {Z : State} {a0 : Array Value} {C S K : String} {n : Nat} (w : (Jvm.Cond.superclass C S).before a0 Z = true) (wr : (Jvm.Cond.noSuperclass S).before a0 Z = true) (wi : (Jvm.Cond.instantiable K n).before a0 Z = true) (h1 : C ≠ K) (h2 : S ≠ K) : ∃ c t, Z.vm.findClass C = some c ∧ Z.vm.findClass K = some t ∧ Z.vm.assignable c t = false := by
  obtain ⟨t, kt, g1, g2, g3, g4, -, -⟩ := Cond.instantiable_spec wi
  obtain ⟨r, kr, r1, r2, r3, -, -⟩ := Cond.noSuperclass_spec wr
  have hroot : NS Z S K := ⟨r, t, r1, g1, fun fuel => by
    have ne := ids_ne r1 g1 h2
    cases fuel with
    | zero => rfl
    | succ f => simp [Vm.isSubclassAux, ne, r2, r3]⟩
  obtain ⟨c, t', q1, q2, q3⟩ := NS.step w hroot h1
  cases g1.symm.trans q2
  obtain ⟨p, k, kp, s1, s2, s3, s4, s5, -, s7⟩ := Cond.superclass_spec q1 w
  have ne := ids_ne q1 g1 h1
  have g5 : kt.isInterface = false := by
    cases hq : kt.isInterface
    · rfl
    · rw [hq] at g4; simp at g4
  refine ⟨c, t, q1, g1, ?_⟩
  show Z.vm.assignableAux (255 + 1) c t = false
  simp [Vm.assignableAux, ne, s2, g2, s5, g3, g5, Vm.isSubclass, q3]
def Q_rmC2_2 (Z : State) (a1 a2 : Addr) (k1 k2 : ClassId) (c0 c1 : Int32) (h0 : Heap) (n0 : Nat) : Option Value → Heap → List Loc → Prop := fun v h L => v = some (.int (2 : Int32)) ∧ Fr n0 L ∧ Keep h0 h [a2] ∧ Arv Z h a2 k2 .byte (2 : Int32) [(.int (nar .byte (c0.toInt8.toInt32))), (.int (nar .byte (c1.toInt8.toInt32)))] (.int (0 : Int32))
set_option maxRecDepth 65536 in
set_option maxHeartbeats 40000000 in
theorem rmC2_2 (l : Launch) (Z : State) (a0 : Array Value) (hw : ∀ d ∈ tables_1, d.before a0 Z = true) (ws : List Jvm.Cond) (a1 a2 : Addr) (k1 k2 : ClassId) (c0 c1 : Int32) (h0 : Heap) (n0 : Nat) (O : Old Z n0 h0) (V_a1 : Arv Z h0 a1 k1 .char (2 : Int32) [(.int c0), (.int c1)] (.int (0 : Int32))) (V_a2 : Arv Z h0 a2 k2 .byte (2 : Int32) [(.int (0 : Int32)), (.int (0 : Int32))] (.int (0 : Int32))) (g_a2 : n0 ≤ a2) (ne_a1_a2 : a1 ≠ a2) (hb0 : ¬ ((255 : Int32) < c0)) (hb1 : ¬ ((255 : Int32) < c1)) :
    MetFree l (⟨"java/lang/StringUTF16", "compress", "([CI[BII)I"⟩ : MethodName) (head1 (Jvm.Cond.code (⟨"java/lang/StringUTF16", "compress", "([CI[BII)I"⟩ : MethodName) jdk_52_method_21_code 7 (some .int) :: ws) ({ frames := 0, cells := 0, slots := 0, locals := 0 } : Room)) (fun a U => a = #[(.ref a1), (.int (0 : Int32)), (.ref a2), (.int (0 : Int32)), (.int (2 : Int32))] ∧ Z.Warmed39 U.vm ∧ U.heap = h0) (fun _ _ _ _ _ => True) (fun _ U o U' => ∃ v L, o = .returned v ∧ (Q_rmC2_2 Z a1 a2 k1 k2 c0 c1 h0 n0) v U'.heap L ∧ FrameEnd U o U' L ({ frames := 0, cells := 0, slots := 0, locals := 0 } : Room).cells ({ frames := 0, cells := 0, slots := 0, locals := 0 } : Room).slots) := by
  refine MetFree.of_bodySF (plainFor_of_name pn_0) hisR ?_
  intro p e s m args below meth c s₁ Bd hml0 hP hK
  obtain ⟨rfl, hZ, hh⟩ := hP
  have hx := Bd.exec
  have hby := Bd.bytes
  have hml : c.maxLocals = 7 := hml0
  have hown : s.vm.findClass "java/lang/StringUTF16" = some m.cls := findClass_of_methodNamed Bd.named
  have hnm := (name_of_methodNamed Bd.named Bd.method).1
  have hlk := BodyLoose.notSynchronized Bd
  have X0 : Stand p l e ({ frames := 0, cells := 0, slots := 0, locals := 0 } : Room) s m #[(.ref a1), (.int (0 : Int32)), (.ref a2), (.int (0 : Int32)), (.int (2 : Int32))] below meth c s₁ [] 0 0 := Stand.of_body Bd
  have e0 : s₁.heap = h0 := by rw [← hh, Bd.state]; rfl
  have N := Fr.nil n0
  have K := Keep.refl h0 [a2]
  obtain ⟨G, hG⟩ : ∃ G : State → JFrame → Prop, G = OwnG p e below s ({ frames := 0, cells := 0, slots := 0, locals := 0 } : Room).cells ({ frames := 0, cells := 0, slots := 0, locals := 0 } : Room).slots (Q_rmC2_2 Z a1 a2 k1 k2 c0 c1 h0 n0) := ⟨_, rfl⟩
  have gb : ∀ {T T' : State} {g g' : JFrame}, (∀ t, Steps p.tables e below (T'.setTop g') t → Steps p.tables e below (T.setTop g) t) → G T' g' → G T g := by subst hG; exact fun k h => own_by k h
  have go : ∀ {T : State} {locs : List Loc} {cells slots : Nat} {g : JFrame} {v : Option Value}, Stand p l e ({ frames := 0, cells := 0, slots := 0, locals := 0 } : Room) s m #[(.ref a1), (.int (0 : Int32)), (.ref a2), (.int (0 : Int32)), (.int (2 : Int32))] below meth c T locs cells slots → (meth.sig.returnType = none → v = none) → (∀ fs, (∀ (f : JFrame) (acts : List Action), f.method = m → f.locked = none → f.entered = [] → (doReturn e (T.setTop f) acts v).1 = T.setFrames fs) → Steps p.tables e below (T.setTop g) (T.setFrames fs)) → (Q_rmC2_2 Z a1 a2 k1 k2 c0 c1 h0 n0) v T.heap locs → cells ≤ ({ frames := 0, cells := 0, slots := 0, locals := 0 } : Room).cells → slots ≤ ({ frames := 0, cells := 0, slots := 0, locals := 0 } : Room).slots → G T g := by subst hG; exact fun X h1 h2 h3 h4 h5 => own_out X hlk h1 h2 h3 h4 h5
  show OwnG p e below s ({ frames := 0, cells := 0, slots := 0, locals := 0 } : Room).cells ({ frames := 0, cells := 0, slots := 0, locals := 0 } : Room).slots (Q_rmC2_2 Z a1 a2 k1 k2 c0 c1 h0 n0) s₁ (entryFrame m #[(.ref a1), (.int (0 : Int32)), (.ref a2), (.int (0 : Int32)), (.int (2 : Int32))] 7)
  rw [← hG, ef_rmC2_2 m a1 (0 : Int32) a2 (0 : Int32) (2 : Int32)]
  clear hG
  show G s₁ (mkF m 0 #[.val (.ref a1), .val (.int (0 : Int32)), .val (.ref a2), .val (.int (0 : Int32)), .val (.int (2 : Int32)), .unset, .unset] [])
  refine gb (fun _ k => XS.iconst X0.here hx rfl (hb hby d5_0) (XS.istore X0.here hx rfl (hb hby d5_1) rfl (l' := #[rv a1, iv 0, rv a2, iv 0, iv 2, iv 0, .unset]) rfl (XS.iload X0.here hx rfl (hb hby d5_3) rfl (XS.iload X0.here hx rfl (hb hby d5_5) rfl (XS.icmpNo X0.here hx rfl (hb hby d5_7) rfl (tlt (by decide : (0 : Int32) < (2 : Int32))).2.1 (XS.aloadN X0.here hx rfl (hb hby d5_10) rfl rfl k)))))) ?_
  show G s₁ (mkF m 11 #[rv a1, iv 0, rv a2, iv 0, iv 2, iv 0, .unset] [.ref a1])
  refine gb (fun _ k => XS.iloadN X0.here hx rfl (hb hby d5_11) rfl k) ?_
  show G s₁ (mkF m 12 #[rv a1, iv 0, rv a2, iv 0, iv 2, iv 0, .unset] [.int 0, .ref a1])
  have V'1 := V_a1
  obtain ⟨cl1, Ar1, qk1, sz1, nn1, hs1, ft1⟩ := V'1
  have hin1 : ¬ ((0 : Int32) < 0 ∨ cl1.slots.size ≤ ((0 : Int32)).toNatClampNeg) := inb_of sz1 ⟨by decide, by decide⟩
  have hat1 : cl1.slots[((0 : Int32)).toNatClampNeg]? = some (.int c0) := hs1.at hin1 rfl
  refine gb (X0.caload hx (j := (0 : Int32)) (v := (.int c0)) (by rw [e0]; exact Ar1.1) (State.isArrayOf_alike hZ.alike Ar1.2.1) Ar1.2.2 hin1 hat1 (g := (mkF m 12 #[rv a1, iv 0, rv a2, iv 0, iv 2, iv 0, .unset] [.int 0, .ref a1])) rfl rfl (hb hby d5_12)) ?_
  show G s₁ (mkF m 13 #[rv a1, iv 0, rv a2, iv 0, iv 2, iv 0, .unset] [.int c0])
  refine gb (fun _ k => XS.istore X0.here hx rfl (hb hby d5_13) rfl (l' := #[rv a1, iv 0, rv a2, iv 0, iv 2, iv 0, iv c0]) rfl (XS.iload X0.here hx rfl (hb hby d5_15) rfl (XS.sipush X0.here hx rfl (hb hby d5_17) (XS.icmpYes X0.here hx rfl (pc0 := 20) (pc' := 26) rfl (hb hby d5_20) rfl (flt hb0).2.2.2 (by decide) (by decide) (XS.aloadN X0.here hx rfl (hb hby d5_26) rfl rfl (XS.iloadN X0.here hx rfl (hb hby d5_27) rfl k)))))) ?_
  show G s₁ (mkF m 28 #[rv a1, iv 0, rv a2, iv 0, iv 2, iv 0, iv c0] [.int 0, .ref a2])
  refine gb (fun _ k => XS.iload X0.here hx rfl (hb hby d5_28) rfl (XS.i2b X0.here hx rfl (hb hby d5_30) rfl k)) ?_
  show G s₁ (mkF m 31 #[rv a1, iv 0, rv a2, iv 0, iv 2, iv 0, iv c0] [.int (c0.toInt8.toInt32), .int 0, .ref a2])
  have V'2 := V_a2
  obtain ⟨cl2, Ar2, qk2, sz2, nn2, hs2, ft2⟩ := V'2
  have hin2 : ¬ ((0 : Int32) < 0 ∨ cl2.slots.size ≤ ((0 : Int32)).toNatClampNeg) := inb_of sz2 ⟨by decide, by decide⟩
  obtain ⟨T3, h3, X3, e3, W3, st3⟩ := stB X0 hx hZ e0 Ar2 (j := (0 : Int32)) hin2 (g := (mkF m 31 #[rv a1, iv 0, rv a2, iv 0, iv 2, iv 0, iv c0] [.int (c0.toInt8.toInt32), .int 0, .ref a2])) rfl rfl (hb hby d5_31)
  have V_a2 : Arv Z h3 a2 k2 .byte (2 : Int32) [(.int (nar .byte (c0.toInt8.toInt32))), (.int (0 : Int32))] (.int (0 : Int32)) := Arv.set Ar2 qk2 sz2 nn2 hs2 ft2 (fits_nar_byte _) W3 0 rfl (Nat.le_of_ble_eq_true rfl)
  have V_a1 := V_a1.other W3 ne_a1_a2
  have O := O.wr W3 g_a2
  have K := K.wr W3 (Or.inl (List.mem_of_getElem? (i := 0) rfl))
  have N := Fr.snoc X3 N g_a2
  refine gb st3 ?_
  show G T3 (mkF m 32 #[rv a1, iv 0, rv a2, iv 0, iv 2, iv 0, iv c0] [])
  refine gb (fun _ k => XS.iinc X3.here hx rfl (hb hby d5_32) rfl (l' := #[rv a1, iv 1, rv a2, iv 0, iv 2, iv 0, iv c0]) rfl (XS.iinc X3.here hx rfl (hb hby d5_35) rfl (l' := #[rv a1, iv 1, rv a2, iv 1, iv 2, iv 0, iv c0]) rfl (XS.iinc X3.here hx rfl (hb hby d5_38) rfl (l' := #[rv a1, iv 1, rv a2, iv 1, iv 2, iv 1, iv c0]) rfl (XS.goto X3.here hx rfl (pc0 := 41) (pc' := 3) rfl (hb hby d5_41) (by decide) (by decide) (XS.iload X3.here hx rfl (hb hby d5_3) rfl (XS.iload X3.here hx rfl (hb hby d5_5) rfl k)))))) ?_
  show G T3 (mkF m 7 #[rv a1, iv 1, rv a2, iv 1, iv 2, iv 1, iv c0] [.int 2, .int 1])
  refine gb (fun _ k => XS.icmpNo X3.here hx rfl (hb hby d5_7) rfl (tlt (by decide : (1 : Int32) < (2 : Int32))).2.1 (XS.aloadN X3.here hx rfl (hb hby d5_10) rfl rfl (XS.iloadN X3.here hx rfl (hb hby d5_11) rfl k))) ?_
  show G T3 (mkF m 12 #[rv a1, iv 1, rv a2, iv 1, iv 2, iv 1, iv c0] [.int 1, .ref a1])
  have V'4 := V_a1
  obtain ⟨cl4, Ar4, qk4, sz4, nn4, hs4, ft4⟩ := V'4
  have hin4 : ¬ ((1 : Int32) < 0 ∨ cl4.slots.size ≤ ((1 : Int32)).toNatClampNeg) := inb_of sz4 ⟨by decide, by decide⟩
  have hat4 : cl4.slots[((1 : Int32)).toNatClampNeg]? = some (.int c1) := hs4.at hin4 rfl
  refine gb (X3.caload hx (j := (1 : Int32)) (v := (.int c1)) (by rw [e3]; exact Ar4.1) (State.isArrayOf_alike hZ.alike Ar4.2.1) Ar4.2.2 hin4 hat4 (g := (mkF m 12 #[rv a1, iv 1, rv a2, iv 1, iv 2, iv 1, iv c0] [.int 1, .ref a1])) rfl rfl (hb hby d5_12)) ?_
  show G T3 (mkF m 13 #[rv a1, iv 1, rv a2, iv 1, iv 2, iv 1, iv c0] [.int c1])
  refine gb (fun _ k => XS.istore X3.here hx rfl (hb hby d5_13) rfl (l' := #[rv a1, iv 1, rv a2, iv 1, iv 2, iv 1, iv c1]) rfl (XS.iload X3.here hx rfl (hb hby d5_15) rfl (XS.sipush X3.here hx rfl (hb hby d5_17) (XS.icmpYes X3.here hx rfl (pc0 := 20) (pc' := 26) rfl (hb hby d5_20) rfl (flt hb1).2.2.2 (by decide) (by decide) (XS.aloadN X3.here hx rfl (hb hby d5_26) rfl rfl (XS.iloadN X3.here hx rfl (hb hby d5_27) rfl k)))))) ?_
  show G T3 (mkF m 28 #[rv a1, iv 1, rv a2, iv 1, iv 2, iv 1, iv c1] [.int 1, .ref a2])
  refine gb (fun _ k => XS.iload X3.here hx rfl (hb hby d5_28) rfl (XS.i2b X3.here hx rfl (hb hby d5_30) rfl k)) ?_
  show G T3 (mkF m 31 #[rv a1, iv 1, rv a2, iv 1, iv 2, iv 1, iv c1] [.int (c1.toInt8.toInt32), .int 1, .ref a2])
  have V'5 := V_a2
  obtain ⟨cl5, Ar5, qk5, sz5, nn5, hs5, ft5⟩ := V'5
  have hin5 : ¬ ((1 : Int32) < 0 ∨ cl5.slots.size ≤ ((1 : Int32)).toNatClampNeg) := inb_of sz5 ⟨by decide, by decide⟩
  obtain ⟨T6, h6, X6, e6, W6, st6⟩ := stB X3 hx hZ e3 Ar5 (j := (1 : Int32)) hin5 (g := (mkF m 31 #[rv a1, iv 1, rv a2, iv 1, iv 2, iv 1, iv c1] [.int (c1.toInt8.toInt32), .int 1, .ref a2])) rfl rfl (hb hby d5_31)
  have V_a2 : Arv Z h6 a2 k2 .byte (2 : Int32) [(.int (nar .byte (c0.toInt8.toInt32))), (.int (nar .byte (c1.toInt8.toInt32)))] (.int (0 : Int32)) := Arv.set Ar5 qk5 sz5 nn5 hs5 ft5 (fits_nar_byte _) W6 1 rfl (Nat.le_of_ble_eq_true rfl)
  have V_a1 := V_a1.other W6 ne_a1_a2
  have O := O.wr W6 g_a2
  have K := K.wr W6 (Or.inl (List.mem_of_getElem? (i := 0) rfl))
  have N := Fr.snoc X6 N g_a2
  refine gb st6 ?_
  show G T6 (mkF m 32 #[rv a1, iv 1, rv a2, iv 1, iv 2, iv 1, iv c1] [])
  refine gb (fun _ k => XS.iinc X6.here hx rfl (hb hby d5_32) rfl (l' := #[rv a1, iv 2, rv a2, iv 1, iv 2, iv 1, iv c1]) rfl (XS.iinc X6.here hx rfl (hb hby d5_35) rfl (l' := #[rv a1, iv 2, rv a2, iv 2, iv 2, iv 1, iv c1]) rfl (XS.iinc X6.here hx rfl (hb hby d5_38) rfl (l' := #[rv a1, iv 2, rv a2, iv 2, iv 2, iv 2, iv c1]) rfl (XS.goto X6.here hx rfl (pc0 := 41) (pc' := 3) rfl (hb hby d5_41) (by decide) (by decide) (XS.iload X6.here hx rfl (hb hby d5_3) rfl (XS.iload X6.here hx rfl (hb hby d5_5) rfl k)))))) ?_
  show G T6 (mkF m 7 #[rv a1, iv 2, rv a2, iv 2, iv 2, iv 2, iv c1] [.int 2, .int 2])
  refine gb (fun _ k => XS.icmpYes X6.here hx rfl (pc0 := 7) (pc' := 44) rfl (hb hby d5_7) rfl (flt (by decide : ¬ ((2 : Int32) < (2 : Int32)))).2.1 (by decide) (by decide) (XS.iload X6.here hx rfl (hb hby d5_44) rfl k)) ?_
  show G T6 (mkF m 46 #[rv a1, iv 2, rv a2, iv 2, iv 2, iv 2, iv c1] [.int 2])
  exact go X6 (v := (some (.int (2 : Int32)))) (fun h => by rw [Bd.returns] at h; cases h) (fun fs hr => retOut X6 hx Bd.returns rfl (Or.inl ⟨rfl, by simp, _, rfl⟩) (hb hby d5_46) hr) (by rw [e6]; exact ⟨rfl, N, K, V_a2⟩) (by decide) (by decide)
def Q_rmC1_2 (Z : State) (a1 : Addr) (k1 : ClassId) (c0 c1 : Int32) (h0 : Heap) (n0 : Nat) : Option Value → Heap → List Loc → Prop := fun v h L => ∃ (b : Addr) (kb : ClassId), v = some (.ref b) ∧ Fr n0 L ∧ Keep h0 h [] ∧ n0 ≤ b ∧ h0.size ≤ b ∧ Arv Z h b kb .byte (2 : Int32) [(.int (nar .byte (c0.toInt8.toInt32))), (.int (nar .byte (c1.toInt8.toInt32)))] (.int (0 : Int32))
set_option maxRecDepth 65536 in
set_option maxHeartbeats 40000000 in
theorem rmC1_2 (l : Launch) (Z : State) (a0 : Array Value) (hw : ∀ d ∈ tables_1, d.before a0 Z = true) (ws : List Jvm.Cond) (a1 : Addr) (k1 : ClassId) (c0 c1 : Int32) (h0 : Heap) (n0 : Nat) (O : Old Z n0 h0) (V_a1 : Arv Z h0 a1 k1 .char (2 : Int32) [(.int c0), (.int c1)] (.int (0 : Int32))) (hb0 : ¬ ((255 : Int32) < c0)) (hb1 : ¬ ((255 : Int32) < c1)) :
    MetFree l (⟨"java/lang/StringUTF16", "compress", "([CII)[B"⟩ : MethodName) (head1 (Jvm.Cond.code (⟨"java/lang/StringUTF16", "compress", "([CII)[B"⟩ : MethodName) jdk_52_method_16_code 6 (some (.array .byte)) :: ws) ({ frames := 1, cells := 1, slots := 2, locals := 18 } : Room)) (fun a U => a = #[(.ref a1), (.int (0 : Int32)), (.int (2 : Int32))] ∧ Z.Warmed39 U.vm ∧ U.heap = h0) (fun _ _ _ _ _ => True) (fun _ U o U' => ∃ v L, o = .returned v ∧ (Q_rmC1_2 Z a1 k1 c0 c1 h0 n0) v U'.heap L ∧ FrameEnd U o U' L ({ frames := 1, cells := 1, slots := 2, locals := 18 } : Room).cells ({ frames := 1, cells := 1, slots := 2, locals := 18 } : Room).slots) := by
  refine MetFree.of_bodySF (plainFor_of_name pn_0) hisR ?_
  intro p e s m args below meth c s₁ Bd hml0 hP hK
  obtain ⟨rfl, hZ, hh⟩ := hP
  have hx := Bd.exec
  have hby := Bd.bytes
  have hml : c.maxLocals = 6 := hml0
  have hown : s.vm.findClass "java/lang/StringUTF16" = some m.cls := findClass_of_methodNamed Bd.named
  have hnm := (name_of_methodNamed Bd.named Bd.method).1
  have hlk := BodyLoose.notSynchronized Bd
  have X0 : Stand p l e ({ frames := 1, cells := 1, slots := 2, locals := 18 } : Room) s m #[(.ref a1), (.int (0 : Int32)), (.int (2 : Int32))] below meth c s₁ [] 0 0 := Stand.of_body Bd
  have e0 : s₁.heap = h0 := by rw [← hh, Bd.state]; rfl
  have N := Fr.nil n0
  have K := Keep.refl h0 []
  obtain ⟨G, hG⟩ : ∃ G : State → JFrame → Prop, G = OwnG p e below s ({ frames := 1, cells := 1, slots := 2, locals := 18 } : Room).cells ({ frames := 1, cells := 1, slots := 2, locals := 18 } : Room).slots (Q_rmC1_2 Z a1 k1 c0 c1 h0 n0) := ⟨_, rfl⟩
  have gb : ∀ {T T' : State} {g g' : JFrame}, (∀ t, Steps p.tables e below (T'.setTop g') t → Steps p.tables e below (T.setTop g) t) → G T' g' → G T g := by subst hG; exact fun k h => own_by k h
  have go : ∀ {T : State} {locs : List Loc} {cells slots : Nat} {g : JFrame} {v : Option Value}, Stand p l e ({ frames := 1, cells := 1, slots := 2, locals := 18 } : Room) s m #[(.ref a1), (.int (0 : Int32)), (.int (2 : Int32))] below meth c T locs cells slots → (meth.sig.returnType = none → v = none) → (∀ fs, (∀ (f : JFrame) (acts : List Action), f.method = m → f.locked = none → f.entered = [] → (doReturn e (T.setTop f) acts v).1 = T.setFrames fs) → Steps p.tables e below (T.setTop g) (T.setFrames fs)) → (Q_rmC1_2 Z a1 k1 c0 c1 h0 n0) v T.heap locs → cells ≤ ({ frames := 1, cells := 1, slots := 2, locals := 18 } : Room).cells → slots ≤ ({ frames := 1, cells := 1, slots := 2, locals := 18 } : Room).slots → G T g := by subst hG; exact fun X h1 h2 h3 h4 h5 => own_out X hlk h1 h2 h3 h4 h5
  show OwnG p e below s ({ frames := 1, cells := 1, slots := 2, locals := 18 } : Room).cells ({ frames := 1, cells := 1, slots := 2, locals := 18 } : Room).slots (Q_rmC1_2 Z a1 k1 c0 c1 h0 n0) s₁ (entryFrame m #[(.ref a1), (.int (0 : Int32)), (.int (2 : Int32))] 6)
  rw [← hG, ef_rmC1_2 m a1 (0 : Int32) (2 : Int32)]
  clear hG
  show G s₁ (mkF m 0 #[.val (.ref a1), .val (.int (0 : Int32)), .val (.int (2 : Int32)), .unset, .unset, .unset] [])
  refine gb (fun _ k => XS.iloadN X0.here hx rfl (hb hby d4_0) rfl k) ?_
  show G s₁ (mkF m 1 #[rv a1, iv 0, iv 2, .unset, .unset, .unset] [.int 2])
  obtain ⟨T1, h1, kA1, X1, e1, E1, A1, st1⟩ := newP X0 hx hZ (ow hw 19 rfl) e0 (g := (mkF m 1 #[rv a1, iv 0, iv 2, .unset, .unset, .unset] [.int 2])) rfl (hb hby d4_1) rfl (by decide) (cap := 2) (by decide) (by decide) (by decide) (by decide)
  obtain ⟨b1, g1⟩ : ∃ z, z = h0.size := ⟨_, rfl⟩
  rw [← g1] at A1 st1
  have g_b1 : n0 ≤ b1 := Nat.le_trans (by have := O.2.1; rw [O.1] at this; exact this) (Nat.le_of_eq g1.symm)
  have sz_b1 : h0.size ≤ b1 := Nat.le_trans K.1 (Nat.le_of_eq g1.symm)
  have ne_a1_b1 : a1 ≠ b1 := Nat.ne_of_lt (Nat.lt_of_lt_of_le V_a1.lt (Nat.le_of_eq g1.symm))
  have V_a1 := V_a1.ext E1
  have O := O.ext E1
  have K := K.ext E1
  have V_b1 : Arv Z h1 b1 kA1 .byte (2 : Int32) [(.int (0 : Int32)), (.int (0 : Int32))] (.int (0 : Int32)) := (Arv.new A1 (by decide)).pad (pad_rep [] (.int (0 : Int32)) 2)
  refine gb st1 ?_
  show G T1 (mkF m 3 #[rv a1, iv 0, iv 2, .unset, .unset, .unset] [.ref b1])
  refine gb (fun _ k => XS.astoreN X1.here hx rfl (hb hby d4_3) rfl rfl (l' := #[rv a1, iv 0, iv 2, rv b1, .unset, .unset]) rfl (XS.aloadN X1.here hx rfl (hb hby d4_4) rfl rfl (XS.iloadN X1.here hx rfl (hb hby d4_5) rfl (XS.aloadN X1.here hx rfl (hb hby d4_6) rfl rfl (XS.iconst X1.here hx rfl (hb hby d4_7) (XS.iloadN X1.here hx rfl (hb hby d4_8) rfl k)))))) ?_
  show G T1 (mkF m 9 #[rv a1, iv 0, iv 2, rv b1, .unset, .unset] [.int 2, .int 0, .ref b1, .int 0, .ref a1])
  obtain ⟨_, _, ⟨T2, Lz2, kz2, nz2⟩, -, X2, ⟨Lc2, hQ2, lq2, yq2, zq2⟩, st2⟩ := Jvm.LawKit.callS X1 hx (y := (⟨"java/lang/StringUTF16", "compress", "([CI[BII)I"⟩ : MethodName)) hown (mvT hZ (ow hw 20 rfl)) (mvT hZ (ow hw 21 rfl)) (mvT hZ (ow hw 17 rfl)) (mvT hZ (ow hw 22 rfl)) (by decide) (backOf (W := 0) (rmC2_2 l Z a0 hw [] a1 b1 k1 kA1 c0 c1 h1 n0 O V_a1 V_b1 g_b1 ne_a1_b1 hb0 hb1) hZ (ow hw 22 rfl) (ow hw 17 rfl) (by decide) (by decide)) (g := (mkF m 9 #[rv a1, iv 0, iv 2, rv b1, .unset, .unset] [.int 2, .int 0, .ref b1, .int 0, .ref a1])) rfl (by rw [hml]; rfl) (argsL := [(.ref a1), (.int (0 : Int32)), (.ref b1), (.int (0 : Int32)), (.int (2 : Int32))]) (rest := []) (lenOf pd_0 rfl) rfl (by show 2 * 0 + _ ≤ _; exact Nat.le_of_eq rfl) (hb hby d4_9) (fun _ _ => ⟨rfl, e1, (by decide : 1 + 0 ≤ _), (by decide : 2 + 0 ≤ _)⟩)
  dsimp only [Pt.U, Pt.locs, Pt.cells, Pt.slots] at X2 lq2 yq2 zq2 st2 hQ2
  subst lq2 yq2 zq2
  obtain ⟨h2, e2⟩ : ∃ z, z = T2.heap := ⟨_, rfl⟩
  rw [← e2] at hQ2
  replace e2 := e2.symm
  obtain ⟨rfl, Nq2, Kq2, hR2⟩ := hQ2
  have N := Fr.app N Nq2
  have V_a1 := V_a1.keep Kq2 (ninS ne_a1_b1 nin0)
  have V_b1 := hR2
  have O := O.keep Kq2 (allS g_b1 all0)
  have K := K.trans Kq2 (allS (Or.inr sz_b1) all0)
  refine gb st2 ?_
  show G T2 (mkF m 12 #[rv a1, iv 0, iv 2, rv b1, .unset, .unset] [.int 2])
  refine gb (fun _ k => XS.istore X2.here hx rfl (hb hby d4_12) rfl (l' := #[rv a1, iv 0, iv 2, rv b1, iv 2, .unset]) rfl (XS.iload X2.here hx rfl (hb hby d4_14) rfl (XS.iloadN X2.here hx rfl (hb hby d4_16) rfl (XS.icmpYes X2.here hx rfl (pc0 := 17) (pc' := 57) rfl (hb hby d4_17) rfl (teq (by decide : (2 : Int32) = (2 : Int32))).1 (by decide) (by decide) (XS.aloadN X2.here hx rfl (hb hby d4_57) rfl rfl k))))) ?_
  show G T2 (mkF m 58 #[rv a1, iv 0, iv 2, rv b1, iv 2, .unset] [.ref b1])
  exact go X2 (v := (some (.ref b1))) (fun h => by rw [Bd.returns] at h; cases h) (fun fs hr => retOut X2 hx Bd.returns rfl (Or.inr (Or.inr (Or.inr (Or.inr ⟨rfl, rfl, rfl⟩)))) (hb hby d4_58) hr) (by rw [e2]; exact ⟨_, _, rfl, N, K, g_b1, sz_b1, V_b1⟩) (by decide) (by decide)
def Q_rmCo_2 (Z : State) (a1 : Addr) (k1 : ClassId) (vs1 : List Value) (h0 : Heap) (n0 : Nat) : Option Value → Heap → List Loc → Prop := fun v h L => v = some (.int (0 : Int32)) ∧ L = [] ∧ h = h0
set_option maxRecDepth 65536 in
set_option maxHeartbeats 40000000 in
theorem rmCo_2 (l : Launch) (Z : State) (a0 : Array Value) (hw : ∀ d ∈ tables_1, d.before a0 Z = true) (ws : List Jvm.Cond) (a1 : Addr) (k1 : ClassId) (vs1 : List Value) (h0 : Heap) (n0 : Nat) (O : Old Z n0 h0) (V_a1 : Arv Z h0 a1 k1 .byte (2 : Int32) vs1 (.int (0 : Int32))) :
    MetFree l (⟨"java/lang/StringUTF16", "coderFromArrayLen", "([BI)B"⟩ : MethodName) (head1 (Jvm.Cond.code (⟨"java/lang/StringUTF16", "coderFromArrayLen", "([BI)B"⟩ : MethodName) jdk_52_method_15_code 2 (some .byte) :: ws) ({ frames := 0, cells := 0, slots := 0, locals := 0 } : Room)) (fun a U => a = #[(.ref a1), (.int (2 : Int32))] ∧ Z.Warmed39 U.vm ∧ U.heap = h0) (fun _ _ _ _ _ => True) (fun _ U o U' => ∃ v L, o = .returned v ∧ (Q_rmCo_2 Z a1 k1 vs1 h0 n0) v U'.heap L ∧ FrameEnd U o U' L ({ frames := 0, cells := 0, slots := 0, locals := 0 } : Room).cells ({ frames := 0, cells := 0, slots := 0, locals := 0 } : Room).slots) := by
  refine MetFree.of_bodySF (plainFor_of_name pn_0) hisR ?_
  intro p e s m args below meth c s₁ Bd hml0 hP hK
  obtain ⟨rfl, hZ, hh⟩ := hP
  have hx := Bd.exec
  have hby := Bd.bytes
  have hml : c.maxLocals = 2 := hml0
  have hown : s.vm.findClass "java/lang/StringUTF16" = some m.cls := findClass_of_methodNamed Bd.named
  have hnm := (name_of_methodNamed Bd.named Bd.method).1
  have hlk := BodyLoose.notSynchronized Bd
  have X0 : Stand p l e ({ frames := 0, cells := 0, slots := 0, locals := 0 } : Room) s m #[(.ref a1), (.int (2 : Int32))] below meth c s₁ [] 0 0 := Stand.of_body Bd
  have e0 : s₁.heap = h0 := by rw [← hh, Bd.state]; rfl
  have N := Fr.nil n0
  obtain ⟨G, hG⟩ : ∃ G : State → JFrame → Prop, G = OwnG p e below s ({ frames := 0, cells := 0, slots := 0, locals := 0 } : Room).cells ({ frames := 0, cells := 0, slots := 0, locals := 0 } : Room).slots (Q_rmCo_2 Z a1 k1 vs1 h0 n0) := ⟨_, rfl⟩
  have gb : ∀ {T T' : State} {g g' : JFrame}, (∀ t, Steps p.tables e below (T'.setTop g') t → Steps p.tables e below (T.setTop g) t) → G T' g' → G T g := by subst hG; exact fun k h => own_by k h
  have go : ∀ {T : State} {locs : List Loc} {cells slots : Nat} {g : JFrame} {v : Option Value}, Stand p l e ({ frames := 0, cells := 0, slots := 0, locals := 0 } : Room) s m #[(.ref a1), (.int (2 : Int32))] below meth c T locs cells slots → (meth.sig.returnType = none → v = none) → (∀ fs, (∀ (f : JFrame) (acts : List Action), f.method = m → f.locked = none → f.entered = [] → (doReturn e (T.setTop f) acts v).1 = T.setFrames fs) → Steps p.tables e below (T.setTop g) (T.setFrames fs)) → (Q_rmCo_2 Z a1 k1 vs1 h0 n0) v T.heap locs → cells ≤ ({ frames := 0, cells := 0, slots := 0, locals := 0 } : Room).cells → slots ≤ ({ frames := 0, cells := 0, slots := 0, locals := 0 } : Room).slots → G T g := by subst hG; exact fun X h1 h2 h3 h4 h5 => own_out X hlk h1 h2 h3 h4 h5
  show OwnG p e below s ({ frames := 0, cells := 0, slots := 0, locals := 0 } : Room).cells ({ frames := 0, cells := 0, slots := 0, locals := 0 } : Room).slots (Q_rmCo_2 Z a1 k1 vs1 h0 n0) s₁ (entryFrame m #[(.ref a1), (.int (2 : Int32))] 2)
  rw [← hG, ef_rmCo_2 m a1 (2 : Int32)]
  clear hG
  show G s₁ (mkF m 0 #[.val (.ref a1), .val (.int (2 : Int32))] [])
  refine gb (fun _ k => XS.iloadN X0.here hx rfl (hb hby d6_0) rfl (XS.aloadN X0.here hx rfl (hb hby d6_1) rfl rfl k)) ?_
  show G s₁ (mkF m 2 #[rv a1, iv 2] [.ref a1, .int 2])
  have V'1 := V_a1
  obtain ⟨cl1, Ar1, qk1, sz1, nn1, hs1, ft1⟩ := V'1
  refine gb (X0.arraylength hx (by rw [e0]; exact Ar1.1) (State.isArrayOf_alike hZ.alike Ar1.2.1) (g := (mkF m 2 #[rv a1, iv 2] [.ref a1, .int 2])) rfl rfl (hb hby d6_2)) ?_
  rw [len_of sz1 nn1]
  show G s₁ (mkF m 3 #[rv a1, iv 2] [.int 2, .int 2])
  refine gb (fun _ k => XS.isub X0.here hx rfl (hb hby d6_3) rfl (XS.bipush X0.here hx rfl (hb hby d6_4) (XS.iushr X0.here hx rfl (hb hby d6_6) rfl (XS.i2b X0.here hx rfl (hb hby d6_7) rfl k)))) ?_
  show G s₁ (mkF m 8 #[rv a1, iv 2] [.int 0])
  exact go X0 (v := (some (.int (0 : Int32)))) (fun h => by rw [Bd.returns] at h; cases h) (fun fs hr => retOut X0 hx Bd.returns rfl (Or.inl ⟨rfl, by simp, _, rfl⟩) (hb hby d6_8) hr) (⟨rfl, rfl, e0⟩) (by decide) (by decide)
def Q_rmS4_2 (Z : State) (a1 a2 : Addr) (k2 : ClassId) (c0 c1 : Int32) (h0 : Heap) (n0 : Nat) (zc : Int32) : Option Value → Heap → List Loc → Prop := fun v h L => ∃ (b : Addr) (kb : ClassId), v = none ∧ Fr n0 L ∧ Keep h0 h [a1] ∧ Exa Z h a1 "java/lang/String" ∧ Fld Z h a1 "java/lang/String" "coder" "B" (.int (0 : Int32)) ∧ Fld Z h a1 "java/lang/String" "value" "[B" (.ref b) ∧ n0 ≤ b ∧ h0.size ≤ b ∧ Arv Z h b kb .byte (2 : Int32) [(.int (nar .byte (c0.toInt8.toInt32))), (.int (nar .byte (c1.toInt8.toInt32)))] (.int (0 : Int32))
set_option maxRecDepth 65536 in
set_option maxHeartbeats 40000000 in
theorem rmS4_2 (l : Launch) (Z : State) (a0 : Array Value) (hw : ∀ d ∈ tables_1, d.before a0 Z = true) (ws : List Jvm.Cond) (a1 a2 : Addr) (k2 : ClassId) (c0 c1 : Int32) (h0 : Heap) (n0 : Nat) (O : Old Z n0 h0) (E_a1 : Exa Z h0 a1 "java/lang/String") (F_coder_a1 : Fld Z h0 a1 "java/lang/String" "coder" "B" (.int (0 : Int32))) (F_value_a1 : Fld Z h0 a1 "java/lang/String" "value" "[B" .null) (g_a1 : n0 ≤ a1) (V_a2 : Arv Z h0 a2 k2 .char (2 : Int32) [(.int c0), (.int c1)] (.int (0 : Int32))) (ne_a2_a1 : a2 ≠ a1) (hb0 : ¬ ((255 : Int32) < c0)) (hb1 : ¬ ((255 : Int32) < c1)) (zc : Int32) (S_cs : Sta Z Z.heap "java/lang/String" "COMPACT_STRINGS" "Z" (.int zc)) (hzc : ¬ zc = (0 : Int32)) :
    MetFree l (⟨"java/lang/String", "<init>", "([CIILjava/lang/Void;)V"⟩ : MethodName) (head1 (Jvm.Cond.code (⟨"java/lang/String", "<init>", "([CIILjava/lang/Void;)V"⟩ : MethodName) jdk_42_method_149_code 6 none :: ws) ({ frames := 2, cells := 1, slots := 2, locals := 35 } : Room)) (fun a U => a = #[(.ref a1), (.ref a2), (.int (0 : Int32)), (.int (2 : Int32)), .null] ∧ Z.Warmed39 U.vm ∧ U.heap = h0) (fun _ _ _ _ _ => True) (fun _ U o U' => ∃ v L, o = .returned v ∧ (Q_rmS4_2 Z a1 a2 k2 c0 c1 h0 n0 zc) v U'.heap L ∧ FrameEnd U o U' L ({ frames := 2, cells := 1, slots := 2, locals := 35 } : Room).cells ({ frames := 2, cells := 1, slots := 2, locals := 35 } : Room).slots) := by
  refine MetFree.of_bodySF (plainFor_of_name pn_1) hisR ?_
  intro p e s m args below meth c s₁ Bd hml0 hP hK
  obtain ⟨rfl, hZ, hh⟩ := hP
  have hx := Bd.exec
  have hby := Bd.bytes
  have hml : c.maxLocals = 6 := hml0
  have hown : s.vm.findClass "java/lang/String" = some m.cls := findClass_of_methodNamed Bd.named
  have hnm := (name_of_methodNamed Bd.named Bd.method).1
  have hlk := BodyLoose.notSynchronized Bd
  have X0 : Stand p l e ({ frames := 2, cells := 1, slots := 2, locals := 35 } : Room) s m #[(.ref a1), (.ref a2), (.int (0 : Int32)), (.int (2 : Int32)), .null] below meth c s₁ [] 0 0 := Stand.of_body Bd
  have e0 : s₁.heap = h0 := by rw [← hh, Bd.state]; rfl
  have N := Fr.nil n0
  have K := Keep.refl h0 [a1]
  obtain ⟨G, hG⟩ : ∃ G : State → JFrame → Prop, G = OwnG p e below s ({ frames := 2, cells := 1, slots := 2, locals := 35 } : Room).cells ({ frames := 2, cells := 1, slots := 2, locals := 35 } : Room).slots (Q_rmS4_2 Z a1 a2 k2 c0 c1 h0 n0 zc) := ⟨_, rfl⟩
  have gb : ∀ {T T' : State} {g g' : JFrame}, (∀ t, Steps p.tables e below (T'.setTop g') t → Steps p.tables e below (T.setTop g) t) → G T' g' → G T g := by subst hG; exact fun k h => own_by k h
  have go : ∀ {T : State} {locs : List Loc} {cells slots : Nat} {g : JFrame} {v : Option Value}, Stand p l e ({ frames := 2, cells := 1, slots := 2, locals := 35 } : Room) s m #[(.ref a1), (.ref a2), (.int (0 : Int32)), (.int (2 : Int32)), .null] below meth c T locs cells slots → (meth.sig.returnType = none → v = none) → (∀ fs, (∀ (f : JFrame) (acts : List Action), f.method = m → f.locked = none → f.entered = [] → (doReturn e (T.setTop f) acts v).1 = T.setFrames fs) → Steps p.tables e below (T.setTop g) (T.setFrames fs)) → (Q_rmS4_2 Z a1 a2 k2 c0 c1 h0 n0 zc) v T.heap locs → cells ≤ ({ frames := 2, cells := 1, slots := 2, locals := 35 } : Room).cells → slots ≤ ({ frames := 2, cells := 1, slots := 2, locals := 35 } : Room).slots → G T g := by subst hG; exact fun X h1 h2 h3 h4 h5 => own_out X hlk h1 h2 h3 h4 h5
  show OwnG p e below s ({ frames := 2, cells := 1, slots := 2, locals := 35 } : Room).cells ({ frames := 2, cells := 1, slots := 2, locals := 35 } : Room).slots (Q_rmS4_2 Z a1 a2 k2 c0 c1 h0 n0 zc) s₁ (entryFrame m #[(.ref a1), (.ref a2), (.int (0 : Int32)), (.int (2 : Int32)), .null] 6)
  rw [← hG, ef_rmS4_2 m a1 a2 (0 : Int32) (2 : Int32)]
  clear hG
  show G s₁ (mkF m 0 #[.val (.ref a1), .val (.ref a2), .val (.int (0 : Int32)), .val (.int (2 : Int32)), .val .null, .unset] [])
  refine gb (fun _ k => XS.aloadN X0.here hx rfl (hb hby d2_0) rfl rfl k) ?_
  show G s₁ (mkF m 1 #[rv a1, rv a2, iv 0, iv 2, .val .null, .unset] [.ref a1])
  obtain ⟨T1, X1, e1, st1⟩ := initO X0 hx hZ hown (ow hw 11 rfl) (ow hw 12 rfl) (ow hw 13 rfl) e0 (g := (mkF m 1 #[rv a1, rv a2, iv 0, iv 2, .val .null, .unset] [.ref a1])) rfl (by rw [hml]; rfl) rfl (hb hby d2_1) (by decide) (W := 0) (by show 2 * 0 + _ ≤ _; exact Nat.le_of_eq rfl) (by decide)
  refine gb st1 ?_
  show G T1 (mkF m 4 #[rv a1, rv a2, iv 0, iv 2, .val .null, .unset] [])
  refine gb (fun _ k => XS.iloadN X1.here hx rfl (hb hby d2_4) rfl (XS.ifYes X1.here hx rfl (pc0 := 5) (pc' := 27) rfl (hb hby d2_5) rfl ((if0 _ _).trans (feq (by decide : ¬ ((2 : Int32) = (0 : Int32)))).2) (by decide) (by decide) k)) ?_
  show G T1 (mkF m 27 #[rv a1, rv a2, iv 0, iv 2, .val .null, .unset] [])
  obtain ⟨T2, X2, e2, st2⟩ := getS2 X1 hx hZ hown (host := "") (Or.inl (ow hw 14 rfl)) Via.refl e1 (S_cs.ext O.2) (g := (mkF m 27 #[rv a1, rv a2, iv 0, iv 2, .val .null, .unset] [])) rfl (hb hby d2_27)
  refine gb st2 ?_
  show G T2 (mkF m 30 #[rv a1, rv a2, iv 0, iv 2, .val .null, .unset] [.int zc])
  refine gb (fun _ k => XS.ifNo X2.here hx rfl (hb hby d2_30) rfl ((if0 _ _).trans (feq hzc).1) (XS.aloadN X2.here hx rfl (hb hby d2_33) rfl rfl (XS.iloadN X2.here hx rfl (hb hby d2_34) rfl (XS.iloadN X2.here hx rfl (hb hby d2_35) rfl k)))) ?_
  show G T2 (mkF m 36 #[rv a1, rv a2, iv 0, iv 2, .val .null, .unset] [.int 2, .int 0, .ref a2])
  have lt_a1 := E_a1.lt
  have lt_a2 := V_a2.lt
  have szK := K.1
  obtain ⟨_, _, ⟨T3, Lz3, kz3, nz3⟩, -, X3, ⟨Lc3, hQ3, lq3, yq3, zq3⟩, st3⟩ := Jvm.LawKit.callS X2 hx (y := (⟨"java/lang/StringUTF16", "compress", "([CII)[B"⟩ : MethodName)) hown (mvT hZ (ow hw 15 rfl)) (mvT hZ (ow hw 16 rfl)) (mvT hZ (ow hw 17 rfl)) (mvT hZ (ow hw 18 rfl)) (by decide) (backOf (W := 0) (rmC1_2 l Z a0 hw [] a2 k2 c0 c1 h0 n0 O V_a2 hb0 hb1) hZ (ow hw 18 rfl) (ow hw 17 rfl) (by decide) (by decide)) (g := (mkF m 36 #[rv a1, rv a2, iv 0, iv 2, .val .null, .unset] [.int 2, .int 0, .ref a2])) rfl (by rw [hml]; rfl) (argsL := [(.ref a2), (.int (0 : Int32)), (.int (2 : Int32))]) (rest := []) (lenOf pd_1 rfl) rfl (by show 2 * 0 + _ ≤ _; exact Nat.le_of_eq rfl) (hb hby d2_36) (fun _ _ => ⟨rfl, e2, (by decide : 0 + 1 ≤ _), (by decide : 0 + 2 ≤ _)⟩)
  dsimp only [Pt.U, Pt.locs, Pt.cells, Pt.slots] at X3 lq3 yq3 zq3 st3 hQ3
  subst lq3 yq3 zq3
  obtain ⟨h3, e3⟩ : ∃ z, z = T3.heap := ⟨_, rfl⟩
  rw [← e3] at hQ3
  replace e3 := e3.symm
  obtain ⟨b3, kb3, rfl, Nq3, Kq3, hR3⟩ := hQ3
  have N := Fr.app N Nq3
  have E_a1 := E_a1.keep Kq3
  have F_coder_a1 := F_coder_a1.keep Kq3 nin0
  have F_value_a1 := F_value_a1.keep Kq3 nin0
  have V_a2 := V_a2.keep Kq3 nin0
  obtain ⟨g_b3, sz_b3, V_b3⟩ := hR3
  have O := O.keep Kq3 all0
  have K := K.trans Kq3 all0
  have ne_a1_b3 : a1 ≠ b3 := Nat.ne_of_lt (Nat.lt_of_lt_of_le lt_a1 sz_b3)
  have ne_a2_b3 : a2 ≠ b3 := Nat.ne_of_lt (Nat.lt_of_lt_of_le lt_a2 sz_b3)
  have sz_b3 := Nat.le_trans szK sz_b3
  refine gb st3 ?_
  show G T3 (mkF m 39 #[rv a1, rv a2, iv 0, iv 2, .val .null, .unset] [.ref b3])
  refine gb (fun _ k => XS.astore X3.here hx rfl (hb hby d2_39) rfl rfl (l' := #[rv a1, rv a2, iv 0, iv 2, .val .null, rv b3]) rfl (XS.aloadN X3.here hx rfl (hb hby d2_41) rfl rfl (XS.aload X3.here hx rfl (hb hby d2_42) rfl rfl (XS.iloadN X3.here hx rfl (hb hby d2_44) rfl k)))) ?_
  show G T3 (mkF m 45 #[rv a1, rv a2, iv 0, iv 2, .val .null, rv b3] [.int 2, .ref b3, .ref a1])
  obtain ⟨_, _, ⟨T4, Lz4, kz4, nz4⟩, -, X4, ⟨Lc4, hQ4, lq4, yq4, zq4⟩, st4⟩ := Jvm.LawKit.callS X3 hx (y := (⟨"java/lang/StringUTF16", "coderFromArrayLen", "([BI)B"⟩ : MethodName)) hown (mvT hZ (ow hw 23 rfl)) (mvT hZ (ow hw 24 rfl)) (mvT hZ (ow hw 17 rfl)) (mvT hZ (ow hw 25 rfl)) (by decide) (backOf (W := 1) (rmCo_2 l Z a0 hw [] b3 kb3 _ h3 n0 O V_b3) hZ (ow hw 25 rfl) (ow hw 17 rfl) (by decide) (by decide)) (g := (mkF m 45 #[rv a1, rv a2, iv 0, iv 2, .val .null, rv b3] [.int 2, .ref b3, .ref a1])) rfl (by rw [hml]; rfl) (argsL := [(.ref b3), (.int (2 : Int32))]) (rest := [(.ref a1)]) (lenOf pd_2 rfl) rfl (by show 2 * 0 + _ ≤ _; exact Nat.le_of_eq rfl) (hb hby d2_45) (fun _ _ => ⟨rfl, e3, (by decide : 1 + 0 ≤ _), (by decide : 2 + 0 ≤ _)⟩)
  dsimp only [Pt.U, Pt.locs, Pt.cells, Pt.slots] at X4 lq4 yq4 zq4 st4 hQ4
  subst lq4 yq4 zq4
  obtain ⟨rfl, rfl, e4⟩ := hQ4
  try rw [List.append_nil] at X4
  refine gb st4 ?_
  show G T4 (mkF m 48 #[rv a1, rv a2, iv 0, iv 2, .val .null, rv b3] [.int 0, .ref a1])
  obtain ⟨T5, h5, X5, e5, W5, st5⟩ := putFN X4 hx hZ hown (ow hw 26 rfl) Via.refl e4 F_coder_a1 E_a1 (Or.inr ⟨(ow hw 27 rfl), rfl, hnm⟩) (ow hw 1 rfl) (ty := .byte) (v' := (.int (0 : Int32))) (by decide) rfl (by decide) (g := (mkF m 48 #[rv a1, rv a2, iv 0, iv 2, .val .null, rv b3] [.int 0, .ref a1])) rfl rfl (hb hby d2_48)
  refine gb st5 ?_
  have F_coder_a1 := F_coder_a1.same W5
  have E_a1 := E_a1.wr W5
  have F_value_a1 := F_value_a1.other W5 (Or.inr (slot_ne (Or.inr (ow hw 29 rfl)) (Or.inr (ow hw 27 rfl)) (by decide) (t := (.array .byte)) (t' := .byte) (by decide) (by decide)))
  have V_a2 := V_a2.other W5 ne_a2_a1
  have V_b3 := V_b3.other W5 (Ne.symm ne_a1_b3)
  have O := O.wr W5 g_a1
  have K := K.wr W5 (Or.inl (List.mem_of_getElem? (i := 0) rfl))
  have N := Fr.snoc X5 N g_a1
  show G T5 (mkF m 51 #[rv a1, rv a2, iv 0, iv 2, .val .null, rv b3] [])
  refine gb (fun _ k => XS.aloadN X5.here hx rfl (hb hby d2_51) rfl rfl (XS.aload X5.here hx rfl (hb hby d2_52) rfl rfl k)) ?_
  show G T5 (mkF m 54 #[rv a1, rv a2, iv 0, iv 2, .val .null, rv b3] [.ref b3, .ref a1])
  obtain ⟨T6, h6, X6, e6, W6, st6⟩ := putF X5 hx hZ hown (host := "") (Or.inl (ow hw 28 rfl)) Via.refl e5 F_value_a1 E_a1 (Or.inr ⟨(ow hw 29 rfl), rfl, hnm⟩) (ow hw 1 rfl) (ty := (.array .byte)) (by decide) rfl rfl (g := (mkF m 54 #[rv a1, rv a2, iv 0, iv 2, .val .null, rv b3] [.ref b3, .ref a1])) rfl rfl (hb hby d2_54)
  refine gb st6 ?_
  have F_value_a1 := F_value_a1.same W6
  have E_a1 := E_a1.wr W6
  have V_a2 := V_a2.other W6 ne_a2_a1
  have V_b3 := V_b3.other W6 (Ne.symm ne_a1_b3)
  have F_coder_a1 := F_coder_a1.other W6 (Or.inr (slot_ne (Or.inr (ow hw 27 rfl)) (Or.inr (ow hw 29 rfl)) (by decide) (t := .byte) (t' := (.array .byte)) (by decide) (by decide)))
  have O := O.wr W6 g_a1
  have K := K.wr W6 (Or.inl (List.mem_of_getElem? (i := 0) rfl))
  have N := Fr.snoc X6 N g_a1
  show G T6 (mkF m 57 #[rv a1, rv a2, iv 0, iv 2, .val .null, rv b3] [])
  exact go X6 (v := none) (fun _ => rfl) (fun fs hr => X6.returnOut hx Bd.returns (hb hby d2_57) hr) (by rw [e6]; exact ⟨_, _, rfl, N, K, E_a1, F_coder_a1, F_value_a1, g_b3, sz_b3, V_b3⟩) (by decide) (by decide)
def Q_rmS1_2 (Z : State) (a1 a2 : Addr) (k2 : ClassId) (c0 c1 : Int32) (h0 : Heap) (n0 : Nat) (zc : Int32) : Option Value → Heap → List Loc → Prop := fun v h L => ∃ (b : Addr) (kb : ClassId), v = none ∧ Fr n0 L ∧ Keep h0 h [a1] ∧ Exa Z h a1 "java/lang/String" ∧ Fld Z h a1 "java/lang/String" "coder" "B" (.int (0 : Int32)) ∧ Fld Z h a1 "java/lang/String" "value" "[B" (.ref b) ∧ n0 ≤ b ∧ h0.size ≤ b ∧ Arv Z h b kb .byte (2 : Int32) [(.int (nar .byte (c0.toInt8.toInt32))), (.int (nar .byte (c1.toInt8.toInt32)))] (.int (0 : Int32))
set_option maxRecDepth 65536 in
set_option maxHeartbeats 40000000 in
theorem rmS1_2 (l : Launch) (Z : State) (a0 : Array Value) (hw : ∀ d ∈ tables_1, d.before a0 Z = true) (ws : List Jvm.Cond) (a1 a2 : Addr) (k2 : ClassId) (c0 c1 : Int32) (h0 : Heap) (n0 : Nat) (O : Old Z n0 h0) (E_a1 : Exa Z h0 a1 "java/lang/String") (F_coder_a1 : Fld Z h0 a1 "java/lang/String" "coder" "B" (.int (0 : Int32))) (F_value_a1 : Fld Z h0 a1 "java/lang/String" "value" "[B" .null) (g_a1 : n0 ≤ a1) (V_a2 : Arv Z h0 a2 k2 .char (2 : Int32) [(.int c0), (.int c1)] (.int (0 : Int32))) (ne_a2_a1 : a2 ≠ a1) (hb0 : ¬ ((255 : Int32) < c0)) (hb1 : ¬ ((255 : Int32) < c1)) (zc : Int32) (S_cs : Sta Z Z.heap "java/lang/String" "COMPACT_STRINGS" "Z" (.int zc)) (hzc : ¬ zc = (0 : Int32)) :
    MetFree l (⟨"java/lang/String", "<init>", "([C)V"⟩ : MethodName) (head1 (Jvm.Cond.code (⟨"java/lang/String", "<init>", "([C)V"⟩ : MethodName) jdk_42_method_3_code 2 none :: ws) ({ frames := 3, cells := 1, slots := 2, locals := 52 } : Room)) (fun a U => a = #[(.ref a1), (.ref a2)] ∧ Z.Warmed39 U.vm ∧ U.heap = h0) (fun _ _ _ _ _ => True) (fun _ U o U' => ∃ v L, o = .returned v ∧ (Q_rmS1_2 Z a1 a2 k2 c0 c1 h0 n0 zc) v U'.heap L ∧ FrameEnd U o U' L ({ frames := 3, cells := 1, slots := 2, locals := 52 } : Room).cells ({ frames := 3, cells := 1, slots := 2, locals := 52 } : Room).slots) := by
  refine MetFree.of_bodySF (plainFor_of_name pn_1) hisR ?_
  intro p e s m args below meth c s₁ Bd hml0 hP hK
  obtain ⟨rfl, hZ, hh⟩ := hP
  have hx := Bd.exec
  have hby := Bd.bytes
  have hml : c.maxLocals = 2 := hml0
  have hown : s.vm.findClass "java/lang/String" = some m.cls := findClass_of_methodNamed Bd.named
  have hnm := (name_of_methodNamed Bd.named Bd.method).1
  have hlk := BodyLoose.notSynchronized Bd
  have X0 : Stand p l e ({ frames := 3, cells := 1, slots := 2, locals := 52 } : Room) s m #[(.ref a1), (.ref a2)] below meth c s₁ [] 0 0 := Stand.of_body Bd
  have e0 : s₁.heap = h0 := by rw [← hh, Bd.state]; rfl
  have N := Fr.nil n0
  have K := Keep.refl h0 [a1]
  obtain ⟨G, hG⟩ : ∃ G : State → JFrame → Prop, G = OwnG p e below s ({ frames := 3, cells := 1, slots := 2, locals := 52 } : Room).cells ({ frames := 3, cells := 1, slots := 2, locals := 52 } : Room).slots (Q_rmS1_2 Z a1 a2 k2 c0 c1 h0 n0 zc) := ⟨_, rfl⟩
  have gb : ∀ {T T' : State} {g g' : JFrame}, (∀ t, Steps p.tables e below (T'.setTop g') t → Steps p.tables e below (T.setTop g) t) → G T' g' → G T g := by subst hG; exact fun k h => own_by k h
  have go : ∀ {T : State} {locs : List Loc} {cells slots : Nat} {g : JFrame} {v : Option Value}, Stand p l e ({ frames := 3, cells := 1, slots := 2, locals := 52 } : Room) s m #[(.ref a1), (.ref a2)] below meth c T locs cells slots → (meth.sig.returnType = none → v = none) → (∀ fs, (∀ (f : JFrame) (acts : List Action), f.method = m → f.locked = none → f.entered = [] → (doReturn e (T.setTop f) acts v).1 = T.setFrames fs) → Steps p.tables e below (T.setTop g) (T.setFrames fs)) → (Q_rmS1_2 Z a1 a2 k2 c0 c1 h0 n0 zc) v T.heap locs → cells ≤ ({ frames := 3, cells := 1, slots := 2, locals := 52 } : Room).cells → slots ≤ ({ frames := 3, cells := 1, slots := 2, locals := 52 } : Room).slots → G T g := by subst hG; exact fun X h1 h2 h3 h4 h5 => own_out X hlk h1 h2 h3 h4 h5
  show OwnG p e below s ({ frames := 3, cells := 1, slots := 2, locals := 52 } : Room).cells ({ frames := 3, cells := 1, slots := 2, locals := 52 } : Room).slots (Q_rmS1_2 Z a1 a2 k2 c0 c1 h0 n0 zc) s₁ (entryFrame m #[(.ref a1), (.ref a2)] 2)
  rw [← hG, ef_rmS1_2 m a1 a2]
  clear hG
  show G s₁ (mkF m 0 #[.val (.ref a1), .val (.ref a2)] [])
  refine gb (fun _ k => XS.aloadN X0.here hx rfl (hb hby d1_0) rfl rfl (XS.aloadN X0.here hx rfl (hb hby d1_1) rfl rfl (XS.iconst X0.here hx rfl (hb hby d1_2) (XS.aloadN X0.here hx rfl (hb hby d1_3) rfl rfl k)))) ?_
  show G s₁ (mkF m 4 #[rv a1, rv a2] [.ref a2, .int 0, .ref a2, .ref a1])
  have V'1 := V_a2
  obtain ⟨cl1, Ar1, qk1, sz1, nn1, hs1, ft1⟩ := V'1
  refine gb (X0.arraylength hx (by rw [e0]; exact Ar1.1) (State.isArrayOf_alike hZ.alike Ar1.2.1) (g := (mkF m 4 #[rv a1, rv a2] [.ref a2, .int 0, .ref a2, .ref a1])) rfl rfl (hb hby d1_4)) ?_
  rw [len_of sz1 nn1]
  show G s₁ (mkF m 5 #[rv a1, rv a2] [.int 2, .int 0, .ref a2, .ref a1])
  refine gb (fun _ k => XS.aconstNull X0.here hx rfl (hb hby d1_5) k) ?_
  show G s₁ (mkF m 6 #[rv a1, rv a2] [.null, .int 2, .int 0, .ref a2, .ref a1])
  obtain ⟨_, _, ⟨T2, Lz2, kz2, nz2⟩, -, X2, ⟨Lc2, hQ2, lq2, yq2, zq2⟩, st2⟩ := X0.specialBack hx (y := (⟨"java/lang/String", "<init>", "([CIILjava/lang/Void;)V"⟩ : MethodName)) rfl hown (mvT hZ (ow hw 7 rfl)) (mvT hZ (ow hw 8 rfl)) (mvT hZ (ow hw 10 rfl)) (by decide) (backOf (W := 0) (rmS4_2 l Z a0 hw [] a1 a2 k2 c0 c1 h0 n0 O E_a1 F_coder_a1 F_value_a1 g_a1 V_a2 ne_a2_a1 hb0 hb1 zc S_cs hzc) hZ (ow hw 10 rfl) (ow hw 2 rfl) (by decide) (by decide)) (g := (mkF m 6 #[rv a1, rv a2] [.null, .int 2, .int 0, .ref a2, .ref a1])) rfl (by rw [hml]; rfl) (Steps.refl _) (a := a1) (argsL := [(.ref a2), (.int (0 : Int32)), (.int (2 : Int32)), .null]) (rest := []) (lenOf pd_3 rfl) rfl (by show 2 * 0 + _ ≤ _; exact Nat.le_of_eq rfl) (hb hby d1_6) (fun _ _ => ⟨rfl, e0, (by decide : 0 + 1 ≤ _), (by decide : 0 + 2 ≤ _)⟩)
  dsimp only [Pt.U, Pt.locs, Pt.cells, Pt.slots] at X2 lq2 yq2 zq2 st2 hQ2
  subst lq2 yq2 zq2
  obtain ⟨h2, e2⟩ : ∃ z, z = T2.heap := ⟨_, rfl⟩
  rw [← e2] at hQ2
  replace e2 := e2.symm
  obtain ⟨b2, kb2, rfl, Nq2, Kq2, hR2⟩ := hQ2
  have N := Fr.app N Nq2
  have E_a1 := E_a1.keep Kq2
  have V_a2 := V_a2.keep Kq2 (ninS ne_a2_a1 nin0)
  obtain ⟨E_a1, Fc2, Fv2, gb2, sb2, Vb2⟩ := hR2
  have O := O.keep Kq2 (allS g_a1 all0)
  have K := K.trans Kq2 (allS (Or.inl (List.mem_of_getElem? (i := 0) rfl)) all0)
  refine gb (fun _ k => st2.trans k) ?_
  show G T2 (mkF m 9 #[rv a1, rv a2] [])
  exact go X2 (v := none) (fun _ => rfl) (fun fs hr => X2.returnOut hx Bd.returns (hb hby d1_9) hr) (by rw [e2]; exact ⟨_, _, rfl, N, K, E_a1, Fc2, Fv2, gb2, sb2, Vb2⟩) (by decide) (by decide)
def Q_rmLE_2_2 (Z : State) (a3 a4 : Addr) (k3 k4 : ClassId) (x0 x1 : Int32) (y0 y1 : Int32) (h0 : Heap) (n0 : Nat) : Option Value → Heap → List Loc → Prop := fun v h L => v = some (.int (if x0 = y0 then (if x1 = y1 then (1 : Int32) else (0 : Int32)) else (0 : Int32))) ∧ L = [] ∧ h = h0
set_option maxRecDepth 65536 in
set_option maxHeartbeats 40000000 in
theorem rmLE_2_2 (l : Launch) (Z : State) (a0 : Array Value) (hw : ∀ d ∈ tables_1, d.before a0 Z = true) (ws : List Jvm.Cond) (a3 a4 : Addr) (k3 k4 : ClassId) (x0 x1 : Int32) (y0 y1 : Int32) (h0 : Heap) (n0 : Nat) (O : Old Z n0 h0) (V_a3 : Arv Z h0 a3 k3 .byte (2 : Int32) [(.int x0), (.int x1)] (.int (0 : Int32))) (V_a4 : Arv Z h0 a4 k4 .byte (2 : Int32) [(.int y0), (.int y1)] (.int (0 : Int32))) :
    MetFree l (⟨"java/lang/StringLatin1", "equals", "([B[B)Z"⟩ : MethodName) (head1 (Jvm.Cond.code (⟨"java/lang/StringLatin1", "equals", "([B[B)Z"⟩ : MethodName) jdk_43_method_13_code 3 (some .boolean) :: ws) ({ frames := 0, cells := 0, slots := 0, locals := 0 } : Room)) (fun a U => a = #[(.ref a3), (.ref a4)] ∧ Z.Warmed39 U.vm ∧ U.heap = h0) (fun _ _ _ _ _ => True) (fun _ U o U' => ∃ v L, o = .returned v ∧ (Q_rmLE_2_2 Z a3 a4 k3 k4 x0 x1 y0 y1 h0 n0) v U'.heap L ∧ FrameEnd U o U' L ({ frames := 0, cells := 0, slots := 0, locals := 0 } : Room).cells ({ frames := 0, cells := 0, slots := 0, locals := 0 } : Room).slots) := by
  refine MetFree.of_bodySF (plainFor_of_name pn_2) hisR ?_
  intro p e s m args below meth c s₁ Bd hml0 hP hK
  obtain ⟨rfl, hZ, hh⟩ := hP
  have hx := Bd.exec
  have hby := Bd.bytes
  have hml : c.maxLocals = 3 := hml0
  have hown : s.vm.findClass "java/lang/StringLatin1" = some m.cls := findClass_of_methodNamed Bd.named
  have hnm := (name_of_methodNamed Bd.named Bd.method).1
  have hlk := BodyLoose.notSynchronized Bd
  have X0 : Stand p l e ({ frames := 0, cells := 0, slots := 0, locals := 0 } : Room) s m #[(.ref a3), (.ref a4)] below meth c s₁ [] 0 0 := Stand.of_body Bd
  have e0 : s₁.heap = h0 := by rw [← hh, Bd.state]; rfl
  have N := Fr.nil n0
  obtain ⟨G, hG⟩ : ∃ G : State → JFrame → Prop, G = OwnG p e below s ({ frames := 0, cells := 0, slots := 0, locals := 0 } : Room).cells ({ frames := 0, cells := 0, slots := 0, locals := 0 } : Room).slots (Q_rmLE_2_2 Z a3 a4 k3 k4 x0 x1 y0 y1 h0 n0) := ⟨_, rfl⟩
  have gb : ∀ {T T' : State} {g g' : JFrame}, (∀ t, Steps p.tables e below (T'.setTop g') t → Steps p.tables e below (T.setTop g) t) → G T' g' → G T g := by subst hG; exact fun k h => own_by k h
  have go : ∀ {T : State} {locs : List Loc} {cells slots : Nat} {g : JFrame} {v : Option Value}, Stand p l e ({ frames := 0, cells := 0, slots := 0, locals := 0 } : Room) s m #[(.ref a3), (.ref a4)] below meth c T locs cells slots → (meth.sig.returnType = none → v = none) → (∀ fs, (∀ (f : JFrame) (acts : List Action), f.method = m → f.locked = none → f.entered = [] → (doReturn e (T.setTop f) acts v).1 = T.setFrames fs) → Steps p.tables e below (T.setTop g) (T.setFrames fs)) → (Q_rmLE_2_2 Z a3 a4 k3 k4 x0 x1 y0 y1 h0 n0) v T.heap locs → cells ≤ ({ frames := 0, cells := 0, slots := 0, locals := 0 } : Room).cells → slots ≤ ({ frames := 0, cells := 0, slots := 0, locals := 0 } : Room).slots → G T g := by subst hG; exact fun X h1 h2 h3 h4 h5 => own_out X hlk h1 h2 h3 h4 h5
  show OwnG p e below s ({ frames := 0, cells := 0, slots := 0, locals := 0 } : Room).cells ({ frames := 0, cells := 0, slots := 0, locals := 0 } : Room).slots (Q_rmLE_2_2 Z a3 a4 k3 k4 x0 x1 y0 y1 h0 n0) s₁ (entryFrame m #[(.ref a3), (.ref a4)] 3)
  rw [← hG, ef_rmLE_2_2 m a3 a4]
  clear hG
  show G s₁ (mkF m 0 #[.val (.ref a3), .val (.ref a4), .unset] [])
  refine gb (fun _ k => XS.aloadN X0.here hx rfl (hb hby d10_0) rfl rfl k) ?_
  show G s₁ (mkF m 1 #[rv a3, rv a4, .unset] [.ref a3])
  have V'1 := V_a3
  obtain ⟨cl1, Ar1, qk1, sz1, nn1, hs1, ft1⟩ := V'1
  refine gb (X0.arraylength hx (by rw [e0]; exact Ar1.1) (State.isArrayOf_alike hZ.alike Ar1.2.1) (g := (mkF m 1 #[rv a3, rv a4, .unset] [.ref a3])) rfl rfl (hb hby d10_1)) ?_
  rw [len_of sz1 nn1]
  show G s₁ (mkF m 2 #[rv a3, rv a4, .unset] [.int 2])
  refine gb (fun _ k => XS.aloadN X0.here hx rfl (hb hby d10_2) rfl rfl k) ?_
  show G s₁ (mkF m 3 #[rv a3, rv a4, .unset] [.ref a4, .int 2])
  have V'2 := V_a4
  obtain ⟨cl2, Ar2, qk2, sz2, nn2, hs2, ft2⟩ := V'2
  refine gb (X0.arraylength hx (by rw [e0]; exact Ar2.1) (State.isArrayOf_alike hZ.alike Ar2.2.1) (g := (mkF m 3 #[rv a3, rv a4, .unset] [.ref a4, .int 2])) rfl rfl (hb hby d10_3)) ?_
  rw [len_of sz2 nn2]
  show G s₁ (mkF m 4 #[rv a3, rv a4, .unset] [.int 2, .int 2])
  refine gb (fun _ k => XS.icmpNo X0.here hx rfl (hb hby d10_4) rfl (teq (by decide : (2 : Int32) = (2 : Int32))).2 (XS.iconst X0.here hx rfl (hb hby d10_7) (XS.istoreN X0.here hx rfl (hb hby d10_8) rfl (l' := #[rv a3, rv a4, iv 0]) rfl (XS.iloadN X0.here hx rfl (hb hby d10_9) rfl (XS.aloadN X0.here hx rfl (hb hby d10_10) rfl rfl k))))) ?_
  show G s₁ (mkF m 11 #[rv a3, rv a4, iv 0] [.ref a3, .int 0])
  have V'3 := V_a3
  obtain ⟨cl3, Ar3, qk3, sz3, nn3, hs3, ft3⟩ := V'3
  refine gb (X0.arraylength hx (by rw [e0]; exact Ar3.1) (State.isArrayOf_alike hZ.alike Ar3.2.1) (g := (mkF m 11 #[rv a3, rv a4, iv 0] [.ref a3, .int 0])) rfl rfl (hb hby d10_11)) ?_
  rw [len_of sz3 nn3]
  show G s₁ (mkF m 12 #[rv a3, rv a4, iv 0] [.int 2, .int 0])
  refine gb (fun _ k => XS.icmpNo X0.here hx rfl (hb hby d10_12) rfl (tlt (by decide : (0 : Int32) < (2 : Int32))).2.1 (XS.aloadN X0.here hx rfl (hb hby d10_15) rfl rfl (XS.iloadN X0.here hx rfl (hb hby d10_16) rfl k))) ?_
  show G s₁ (mkF m 17 #[rv a3, rv a4, iv 0] [.int 0, .ref a3])
  have V'4 := V_a3
  obtain ⟨cl4, Ar4, qk4, sz4, nn4, hs4, ft4⟩ := V'4
  have hin4 : ¬ ((0 : Int32) < 0 ∨ cl4.slots.size ≤ ((0 : Int32)).toNatClampNeg) := inb_of sz4 ⟨by decide, by decide⟩
  have hat4 : cl4.slots[((0 : Int32)).toNatClampNeg]? = some (.int x0) := hs4.at hin4 rfl
  refine gb (X0.baloadBytes hx (j := (0 : Int32)) (v := (.int x0)) (by rw [e0]; exact Ar4.1) (State.isArrayOf_alike hZ.alike Ar4.2.1) Ar4.2.2 hin4 hat4 (g := (mkF m 17 #[rv a3, rv a4, iv 0] [.int 0, .ref a3])) rfl rfl (hb hby d10_17)) ?_
  show G s₁ (mkF m 18 #[rv a3, rv a4, iv 0] [.int x0])
  refine gb (fun _ k => XS.aloadN X0.here hx rfl (hb hby d10_18) rfl rfl (XS.iloadN X0.here hx rfl (hb hby d10_19) rfl k)) ?_
  show G s₁ (mkF m 20 #[rv a3, rv a4, iv 0] [.int 0, .ref a4, .int x0])
  have V'5 := V_a4
  obtain ⟨cl5, Ar5, qk5, sz5, nn5, hs5, ft5⟩ := V'5
  have hin5 : ¬ ((0 : Int32) < 0 ∨ cl5.slots.size ≤ ((0 : Int32)).toNatClampNeg) := inb_of sz5 ⟨by decide, by decide⟩
  have hat5 : cl5.slots[((0 : Int32)).toNatClampNeg]? = some (.int y0) := hs5.at hin5 rfl
  refine gb (X0.baloadBytes hx (j := (0 : Int32)) (v := (.int y0)) (by rw [e0]; exact Ar5.1) (State.isArrayOf_alike hZ.alike Ar5.2.1) Ar5.2.2 hin5 hat5 (g := (mkF m 20 #[rv a3, rv a4, iv 0] [.int 0, .ref a4, .int x0])) rfl rfl (hb hby d10_20)) ?_
  show G s₁ (mkF m 21 #[rv a3, rv a4, iv 0] [.int y0, .int x0])
  by_cases hc21 : x0 = y0
  · skip
    refine gb (fun _ k => XS.icmpYes X0.here hx rfl (pc0 := 21) (pc' := 26) rfl (hb hby d10_21) rfl (teq hc21).1 (by decide) (by decide) (XS.iinc X0.here hx rfl (hb hby d10_26) rfl (l' := #[rv a3, rv a4, iv 1]) rfl (XS.goto X0.here hx rfl (pc0 := 29) (pc' := 9) rfl (hb hby d10_29) (by decide) (by decide) (XS.iloadN X0.here hx rfl (hb hby d10_9) rfl (XS.aloadN X0.here hx rfl (hb hby d10_10) rfl rfl k))))) ?_
    show G s₁ (mkF m 11 #[rv a3, rv a4, iv 1] [.ref a3, .int 1])
    have V'6 := V_a3
    obtain ⟨cl6, Ar6, qk6, sz6, nn6, hs6, ft6⟩ := V'6
    refine gb (X0.arraylength hx (by rw [e0]; exact Ar6.1) (State.isArrayOf_alike hZ.alike Ar6.2.1) (g := (mkF m 11 #[rv a3, rv a4, iv 1] [.ref a3, .int 1])) rfl rfl (hb hby d10_11)) ?_
    rw [len_of sz6 nn6]
    show G s₁ (mkF m 12 #[rv a3, rv a4, iv 1] [.int 2, .int 1])
    refine gb (fun _ k => XS.icmpNo X0.here hx rfl (hb hby d10_12) rfl (tlt (by decide : (1 : Int32) < (2 : Int32))).2.1 (XS.aloadN X0.here hx rfl (hb hby d10_15) rfl rfl (XS.iloadN X0.here hx rfl (hb hby d10_16) rfl k))) ?_
    show G s₁ (mkF m 17 #[rv a3, rv a4, iv 1] [.int 1, .ref a3])
    have V'7 := V_a3
    obtain ⟨cl7, Ar7, qk7, sz7, nn7, hs7, ft7⟩ := V'7
    have hin7 : ¬ ((1 : Int32) < 0 ∨ cl7.slots.size ≤ ((1 : Int32)).toNatClampNeg) := inb_of sz7 ⟨by decide, by decide⟩
    have hat7 : cl7.slots[((1 : Int32)).toNatClampNeg]? = some (.int x1) := hs7.at hin7 rfl
    refine gb (X0.baloadBytes hx (j := (1 : Int32)) (v := (.int x1)) (by rw [e0]; exact Ar7.1) (State.isArrayOf_alike hZ.alike Ar7.2.1) Ar7.2.2 hin7 hat7 (g := (mkF m 17 #[rv a3, rv a4, iv 1] [.int 1, .ref a3])) rfl rfl (hb hby d10_17)) ?_
    show G s₁ (mkF m 18 #[rv a3, rv a4, iv 1] [.int x1])
    refine gb (fun _ k => XS.aloadN X0.here hx rfl (hb hby d10_18) rfl rfl (XS.iloadN X0.here hx rfl (hb hby d10_19) rfl k)) ?_
    show G s₁ (mkF m 20 #[rv a3, rv a4, iv 1] [.int 1, .ref a4, .int x1])
    have V'8 := V_a4
    obtain ⟨cl8, Ar8, qk8, sz8, nn8, hs8, ft8⟩ := V'8
    have hin8 : ¬ ((1 : Int32) < 0 ∨ cl8.slots.size ≤ ((1 : Int32)).toNatClampNeg) := inb_of sz8 ⟨by decide, by decide⟩
    have hat8 : cl8.slots[((1 : Int32)).toNatClampNeg]? = some (.int y1) := hs8.at hin8 rfl
    refine gb (X0.baloadBytes hx (j := (1 : Int32)) (v := (.int y1)) (by rw [e0]; exact Ar8.1) (State.isArrayOf_alike hZ.alike Ar8.2.1) Ar8.2.2 hin8 hat8 (g := (mkF m 20 #[rv a3, rv a4, iv 1] [.int 1, .ref a4, .int x1])) rfl rfl (hb hby d10_20)) ?_
    show G s₁ (mkF m 21 #[rv a3, rv a4, iv 1] [.int y1, .int x1])
    by_cases hc21_2 : x1 = y1
    · skip
      refine gb (fun _ k => XS.icmpYes X0.here hx rfl (pc0 := 21) (pc' := 26) rfl (hb hby d10_21) rfl (teq hc21_2).1 (by decide) (by decide) (XS.iinc X0.here hx rfl (hb hby d10_26) rfl (l' := #[rv a3, rv a4, iv 2]) rfl (XS.goto X0.here hx rfl (pc0 := 29) (pc' := 9) rfl (hb hby d10_29) (by decide) (by decide) (XS.iloadN X0.here hx rfl (hb hby d10_9) rfl (XS.aloadN X0.here hx rfl (hb hby d10_10) rfl rfl k))))) ?_
      show G s₁ (mkF m 11 #[rv a3, rv a4, iv 2] [.ref a3, .int 2])
      have V'9 := V_a3
      obtain ⟨cl9, Ar9, qk9, sz9, nn9, hs9, ft9⟩ := V'9
      refine gb (X0.arraylength hx (by rw [e0]; exact Ar9.1) (State.isArrayOf_alike hZ.alike Ar9.2.1) (g := (mkF m 11 #[rv a3, rv a4, iv 2] [.ref a3, .int 2])) rfl rfl (hb hby d10_11)) ?_
      rw [len_of sz9 nn9]
      show G s₁ (mkF m 12 #[rv a3, rv a4, iv 2] [.int 2, .int 2])
      refine gb (fun _ k => XS.icmpYes X0.here hx rfl (pc0 := 12) (pc' := 32) rfl (hb hby d10_12) rfl (flt (by decide : ¬ ((2 : Int32) < (2 : Int32)))).2.1 (by decide) (by decide) (XS.iconst X0.here hx rfl (hb hby d10_32) k)) ?_
      show G s₁ (mkF m 33 #[rv a3, rv a4, iv 2] [.int 1])
      exact go X0 (v := (some (.int (1 : Int32)))) (fun h => by rw [Bd.returns] at h; cases h) (fun fs hr => retOut X0 hx Bd.returns rfl (Or.inl ⟨rfl, by simp, _, rfl⟩) (hb hby d10_33) hr) (⟨by simp [hc21, hc21_2], rfl, e0⟩) (by decide) (by decide)
    · skip
      refine gb (fun _ k => XS.icmpNo X0.here hx rfl (hb hby d10_21) rfl (feq hc21_2).1 (XS.iconst X0.here hx rfl (hb hby d10_24) k)) ?_
      show G s₁ (mkF m 25 #[rv a3, rv a4, iv 1] [.int 0])
      exact go X0 (v := (some (.int (0 : Int32)))) (fun h => by rw [Bd.returns] at h; cases h) (fun fs hr => retOut X0 hx Bd.returns rfl (Or.inl ⟨rfl, by simp, _, rfl⟩) (hb hby d10_25) hr) (⟨by simp [hc21, hc21_2], rfl, e0⟩) (by decide) (by decide)
  · skip
    refine gb (fun _ k => XS.icmpNo X0.here hx rfl (hb hby d10_21) rfl (feq hc21).1 (XS.iconst X0.here hx rfl (hb hby d10_24) k)) ?_
    show G s₁ (mkF m 25 #[rv a3, rv a4, iv 0] [.int 0])
    exact go X0 (v := (some (.int (0 : Int32)))) (fun h => by rw [Bd.returns] at h; cases h) (fun fs hr => retOut X0 hx Bd.returns rfl (Or.inl ⟨rfl, by simp, _, rfl⟩) (hb hby d10_25) hr) (⟨by simp [hc21], rfl, e0⟩) (by decide) (by decide)
def Q_rmEq_2_2 (Z : State) (a1 a2 a3 a4 : Addr) (k3 k4 : ClassId) (x0 x1 : Int32) (y0 y1 : Int32) (k1 : Int32) (h0 : Heap) (n0 : Nat) (zc : Int32) : Option Value → Heap → List Loc → Prop := fun v h L => v = some (.int k1) ∧ L = [] ∧ h = h0
set_option maxRecDepth 65536 in
set_option maxHeartbeats 40000000 in
theorem rmEq_2_2 (l : Launch) (Z : State) (a0 : Array Value) (hw : ∀ d ∈ tables_1, d.before a0 Z = true) (ws : List Jvm.Cond) (a1 a2 a3 a4 : Addr) (k3 k4 : ClassId) (x0 x1 : Int32) (y0 y1 : Int32) (k1 : Int32) (h0 : Heap) (n0 : Nat) (O : Old Z n0 h0) (E_a1 : Exa Z h0 a1 "java/lang/String") (E_a2 : Exa Z h0 a2 "java/lang/String") (F_c1 : Fld Z h0 a1 "java/lang/String" "coder" "B" (.int (0 : Int32))) (F_v1 : Fld Z h0 a1 "java/lang/String" "value" "[B" (.ref a3)) (F_c2 : Fld Z h0 a2 "java/lang/String" "coder" "B" (.int (0 : Int32))) (F_v2 : Fld Z h0 a2 "java/lang/String" "value" "[B" (.ref a4)) (V_a3 : Arv Z h0 a3 k3 .byte (2 : Int32) [(.int x0), (.int x1)] (.int (0 : Int32))) (V_a4 : Arv Z h0 a4 k4 .byte (2 : Int32) [(.int y0), (.int y1)] (.int (0 : Int32))) (zc : Int32) (S_cs : Sta Z Z.heap "java/lang/String" "COMPACT_STRINGS" "Z" (.int zc)) (hzc : ¬ zc = (0 : Int32)) (hne : ¬ a1 = a2) (hr : (if x0 = y0 then (if x1 = y1 then (1 : Int32) else (0 : Int32)) else (0 : Int32)) = k1) (hk1 : k1 = 0 ∨ k1 = 1) :
    MetFree l (⟨"java/lang/String", "equals", "(Ljava/lang/Object;)Z"⟩ : MethodName) (head1 (Jvm.Cond.code (⟨"java/lang/String", "equals", "(Ljava/lang/Object;)Z"⟩ : MethodName) jdk_42_method_66_code 3 (some .boolean) :: ws) ({ frames := 1, cells := 0, slots := 0, locals := 14 } : Room)) (fun a U => a = #[(.ref a1), (.ref a2)] ∧ Z.Warmed39 U.vm ∧ U.heap = h0) (fun _ _ _ _ _ => True) (fun _ U o U' => ∃ v L, o = .returned v ∧ (Q_rmEq_2_2 Z a1 a2 a3 a4 k3 k4 x0 x1 y0 y1 k1 h0 n0 zc) v U'.heap L ∧ FrameEnd U o U' L ({ frames := 1, cells := 0, slots := 0, locals := 14 } : Room).cells ({ frames := 1, cells := 0, slots := 0, locals := 14 } : Room).slots) := by
  refine MetFree.of_bodySF (plainFor_of_name pn_1) hisR ?_
  intro p e s m args below meth c s₁ Bd hml0 hP hK
  obtain ⟨rfl, hZ, hh⟩ := hP
  have hx := Bd.exec
  have hby := Bd.bytes
  have hml : c.maxLocals = 3 := hml0
  have hown : s.vm.findClass "java/lang/String" = some m.cls := findClass_of_methodNamed Bd.named
  have hnm := (name_of_methodNamed Bd.named Bd.method).1
  have hlk := BodyLoose.notSynchronized Bd
  have X0 : Stand p l e ({ frames := 1, cells := 0, slots := 0, locals := 14 } : Room) s m #[(.ref a1), (.ref a2)] below meth c s₁ [] 0 0 := Stand.of_body Bd
  have e0 : s₁.heap = h0 := by rw [← hh, Bd.state]; rfl
  have N := Fr.nil n0
  obtain ⟨G, hG⟩ : ∃ G : State → JFrame → Prop, G = OwnG p e below s ({ frames := 1, cells := 0, slots := 0, locals := 14 } : Room).cells ({ frames := 1, cells := 0, slots := 0, locals := 14 } : Room).slots (Q_rmEq_2_2 Z a1 a2 a3 a4 k3 k4 x0 x1 y0 y1 k1 h0 n0 zc) := ⟨_, rfl⟩
  have gb : ∀ {T T' : State} {g g' : JFrame}, (∀ t, Steps p.tables e below (T'.setTop g') t → Steps p.tables e below (T.setTop g) t) → G T' g' → G T g := by subst hG; exact fun k h => own_by k h
  have go : ∀ {T : State} {locs : List Loc} {cells slots : Nat} {g : JFrame} {v : Option Value}, Stand p l e ({ frames := 1, cells := 0, slots := 0, locals := 14 } : Room) s m #[(.ref a1), (.ref a2)] below meth c T locs cells slots → (meth.sig.returnType = none → v = none) → (∀ fs, (∀ (f : JFrame) (acts : List Action), f.method = m → f.locked = none → f.entered = [] → (doReturn e (T.setTop f) acts v).1 = T.setFrames fs) → Steps p.tables e below (T.setTop g) (T.setFrames fs)) → (Q_rmEq_2_2 Z a1 a2 a3 a4 k3 k4 x0 x1 y0 y1 k1 h0 n0 zc) v T.heap locs → cells ≤ ({ frames := 1, cells := 0, slots := 0, locals := 14 } : Room).cells → slots ≤ ({ frames := 1, cells := 0, slots := 0, locals := 14 } : Room).slots → G T g := by subst hG; exact fun X h1 h2 h3 h4 h5 => own_out X hlk h1 h2 h3 h4 h5
  show OwnG p e below s ({ frames := 1, cells := 0, slots := 0, locals := 14 } : Room).cells ({ frames := 1, cells := 0, slots := 0, locals := 14 } : Room).slots (Q_rmEq_2_2 Z a1 a2 a3 a4 k3 k4 x0 x1 y0 y1 k1 h0 n0 zc) s₁ (entryFrame m #[(.ref a1), (.ref a2)] 3)
  rw [← hG, ef_rmEq_2_2 m a1 a2]
  clear hG
  show G s₁ (mkF m 0 #[.val (.ref a1), .val (.ref a2), .unset] [])
  refine gb (fun _ k => XS.aloadN X0.here hx rfl (hb hby d9_0) rfl rfl (XS.aloadN X0.here hx rfl (hb hby d9_1) rfl rfl (Jvm.RoadKit.acmp (g := (mkF m 2 #[rv a1, rv a2, .unset] [.ref a2, .ref a1])) X0 hx rfl rfl rfl (pc0 := 2) (pc' := 7) (same := false) rfl (hb hby d9_2) rfl (decide_eq_false fun q => hne (Value.ref.inj q)) (by decide) (by decide) (XS.aloadN X0.here hx rfl (hb hby d9_7) rfl rfl k)))) ?_
  show G s₁ (mkF m 8 #[rv a1, rv a2, .unset] [.ref a2])
  obtain ⟨T1, X1, e1, st1⟩ := instY X0 hx hZ hown (ow hw 55 rfl) e0 (Ins.self E_a2) (g := (mkF m 8 #[rv a1, rv a2, .unset] [.ref a2])) rfl rfl (hb hby d9_8)
  refine gb st1 ?_
  show G T1 (mkF m 11 #[rv a1, rv a2, .unset] [.int 1])
  refine gb (fun _ k => XS.ifNo X1.here hx rfl (hb hby d9_11) rfl ((if0 _ _).trans (feq (by decide : ¬ ((1 : Int32) = (0 : Int32)))).1) (XS.aloadN X1.here hx rfl (hb hby d9_14) rfl rfl k)) ?_
  show G T1 (mkF m 15 #[rv a1, rv a2, .unset] [.ref a2])
  obtain ⟨T2, X2, e2, st2⟩ := castY X1 hx hZ hown (ow hw 55 rfl) e1 (Ins.self E_a2) (g := (mkF m 15 #[rv a1, rv a2, .unset] [.ref a2])) rfl rfl (hb hby d9_15)
  refine gb st2 ?_
  show G T2 (mkF m 18 #[rv a1, rv a2, .unset] [.ref a2])
  refine gb (fun _ k => XS.astoreN X2.here hx rfl (hb hby d9_18) rfl rfl (l' := #[rv a1, rv a2, rv a2]) rfl k) ?_
  show G T2 (mkF m 19 #[rv a1, rv a2, rv a2] [])
  obtain ⟨T3, X3, e3, st3⟩ := getS2 X2 hx hZ hown (host := "") (Or.inl (ow hw 14 rfl)) Via.refl e2 (S_cs.ext O.2) (g := (mkF m 19 #[rv a1, rv a2, rv a2] [])) rfl (hb hby d9_19)
  refine gb st3 ?_
  show G T3 (mkF m 22 #[rv a1, rv a2, rv a2] [.int zc])
  refine gb (fun _ k => XS.ifNo X3.here hx rfl (hb hby d9_22) rfl ((if0 _ _).trans (feq hzc).1) (XS.aloadN X3.here hx rfl (hb hby d9_25) rfl rfl k)) ?_
  show G T3 (mkF m 26 #[rv a1, rv a2, rv a2] [.ref a1])
  obtain ⟨T4, X4, e4, st4⟩ := getF X3 hx hZ hown (host := "") (Or.inl (ow hw 26 rfl)) Via.refl e3 F_c1 (g := (mkF m 26 #[rv a1, rv a2, rv a2] [.ref a1])) rfl rfl (hb hby d9_26)
  refine gb st4 ?_
  show G T4 (mkF m 29 #[rv a1, rv a2, rv a2] [.int 0])
  refine gb (fun _ k => XS.aloadN X4.here hx rfl (hb hby d9_29) rfl rfl k) ?_
  show G T4 (mkF m 30 #[rv a1, rv a2, rv a2] [.ref a2, .int 0])
  obtain ⟨T5, X5, e5, st5⟩ := getF X4 hx hZ hown (host := "") (Or.inl (ow hw 26 rfl)) Via.refl e4 F_c2 (g := (mkF m 30 #[rv a1, rv a2, rv a2] [.ref a2, .int 0])) rfl rfl (hb hby d9_30)
  refine gb st5 ?_
  show G T5 (mkF m 33 #[rv a1, rv a2, rv a2] [.int 0, .int 0])
  refine gb (fun _ k => XS.icmpNo X5.here hx rfl (hb hby d9_33) rfl (teq (by decide : (0 : Int32) = (0 : Int32))).2 (XS.aloadN X5.here hx rfl (hb hby d9_36) rfl rfl k)) ?_
  show G T5 (mkF m 37 #[rv a1, rv a2, rv a2] [.ref a1])
  obtain ⟨T6, X6, e6, st6⟩ := getF X5 hx hZ hown (host := "") (Or.inl (ow hw 28 rfl)) Via.refl e5 F_v1 (g := (mkF m 37 #[rv a1, rv a2, rv a2] [.ref a1])) rfl rfl (hb hby d9_37)
  refine gb st6 ?_
  show G T6 (mkF m 40 #[rv a1, rv a2, rv a2] [.ref a3])
  refine gb (fun _ k => XS.aloadN X6.here hx rfl (hb hby d9_40) rfl rfl k) ?_
  show G T6 (mkF m 41 #[rv a1, rv a2, rv a2] [.ref a2, .ref a3])
  obtain ⟨T7, X7, e7, st7⟩ := getF X6 hx hZ hown (host := "") (Or.inl (ow hw 28 rfl)) Via.refl e6 F_v2 (g := (mkF m 41 #[rv a1, rv a2, rv a2] [.ref a2, .ref a3])) rfl rfl (hb hby d9_41)
  refine gb st7 ?_
  show G T7 (mkF m 44 #[rv a1, rv a2, rv a2] [.ref a4, .ref a3])
  obtain ⟨_, _, ⟨T8, Lz8, kz8, nz8⟩, -, X8, ⟨Lc8, hQ8, lq8, yq8, zq8⟩, st8⟩ := Jvm.LawKit.callS X7 hx (y := (⟨"java/lang/StringLatin1", "equals", "([B[B)Z"⟩ : MethodName)) hown (mvT hZ (ow hw 56 rfl)) (mvT hZ (ow hw 57 rfl)) (mvT hZ (ow hw 58 rfl)) (mvT hZ (ow hw 59 rfl)) (by decide) (backOf (W := 0) (rmLE_2_2 l Z a0 hw [] a3 a4 k3 k4 x0 x1 y0 y1 h0 n0 O V_a3 V_a4) hZ (ow hw 59 rfl) (ow hw 58 rfl) (by decide) (by decide)) (g := (mkF m 44 #[rv a1, rv a2, rv a2] [.ref a4, .ref a3])) rfl (by rw [hml]; rfl) (argsL := [(.ref a3), (.ref a4)]) (rest := []) (lenOf pd_4 rfl) rfl (by show 2 * 0 + _ ≤ _; exact Nat.le_of_eq rfl) (hb hby d9_44) (fun _ _ => ⟨rfl, e7, (by decide : 0 + 0 ≤ _), (by decide : 0 + 0 ≤ _)⟩)
  dsimp only [Pt.U, Pt.locs, Pt.cells, Pt.slots] at X8 lq8 yq8 zq8 st8 hQ8
  subst lq8 yq8 zq8
  obtain ⟨rfl, rfl, e8⟩ := hQ8
  try rw [List.append_nil] at X8
  refine gb st8 ?_
  show G T8 (mkF m 47 #[rv a1, rv a2, rv a2] [.int (if x0 = y0 then (if x1 = y1 then (1 : Int32) else (0 : Int32)) else (0 : Int32))])
  by_cases hc47 : (if x0 = y0 then (if x1 = y1 then (1 : Int32) else (0 : Int32)) else (0 : Int32)) = (0 : Int32)
  · skip
    refine gb (fun _ k => XS.ifYes X8.here hx rfl (pc0 := 47) (pc' := 54) rfl (hb hby d9_47) rfl ((if0 _ _).trans (teq hc47).1) (by decide) (by decide) (XS.iconst X8.here hx rfl (hb hby d9_54) k)) ?_
    show G T8 (mkF m 55 #[rv a1, rv a2, rv a2] [.int 0])
    exact go X8 (v := (some (.int (0 : Int32)))) (fun h => by rw [Bd.returns] at h; cases h) (fun fs hr => retOut X8 hx Bd.returns rfl (Or.inl ⟨rfl, by simp, _, rfl⟩) (hb hby d9_55) hr) (⟨by rw [← hr, hc47], rfl, e8⟩) (by decide) (by decide)
  · skip
    refine gb (fun _ k => XS.ifNo X8.here hx rfl (hb hby d9_47) rfl ((if0 _ _).trans (feq hc47).1) (XS.iconst X8.here hx rfl (hb hby d9_50) (XS.goto X8.here hx rfl (pc0 := 51) (pc' := 55) rfl (hb hby d9_51) (by decide) (by decide) k))) ?_
    show G T8 (mkF m 55 #[rv a1, rv a2, rv a2] [.int 1])
    exact go X8 (v := (some (.int (1 : Int32)))) (fun h => by rw [Bd.returns] at h; cases h) (fun fs hr => retOut X8 hx Bd.returns rfl (Or.inl ⟨rfl, by simp, _, rfl⟩) (hb hby d9_55) hr) (⟨by rcases hk1 with q | q; exact absurd (hr.trans q) hc47; rw [q], rfl, e8⟩) (by decide) (by decide)
def Q_rm7 (Z : State) (a1 a2 : Addr) (q1 q2 : Int64) (h0 : Heap) (n0 : Nat) : Option Value → Heap → List Loc → Prop := fun v h L => v = none ∧ Fr n0 L ∧ Keep h0 h [a1] ∧ Exa Z h a1 "com/example/rankle/rankle/Standing" ∧ Fld Z h a1 "com/example/rankle/rankle/Standing" "player" "Ljava/lang/String;" (.ref a2) ∧ Fld Z h a1 "com/example/rankle/rankle/Standing" "score" "J" (.long q1) ∧ Fld Z h a1 "com/example/rankle/rankle/Standing" "rank" "J" (.long q2)
set_option maxRecDepth 65536 in
set_option maxHeartbeats 40000000 in
theorem rm7 (l : Launch) (Z : State) (a0 : Array Value) (hw : ∀ d ∈ tables_1, d.before a0 Z = true) (ws : List Jvm.Cond) (a1 a2 : Addr) (q1 q2 : Int64) (h0 : Heap) (n0 : Nat) (O : Old Z n0 h0) (E_a1 : Exa Z h0 a1 "com/example/rankle/rankle/Standing") (F_player : Fld Z h0 a1 "com/example/rankle/rankle/Standing" "player" "Ljava/lang/String;" .null) (F_score : Fld Z h0 a1 "com/example/rankle/rankle/Standing" "score" "J" (.long (0 : Int64))) (F_rank : Fld Z h0 a1 "com/example/rankle/rankle/Standing" "rank" "J" (.long (0 : Int64))) (g_a1 : n0 ≤ a1) :
    MetFree l (⟨"com/example/rankle/rankle/Standing", "<init>", "(Ljava/lang/String;JJ)V"⟩ : MethodName) (head1 (Jvm.Cond.code (⟨"com/example/rankle/rankle/Standing", "<init>", "(Ljava/lang/String;JJ)V"⟩ : MethodName) prog_16_method_1_code 6 none :: ws) ({ frames := 1, cells := 0, slots := 0, locals := 12 } : Room)) (fun a U => a = #[(.ref a1), (.ref a2), (.long q1), (.long q2)] ∧ Z.Warmed39 U.vm ∧ U.heap = h0) (fun _ _ _ _ _ => True) (fun _ U o U' => ∃ v L, o = .returned v ∧ (Q_rm7 Z a1 a2 q1 q2 h0 n0) v U'.heap L ∧ FrameEnd U o U' L ({ frames := 1, cells := 0, slots := 0, locals := 12 } : Room).cells ({ frames := 1, cells := 0, slots := 0, locals := 12 } : Room).slots) := by
  refine MetFree.of_bodySF (plainFor_of_name pn_3) hisR ?_
  intro p e s m args below meth c s₁ Bd hml0 hP hK
  obtain ⟨rfl, hZ, hh⟩ := hP
  have hx := Bd.exec
  have hby := Bd.bytes
  have hml : c.maxLocals = 6 := hml0
  have hown : s.vm.findClass "com/example/rankle/rankle/Standing" = some m.cls := findClass_of_methodNamed Bd.named
  have hnm := (name_of_methodNamed Bd.named Bd.method).1
  have hlk := BodyLoose.notSynchronized Bd
  have X0 : Stand p l e ({ frames := 1, cells := 0, slots := 0, locals := 12 } : Room) s m #[(.ref a1), (.ref a2), (.long q1), (.long q2)] below meth c s₁ [] 0 0 := Stand.of_body Bd
  have e0 : s₁.heap = h0 := by rw [← hh, Bd.state]; rfl
  have N := Fr.nil n0
  have K := Keep.refl h0 [a1]
  obtain ⟨G, hG⟩ : ∃ G : State → JFrame → Prop, G = OwnG p e below s ({ frames := 1, cells := 0, slots := 0, locals := 12 } : Room).cells ({ frames := 1, cells := 0, slots := 0, locals := 12 } : Room).slots (Q_rm7 Z a1 a2 q1 q2 h0 n0) := ⟨_, rfl⟩
  have gb : ∀ {T T' : State} {g g' : JFrame}, (∀ t, Steps p.tables e below (T'.setTop g') t → Steps p.tables e below (T.setTop g) t) → G T' g' → G T g := by subst hG; exact fun k h => own_by k h
  have go : ∀ {T : State} {locs : List Loc} {cells slots : Nat} {g : JFrame} {v : Option Value}, Stand p l e ({ frames := 1, cells := 0, slots := 0, locals := 12 } : Room) s m #[(.ref a1), (.ref a2), (.long q1), (.long q2)] below meth c T locs cells slots → (meth.sig.returnType = none → v = none) → (∀ fs, (∀ (f : JFrame) (acts : List Action), f.method = m → f.locked = none → f.entered = [] → (doReturn e (T.setTop f) acts v).1 = T.setFrames fs) → Steps p.tables e below (T.setTop g) (T.setFrames fs)) → (Q_rm7 Z a1 a2 q1 q2 h0 n0) v T.heap locs → cells ≤ ({ frames := 1, cells := 0, slots := 0, locals := 12 } : Room).cells → slots ≤ ({ frames := 1, cells := 0, slots := 0, locals := 12 } : Room).slots → G T g := by subst hG; exact fun X h1 h2 h3 h4 h5 => own_out X hlk h1 h2 h3 h4 h5
  show OwnG p e below s ({ frames := 1, cells := 0, slots := 0, locals := 12 } : Room).cells ({ frames := 1, cells := 0, slots := 0, locals := 12 } : Room).slots (Q_rm7 Z a1 a2 q1 q2 h0 n0) s₁ (entryFrame m #[(.ref a1), (.ref a2), (.long q1), (.long q2)] 6)
  rw [← hG, ef_rm7 m a1 a2 q1 q2]
  clear hG
  show G s₁ (mkF m 0 #[.val (.ref a1), .val (.ref a2), .val (.long q1), .second, .val (.long q2), .second] [])
  refine gb (fun _ k => XS.aloadN X0.here hx rfl (hb hby d7_0) rfl rfl k) ?_
  show G s₁ (mkF m 1 #[rv a1, rv a2, jv q1, .second, jv q2, .second] [.ref a1])
  obtain ⟨T1, X1, e1, st1⟩ := initO X0 hx hZ hown (ow hw 36 rfl) (ow hw 12 rfl) (ow hw 13 rfl) e0 (g := (mkF m 1 #[rv a1, rv a2, jv q1, .second, jv q2, .second] [.ref a1])) rfl (by rw [hml]; rfl) rfl (hb hby d7_1) (by decide) (W := 0) (by show 2 * 0 + _ ≤ _; exact Nat.le_of_eq rfl) (by decide)
  refine gb st1 ?_
  show G T1 (mkF m 4 #[rv a1, rv a2, jv q1, .second, jv q2, .second] [])
  refine gb (fun _ k => XS.aloadN X1.here hx rfl (hb hby d7_4) rfl rfl (XS.aloadN X1.here hx rfl (hb hby d7_5) rfl rfl k)) ?_
  show G T1 (mkF m 6 #[rv a1, rv a2, jv q1, .second, jv q2, .second] [.ref a2, .ref a1])
  obtain ⟨T2, h2, X2, e2, W2, st2⟩ := putF X1 hx hZ hown (host := "") (Or.inl (ow hw 37 rfl)) Via.refl e1 F_player E_a1 (Or.inr ⟨(ow hw 38 rfl), rfl, hnm⟩) (ow hw 31 rfl) (ty := (.object "java/lang/String")) (by decide) rfl rfl (g := (mkF m 6 #[rv a1, rv a2, jv q1, .second, jv q2, .second] [.ref a2, .ref a1])) rfl rfl (hb hby d7_6)
  refine gb st2 ?_
  have F_player := F_player.same W2
  have E_a1 := E_a1.wr W2
  have F_score := F_score.other W2 (Or.inr (slot_ne (Or.inr (ow hw 40 rfl)) (Or.inr (ow hw 38 rfl)) (by decide) (t := .long) (t' := (.object "java/lang/String")) (by decide) (by decide)))
  have F_rank := F_rank.other W2 (Or.inr (slot_ne (Or.inr (ow hw 42 rfl)) (Or.inr (ow hw 38 rfl)) (by decide) (t := .long) (t' := (.object "java/lang/String")) (by decide) (by decide)))
  have O := O.wr W2 g_a1
  have K := K.wr W2 (Or.inl (List.mem_of_getElem? (i := 0) rfl))
  have N := Fr.snoc X2 N g_a1
  show G T2 (mkF m 9 #[rv a1, rv a2, jv q1, .second, jv q2, .second] [])
  refine gb (fun _ k => XS.aloadN X2.here hx rfl (hb hby d7_9) rfl rfl (XS.lloadN X2.here hx rfl (hb hby d7_10) rfl k)) ?_
  show G T2 (mkF m 11 #[rv a1, rv a2, jv q1, .second, jv q2, .second] [.long q1, .ref a1])
  obtain ⟨T3, h3, X3, e3, W3, st3⟩ := putF X2 hx hZ hown (host := "") (Or.inl (ow hw 39 rfl)) Via.refl e2 F_score E_a1 (Or.inr ⟨(ow hw 40 rfl), rfl, hnm⟩) (ow hw 31 rfl) (ty := .long) (by decide) rfl rfl (g := (mkF m 11 #[rv a1, rv a2, jv q1, .second, jv q2, .second] [.long q1, .ref a1])) rfl rfl (hb hby d7_11)
  refine gb st3 ?_
  have F_score := F_score.same W3
  have E_a1 := E_a1.wr W3
  have F_rank := F_rank.other W3 (Or.inr (slot_ne (Or.inr (ow hw 42 rfl)) (Or.inr (ow hw 40 rfl)) (by decide) (t := .long) (t' := .long) (by decide) (by decide)))
  have F_player := F_player.other W3 (Or.inr (slot_ne (Or.inr (ow hw 38 rfl)) (Or.inr (ow hw 40 rfl)) (by decide) (t := (.object "java/lang/String")) (t' := .long) (by decide) (by decide)))
  have O := O.wr W3 g_a1
  have K := K.wr W3 (Or.inl (List.mem_of_getElem? (i := 0) rfl))
  have N := Fr.snoc X3 N g_a1
  show G T3 (mkF m 14 #[rv a1, rv a2, jv q1, .second, jv q2, .second] [])
  refine gb (fun _ k => XS.aloadN X3.here hx rfl (hb hby d7_14) rfl rfl (XS.lload X3.here hx rfl (hb hby d7_15) rfl k)) ?_
  show G T3 (mkF m 17 #[rv a1, rv a2, jv q1, .second, jv q2, .second] [.long q2, .ref a1])
  obtain ⟨T4, h4, X4, e4, W4, st4⟩ := putF X3 hx hZ hown (host := "") (Or.inl (ow hw 41 rfl)) Via.refl e3 F_rank E_a1 (Or.inr ⟨(ow hw 42 rfl), rfl, hnm⟩) (ow hw 31 rfl) (ty := .long) (by decide) rfl rfl (g := (mkF m 17 #[rv a1, rv a2, jv q1, .second, jv q2, .second] [.long q2, .ref a1])) rfl rfl (hb hby d7_17)
  refine gb st4 ?_
  have F_rank := F_rank.same W4
  have E_a1 := E_a1.wr W4
  have F_player := F_player.other W4 (Or.inr (slot_ne (Or.inr (ow hw 38 rfl)) (Or.inr (ow hw 42 rfl)) (by decide) (t := (.object "java/lang/String")) (t' := .long) (by decide) (by decide)))
  have F_score := F_score.other W4 (Or.inr (slot_ne (Or.inr (ow hw 40 rfl)) (Or.inr (ow hw 42 rfl)) (by decide) (t := .long) (t' := .long) (by decide) (by decide)))
  have O := O.wr W4 g_a1
  have K := K.wr W4 (Or.inl (List.mem_of_getElem? (i := 0) rfl))
  have N := Fr.snoc X4 N g_a1
  show G T4 (mkF m 20 #[rv a1, rv a2, jv q1, .second, jv q2, .second] [])
  exact go X4 (v := none) (fun _ => rfl) (fun fs hr => X4.returnOut hx Bd.returns (hb hby d7_20) hr) (by rw [e4]; exact ⟨rfl, N, K, E_a1, F_player, F_score, F_rank⟩) (by decide) (by decide)
def Q_rm8_n (Z : State) (a1 : Addr) (h0 : Heap) (n0 : Nat) : Option Value → Heap → List Loc → Prop := fun v h L => v = some (.int (0 : Int32)) ∧ L = [] ∧ h = h0
set_option maxRecDepth 65536 in
set_option maxHeartbeats 40000000 in
theorem rm8_n (l : Launch) (Z : State) (a0 : Array Value) (hw : ∀ d ∈ tables_1, d.before a0 Z = true) (ws : List Jvm.Cond) (a1 : Addr) (h0 : Heap) (n0 : Nat) (O : Old Z n0 h0) :
    MetFree l (⟨"com/example/rankle/rankle/Standing", "equals", "(Ljava/lang/Object;)Z"⟩ : MethodName) (head1 (Jvm.Cond.code (⟨"com/example/rankle/rankle/Standing", "equals", "(Ljava/lang/Object;)Z"⟩ : MethodName) prog_16_method_5_code 3 (some .boolean) :: ws) ({ frames := 0, cells := 0, slots := 0, locals := 0 } : Room)) (fun a U => a = #[(.ref a1), .null] ∧ Z.Warmed39 U.vm ∧ U.heap = h0) (fun _ _ _ _ _ => True) (fun _ U o U' => ∃ v L, o = .returned v ∧ (Q_rm8_n Z a1 h0 n0) v U'.heap L ∧ FrameEnd U o U' L ({ frames := 0, cells := 0, slots := 0, locals := 0 } : Room).cells ({ frames := 0, cells := 0, slots := 0, locals := 0 } : Room).slots) := by
  refine MetFree.of_bodySF (plainFor_of_name pn_3) hisR ?_
  intro p e s m args below meth c s₁ Bd hml0 hP hK
  obtain ⟨rfl, hZ, hh⟩ := hP
  have hx := Bd.exec
  have hby := Bd.bytes
  have hml : c.maxLocals = 3 := hml0
  have hown : s.vm.findClass "com/example/rankle/rankle/Standing" = some m.cls := findClass_of_methodNamed Bd.named
  have hnm := (name_of_methodNamed Bd.named Bd.method).1
  have hlk := BodyLoose.notSynchronized Bd
  have X0 : Stand p l e ({ frames := 0, cells := 0, slots := 0, locals := 0 } : Room) s m #[(.ref a1), .null] below meth c s₁ [] 0 0 := Stand.of_body Bd
  have e0 : s₁.heap = h0 := by rw [← hh, Bd.state]; rfl
  have N := Fr.nil n0
  obtain ⟨G, hG⟩ : ∃ G : State → JFrame → Prop, G = OwnG p e below s ({ frames := 0, cells := 0, slots := 0, locals := 0 } : Room).cells ({ frames := 0, cells := 0, slots := 0, locals := 0 } : Room).slots (Q_rm8_n Z a1 h0 n0) := ⟨_, rfl⟩
  have gb : ∀ {T T' : State} {g g' : JFrame}, (∀ t, Steps p.tables e below (T'.setTop g') t → Steps p.tables e below (T.setTop g) t) → G T' g' → G T g := by subst hG; exact fun k h => own_by k h
  have go : ∀ {T : State} {locs : List Loc} {cells slots : Nat} {g : JFrame} {v : Option Value}, Stand p l e ({ frames := 0, cells := 0, slots := 0, locals := 0 } : Room) s m #[(.ref a1), .null] below meth c T locs cells slots → (meth.sig.returnType = none → v = none) → (∀ fs, (∀ (f : JFrame) (acts : List Action), f.method = m → f.locked = none → f.entered = [] → (doReturn e (T.setTop f) acts v).1 = T.setFrames fs) → Steps p.tables e below (T.setTop g) (T.setFrames fs)) → (Q_rm8_n Z a1 h0 n0) v T.heap locs → cells ≤ ({ frames := 0, cells := 0, slots := 0, locals := 0 } : Room).cells → slots ≤ ({ frames := 0, cells := 0, slots := 0, locals := 0 } : Room).slots → G T g := by subst hG; exact fun X h1 h2 h3 h4 h5 => own_out X hlk h1 h2 h3 h4 h5
  show OwnG p e below s ({ frames := 0, cells := 0, slots := 0, locals := 0 } : Room).cells ({ frames := 0, cells := 0, slots := 0, locals := 0 } : Room).slots (Q_rm8_n Z a1 h0 n0) s₁ (entryFrame m #[(.ref a1), .null] 3)
  rw [← hG, ef_rm8_n m a1]
  clear hG
  show G s₁ (mkF m 0 #[.val (.ref a1), .val .null, .unset] [])
  refine gb (fun _ k => XS.aloadN X0.here hx rfl (hb hby d8_0) rfl rfl k) ?_
  show G s₁ (mkF m 1 #[rv a1, .val .null, .unset] [.null])
  refine gb (X0.instanceofNull hx (g := (mkF m 1 #[rv a1, .val .null, .unset] [.null])) rfl rfl (hb hby d8_1)) ?_
  show G s₁ (mkF m 4 #[rv a1, .val .null, .unset] [.int 0])
  refine gb (fun _ k => XS.ifNo X0.here hx rfl (hb hby d8_4) rfl ((if0 _ _).trans (teq (by decide : (0 : Int32) = (0 : Int32))).2) (XS.iconst X0.here hx rfl (hb hby d8_7) k)) ?_
  show G s₁ (mkF m 8 #[rv a1, .val .null, .unset] [.int 0])
  exact go X0 (v := (some (.int (0 : Int32)))) (fun h => by rw [Bd.returns] at h; cases h) (fun fs hr => retOut X0 hx Bd.returns rfl (Or.inl ⟨rfl, by simp, _, rfl⟩) (hb hby d8_8) hr) (⟨rfl, rfl, e0⟩) (by decide) (by decide)
def Q_rm8_s (Z : State) (a1 a2 : Addr) (h0 : Heap) (n0 : Nat) : Option Value → Heap → List Loc → Prop := fun v h L => v = some (.int (0 : Int32)) ∧ L = [] ∧ h = h0
set_option maxRecDepth 65536 in
set_option maxHeartbeats 40000000 in
theorem rm8_s (l : Launch) (Z : State) (a0 : Array Value) (hw : ∀ d ∈ tables_1, d.before a0 Z = true) (ws : List Jvm.Cond) (a1 a2 : Addr) (h0 : Heap) (n0 : Nat) (O : Old Z n0 h0) (E_a2 : Exa Z h0 a2 "java/lang/String") :
    MetFree l (⟨"com/example/rankle/rankle/Standing", "equals", "(Ljava/lang/Object;)Z"⟩ : MethodName) (head1 (Jvm.Cond.code (⟨"com/example/rankle/rankle/Standing", "equals", "(Ljava/lang/Object;)Z"⟩ : MethodName) prog_16_method_5_code 3 (some .boolean) :: ws) ({ frames := 0, cells := 0, slots := 0, locals := 0 } : Room)) (fun a U => a = #[(.ref a1), (.ref a2)] ∧ Z.Warmed39 U.vm ∧ U.heap = h0) (fun _ _ _ _ _ => True) (fun _ U o U' => ∃ v L, o = .returned v ∧ (Q_rm8_s Z a1 a2 h0 n0) v U'.heap L ∧ FrameEnd U o U' L ({ frames := 0, cells := 0, slots := 0, locals := 0 } : Room).cells ({ frames := 0, cells := 0, slots := 0, locals := 0 } : Room).slots) := by
  refine MetFree.of_bodySF (plainFor_of_name pn_3) hisR ?_
  intro p e s m args below meth c s₁ Bd hml0 hP hK
  obtain ⟨rfl, hZ, hh⟩ := hP
  have hx := Bd.exec
  have hby := Bd.bytes
  have hml : c.maxLocals = 3 := hml0
  have hown : s.vm.findClass "com/example/rankle/rankle/Standing" = some m.cls := findClass_of_methodNamed Bd.named
  have hnm := (name_of_methodNamed Bd.named Bd.method).1
  have hlk := BodyLoose.notSynchronized Bd
  have X0 : Stand p l e ({ frames := 0, cells := 0, slots := 0, locals := 0 } : Room) s m #[(.ref a1), (.ref a2)] below meth c s₁ [] 0 0 := Stand.of_body Bd
  have e0 : s₁.heap = h0 := by rw [← hh, Bd.state]; rfl
  have N := Fr.nil n0
  obtain ⟨G, hG⟩ : ∃ G : State → JFrame → Prop, G = OwnG p e below s ({ frames := 0, cells := 0, slots := 0, locals := 0 } : Room).cells ({ frames := 0, cells := 0, slots := 0, locals := 0 } : Room).slots (Q_rm8_s Z a1 a2 h0 n0) := ⟨_, rfl⟩
  have gb : ∀ {T T' : State} {g g' : JFrame}, (∀ t, Steps p.tables e below (T'.setTop g') t → Steps p.tables e below (T.setTop g) t) → G T' g' → G T g := by subst hG; exact fun k h => own_by k h
  have go : ∀ {T : State} {locs : List Loc} {cells slots : Nat} {g : JFrame} {v : Option Value}, Stand p l e ({ frames := 0, cells := 0, slots := 0, locals := 0 } : Room) s m #[(.ref a1), (.ref a2)] below meth c T locs cells slots → (meth.sig.returnType = none → v = none) → (∀ fs, (∀ (f : JFrame) (acts : List Action), f.method = m → f.locked = none → f.entered = [] → (doReturn e (T.setTop f) acts v).1 = T.setFrames fs) → Steps p.tables e below (T.setTop g) (T.setFrames fs)) → (Q_rm8_s Z a1 a2 h0 n0) v T.heap locs → cells ≤ ({ frames := 0, cells := 0, slots := 0, locals := 0 } : Room).cells → slots ≤ ({ frames := 0, cells := 0, slots := 0, locals := 0 } : Room).slots → G T g := by subst hG; exact fun X h1 h2 h3 h4 h5 => own_out X hlk h1 h2 h3 h4 h5
  show OwnG p e below s ({ frames := 0, cells := 0, slots := 0, locals := 0 } : Room).cells ({ frames := 0, cells := 0, slots := 0, locals := 0 } : Room).slots (Q_rm8_s Z a1 a2 h0 n0) s₁ (entryFrame m #[(.ref a1), (.ref a2)] 3)
  rw [← hG, ef_rm8_s m a1 a2]
  clear hG
  show G s₁ (mkF m 0 #[.val (.ref a1), .val (.ref a2), .unset] [])
  refine gb (fun _ k => XS.aloadN X0.here hx rfl (hb hby d8_0) rfl rfl k) ?_
  show G s₁ (mkF m 1 #[rv a1, rv a2, .unset] [.ref a2])
  obtain ⟨T1, X1, e1, st1⟩ := instNo X0 hx hZ hown (ow hw 48 rfl) e0 E_a2 (own_notInst (ow hw 60 rfl) (ow hw 61 rfl) (ow hw 31 rfl) (by decide) (by decide)) (g := (mkF m 1 #[rv a1, rv a2, .unset] [.ref a2])) rfl rfl (hb hby d8_1)
  refine gb st1 ?_
  show G T1 (mkF m 4 #[rv a1, rv a2, .unset] [.int 0])
  refine gb (fun _ k => XS.ifNo X1.here hx rfl (hb hby d8_4) rfl ((if0 _ _).trans (teq (by decide : (0 : Int32) = (0 : Int32))).2) (XS.iconst X1.here hx rfl (hb hby d8_7) k)) ?_
  show G T1 (mkF m 8 #[rv a1, rv a2, .unset] [.int 0])
  exact go X1 (v := (some (.int (0 : Int32)))) (fun h => by rw [Bd.returns] at h; cases h) (fun fs hr => retOut X1 hx Bd.returns rfl (Or.inl ⟨rfl, by simp, _, rfl⟩) (hb hby d8_8) hr) (⟨rfl, rfl, e1⟩) (by decide) (by decide)
theorem own_no2 {x0 x1 y0 y1 : Int32} (h : ¬ (x0 = y0 ∧ x1 = y1)) : (if x0 = y0 then (if x1 = y1 then (1 : Int32) else (0 : Int32)) else (0 : Int32)) = (0 : Int32) := by
  by_cases h1 : x0 = y0
  · rw [if_pos h1, if_neg (fun h2 => h ⟨h1, h2⟩)]
  · rw [if_neg h1]
def Q_rm8_t (Z : State) (a1 a2 a3 a4 a5 a6 : Addr) (k3 k4 : ClassId) (x0 x1 y0 y1 k1 : Int32) (q1 q2 q3 q4 : Int64) (h0 : Heap) (n0 : Nat) (zc : Int32) : Option Value → Heap → List Loc → Prop := fun v h L => v = some (.int k1) ∧ L = [] ∧ h = h0
set_option maxRecDepth 65536 in
set_option maxHeartbeats 40000000 in
theorem rm8_t (l : Launch) (Z : State) (a0 : Array Value) (hw : ∀ d ∈ tables_1, d.before a0 Z = true) (ws : List Jvm.Cond) (a1 a2 a3 a4 a5 a6 : Addr) (k3 k4 : ClassId) (x0 x1 y0 y1 k1 : Int32) (q1 q2 q3 q4 : Int64) (h0 : Heap) (n0 : Nat) (O : Old Z n0 h0) (E_a1 : Exa Z h0 a1 "com/example/rankle/rankle/Standing") (F_player_a1 : Fld Z h0 a1 "com/example/rankle/rankle/Standing" "player" "Ljava/lang/String;" (.ref a5)) (F_score_a1 : Fld Z h0 a1 "com/example/rankle/rankle/Standing" "score" "J" (.long q1)) (F_rank_a1 : Fld Z h0 a1 "com/example/rankle/rankle/Standing" "rank" "J" (.long q2)) (E_a2 : Exa Z h0 a2 "com/example/rankle/rankle/Standing") (F_player_a2 : Fld Z h0 a2 "com/example/rankle/rankle/Standing" "player" "Ljava/lang/String;" (.ref a6)) (F_score_a2 : Fld Z h0 a2 "com/example/rankle/rankle/Standing" "score" "J" (.long q3)) (F_rank_a2 : Fld Z h0 a2 "com/example/rankle/rankle/Standing" "rank" "J" (.long q4)) (E_a5 : Exa Z h0 a5 "java/lang/String") (E_a6 : Exa Z h0 a6 "java/lang/String") (F_c1 : Fld Z h0 a5 "java/lang/String" "coder" "B" (.int (0 : Int32))) (F_v1 : Fld Z h0 a5 "java/lang/String" "value" "[B" (.ref a3)) (F_c2 : Fld Z h0 a6 "java/lang/String" "coder" "B" (.int (0 : Int32))) (F_v2 : Fld Z h0 a6 "java/lang/String" "value" "[B" (.ref a4)) (V_a3 : Arv Z h0 a3 k3 .byte (2 : Int32) [(.int x0), (.int x1)] (.int (0 : Int32))) (V_a4 : Arv Z h0 a4 k4 .byte (2 : Int32) [(.int y0), (.int y1)] (.int (0 : Int32))) (ne_a5_a6 : ¬ a5 = a6) (zc : Int32) (S_cs : Sta Z Z.heap "java/lang/String" "COMPACT_STRINGS" "Z" (.int zc)) (hzc : ¬ zc = (0 : Int32)) (hr : (if x0 = y0 then (if x1 = y1 then (if q1 = q3 then (if q2 = q4 then (1 : Int32) else (0 : Int32)) else (0 : Int32)) else (0 : Int32)) else (0 : Int32)) = k1) :
    MetFree l (⟨"com/example/rankle/rankle/Standing", "equals", "(Ljava/lang/Object;)Z"⟩ : MethodName) (head1 (Jvm.Cond.code (⟨"com/example/rankle/rankle/Standing", "equals", "(Ljava/lang/Object;)Z"⟩ : MethodName) prog_16_method_5_code 3 (some .boolean) :: ws) ({ frames := 2, cells := 0, slots := 0, locals := 28 } : Room)) (fun a U => a = #[(.ref a1), (.ref a2)] ∧ Z.Warmed39 U.vm ∧ U.heap = h0) (fun _ _ _ _ _ => True) (fun _ U o U' => ∃ v L, o = .returned v ∧ (Q_rm8_t Z a1 a2 a3 a4 a5 a6 k3 k4 x0 x1 y0 y1 k1 q1 q2 q3 q4 h0 n0 zc) v U'.heap L ∧ FrameEnd U o U' L ({ frames := 2, cells := 0, slots := 0, locals := 28 } : Room).cells ({ frames := 2, cells := 0, slots := 0, locals := 28 } : Room).slots) := by
  refine MetFree.of_bodySF (plainFor_of_name pn_3) hisR ?_
  intro p e s m args below meth c s₁ Bd hml0 hP hK
  obtain ⟨rfl, hZ, hh⟩ := hP
  have hx := Bd.exec
  have hby := Bd.bytes
  have hml : c.maxLocals = 3 := hml0
  have hown : s.vm.findClass "com/example/rankle/rankle/Standing" = some m.cls := findClass_of_methodNamed Bd.named
  have hnm := (name_of_methodNamed Bd.named Bd.method).1
  have hlk := BodyLoose.notSynchronized Bd
  have X0 : Stand p l e ({ frames := 2, cells := 0, slots := 0, locals := 28 } : Room) s m #[(.ref a1), (.ref a2)] below meth c s₁ [] 0 0 := Stand.of_body Bd
  have e0 : s₁.heap = h0 := by rw [← hh, Bd.state]; rfl
  have N := Fr.nil n0
  obtain ⟨G, hG⟩ : ∃ G : State → JFrame → Prop, G = OwnG p e below s ({ frames := 2, cells := 0, slots := 0, locals := 28 } : Room).cells ({ frames := 2, cells := 0, slots := 0, locals := 28 } : Room).slots (Q_rm8_t Z a1 a2 a3 a4 a5 a6 k3 k4 x0 x1 y0 y1 k1 q1 q2 q3 q4 h0 n0 zc) := ⟨_, rfl⟩
  have gb : ∀ {T T' : State} {g g' : JFrame}, (∀ t, Steps p.tables e below (T'.setTop g') t → Steps p.tables e below (T.setTop g) t) → G T' g' → G T g := by subst hG; exact fun k h => own_by k h
  have go : ∀ {T : State} {locs : List Loc} {cells slots : Nat} {g : JFrame} {v : Option Value}, Stand p l e ({ frames := 2, cells := 0, slots := 0, locals := 28 } : Room) s m #[(.ref a1), (.ref a2)] below meth c T locs cells slots → (meth.sig.returnType = none → v = none) → (∀ fs, (∀ (f : JFrame) (acts : List Action), f.method = m → f.locked = none → f.entered = [] → (doReturn e (T.setTop f) acts v).1 = T.setFrames fs) → Steps p.tables e below (T.setTop g) (T.setFrames fs)) → (Q_rm8_t Z a1 a2 a3 a4 a5 a6 k3 k4 x0 x1 y0 y1 k1 q1 q2 q3 q4 h0 n0 zc) v T.heap locs → cells ≤ ({ frames := 2, cells := 0, slots := 0, locals := 28 } : Room).cells → slots ≤ ({ frames := 2, cells := 0, slots := 0, locals := 28 } : Room).slots → G T g := by subst hG; exact fun X h1 h2 h3 h4 h5 => own_out X hlk h1 h2 h3 h4 h5
  show OwnG p e below s ({ frames := 2, cells := 0, slots := 0, locals := 28 } : Room).cells ({ frames := 2, cells := 0, slots := 0, locals := 28 } : Room).slots (Q_rm8_t Z a1 a2 a3 a4 a5 a6 k3 k4 x0 x1 y0 y1 k1 q1 q2 q3 q4 h0 n0 zc) s₁ (entryFrame m #[(.ref a1), (.ref a2)] 3)
  rw [← hG, ef_rm8_t m a1 a2]
  clear hG
  show G s₁ (mkF m 0 #[.val (.ref a1), .val (.ref a2), .unset] [])
  refine gb (fun _ k => XS.aloadN X0.here hx rfl (hb hby d8_0) rfl rfl k) ?_
  show G s₁ (mkF m 1 #[rv a1, rv a2, .unset] [.ref a2])
  obtain ⟨T1, X1, e1, st1⟩ := instY X0 hx hZ hown (ow hw 48 rfl) e0 (Ins.self E_a2) (g := (mkF m 1 #[rv a1, rv a2, .unset] [.ref a2])) rfl rfl (hb hby d8_1)
  refine gb st1 ?_
  show G T1 (mkF m 4 #[rv a1, rv a2, .unset] [.int 1])
  refine gb (fun _ k => XS.ifYes X1.here hx rfl (pc0 := 4) (pc' := 9) rfl (hb hby d8_4) rfl ((if0 _ _).trans (feq (by decide : ¬ ((1 : Int32) = (0 : Int32)))).2) (by decide) (by decide) (XS.aloadN X1.here hx rfl (hb hby d8_9) rfl rfl k)) ?_
  show G T1 (mkF m 10 #[rv a1, rv a2, .unset] [.ref a2])
  obtain ⟨T2, X2, e2, st2⟩ := castY X1 hx hZ hown (ow hw 48 rfl) e1 (Ins.self E_a2) (g := (mkF m 10 #[rv a1, rv a2, .unset] [.ref a2])) rfl rfl (hb hby d8_10)
  refine gb st2 ?_
  show G T2 (mkF m 13 #[rv a1, rv a2, .unset] [.ref a2])
  refine gb (fun _ k => XS.astoreN X2.here hx rfl (hb hby d8_13) rfl rfl (l' := #[rv a1, rv a2, rv a2]) rfl (XS.aloadN X2.here hx rfl (hb hby d8_14) rfl rfl k)) ?_
  show G T2 (mkF m 15 #[rv a1, rv a2, rv a2] [.ref a1])
  obtain ⟨T3, X3, e3, st3⟩ := getF X2 hx hZ hown (host := "") (Or.inl (ow hw 37 rfl)) Via.refl e2 F_player_a1 (g := (mkF m 15 #[rv a1, rv a2, rv a2] [.ref a1])) rfl rfl (hb hby d8_15)
  refine gb st3 ?_
  show G T3 (mkF m 18 #[rv a1, rv a2, rv a2] [.ref a5])
  refine gb (fun _ k => XS.aloadN X3.here hx rfl (hb hby d8_18) rfl rfl k) ?_
  show G T3 (mkF m 19 #[rv a1, rv a2, rv a2] [.ref a2, .ref a5])
  obtain ⟨T4, X4, e4, st4⟩ := getF X3 hx hZ hown (host := "") (Or.inl (ow hw 37 rfl)) Via.refl e3 F_player_a2 (g := (mkF m 19 #[rv a1, rv a2, rv a2] [.ref a2, .ref a5])) rfl rfl (hb hby d8_19)
  refine gb st4 ?_
  show G T4 (mkF m 22 #[rv a1, rv a2, rv a2] [.ref a6, .ref a5])
  by_cases hE : (x0 = y0 ∧ x1 = y1)
  · skip
    obtain ⟨cq5, kq5, q5a, q5b, q5c⟩ := isOf hZ e4 E_a5
    obtain ⟨_, _, ⟨T5, Lz5, kz5, nz5⟩, -, X5, ⟨Lc5, hQ5, lq5, yq5, zq5⟩, st5⟩ := X4.virtualBack hx (y := (⟨"java/lang/String", "equals", "(Ljava/lang/Object;)Z"⟩ : MethodName)) (z := (⟨"java/lang/String", "equals", "(Ljava/lang/Object;)Z"⟩ : MethodName)) hown (mvT hZ (ow hw 50 rfl)) (mvT hZ (ow hw 51 rfl)) (notFace_of_selects (args := #[]) (mvT hZ (ow hw 53 rfl))) (mvT hZ (ow hw 53 rfl)) (mvT hZ (ow hw 52 rfl)) (by decide) (backOf (W := 0) (rmEq_2_2 l Z a0 hw [] a5 a6 a3 a4 k3 k4 x0 x1 y0 y1 (1 : Int32) h0 n0 O E_a5 E_a6 F_c1 F_v1 F_c2 F_v2 V_a3 V_a4 zc S_cs hzc ne_a5_a6 (by rw [if_pos hE.1, if_pos hE.2]) (by decide)) hZ (ow hw 54 rfl) (ow hw 2 rfl) (by decide) (by decide)) q5a q5c (g := (mkF m 22 #[rv a1, rv a2, rv a2] [.ref a6, .ref a5])) rfl (by rw [hml]; rfl) (Steps.refl _) (argsL := [(.ref a6)]) (rest := []) (lenOf pd_5 rfl) rfl (by show 2 * 0 + _ ≤ _; exact Nat.le_of_eq rfl) (hb hby d8_22) (fun _ _ => ⟨rfl, e4, (by decide : 0 + 0 ≤ _), (by decide : 0 + 0 ≤ _)⟩)
    dsimp only [Pt.U, Pt.locs, Pt.cells, Pt.slots] at X5 lq5 yq5 zq5 st5 hQ5
    subst lq5 yq5 zq5
    obtain ⟨rfl, rfl, e5⟩ := hQ5
    try rw [List.append_nil] at X5
    refine gb (fun _ k => st5.trans k) ?_
    show G T5 (mkF m 25 #[rv a1, rv a2, rv a2] [.int 1])
    refine gb (fun _ k => XS.ifNo X5.here hx rfl (hb hby d8_25) rfl ((if0 _ _).trans (feq (by decide : ¬ ((1 : Int32) = (0 : Int32)))).1) (XS.aloadN X5.here hx rfl (hb hby d8_28) rfl rfl k)) ?_
    show G T5 (mkF m 29 #[rv a1, rv a2, rv a2] [.ref a1])
    obtain ⟨T6, X6, e6, st6⟩ := getF X5 hx hZ hown (host := "") (Or.inl (ow hw 39 rfl)) Via.refl e5 F_score_a1 (g := (mkF m 29 #[rv a1, rv a2, rv a2] [.ref a1])) rfl rfl (hb hby d8_29)
    refine gb st6 ?_
    show G T6 (mkF m 32 #[rv a1, rv a2, rv a2] [.long q1])
    refine gb (fun _ k => XS.aloadN X6.here hx rfl (hb hby d8_32) rfl rfl k) ?_
    show G T6 (mkF m 33 #[rv a1, rv a2, rv a2] [.ref a2, .long q1])
    obtain ⟨T7, X7, e7, st7⟩ := getF X6 hx hZ hown (host := "") (Or.inl (ow hw 39 rfl)) Via.refl e6 F_score_a2 (g := (mkF m 33 #[rv a1, rv a2, rv a2] [.ref a2, .long q1])) rfl rfl (hb hby d8_33)
    refine gb st7 ?_
    show G T7 (mkF m 36 #[rv a1, rv a2, rv a2] [.long q3, .long q1])
    refine gb (fun _ k => XS.lcmp X7.here hx rfl (hb hby d8_36) rfl k) ?_
    show G T7 (mkF m 37 #[rv a1, rv a2, rv a2] [.int (lcmpW q1 q3)])
    by_cases hc37 : q1 = q3
    · skip
      refine gb (fun _ k => XS.ifNo X7.here hx rfl (hb hby d8_37) rfl ((if0 _ _).trans (teq ((own_eq _ _).mpr hc37)).2) (XS.aloadN X7.here hx rfl (hb hby d8_40) rfl rfl k)) ?_
      show G T7 (mkF m 41 #[rv a1, rv a2, rv a2] [.ref a1])
      obtain ⟨T8, X8, e8, st8⟩ := getF X7 hx hZ hown (host := "") (Or.inl (ow hw 41 rfl)) Via.refl e7 F_rank_a1 (g := (mkF m 41 #[rv a1, rv a2, rv a2] [.ref a1])) rfl rfl (hb hby d8_41)
      refine gb st8 ?_
      show G T8 (mkF m 44 #[rv a1, rv a2, rv a2] [.long q2])
      refine gb (fun _ k => XS.aloadN X8.here hx rfl (hb hby d8_44) rfl rfl k) ?_
      show G T8 (mkF m 45 #[rv a1, rv a2, rv a2] [.ref a2, .long q2])
      obtain ⟨T9, X9, e9, st9⟩ := getF X8 hx hZ hown (host := "") (Or.inl (ow hw 41 rfl)) Via.refl e8 F_rank_a2 (g := (mkF m 45 #[rv a1, rv a2, rv a2] [.ref a2, .long q2])) rfl rfl (hb hby d8_45)
      refine gb st9 ?_
      show G T9 (mkF m 48 #[rv a1, rv a2, rv a2] [.long q4, .long q2])
      refine gb (fun _ k => XS.lcmp X9.here hx rfl (hb hby d8_48) rfl k) ?_
      show G T9 (mkF m 49 #[rv a1, rv a2, rv a2] [.int (lcmpW q2 q4)])
      by_cases hc49 : q2 = q4
      · skip
        refine gb (fun _ k => XS.ifNo X9.here hx rfl (hb hby d8_49) rfl ((if0 _ _).trans (teq ((own_eq _ _).mpr hc49)).2) (XS.iconst X9.here hx rfl (hb hby d8_52) (XS.goto X9.here hx rfl (pc0 := 53) (pc' := 57) rfl (hb hby d8_53) (by decide) (by decide) k))) ?_
        show G T9 (mkF m 57 #[rv a1, rv a2, rv a2] [.int 1])
        exact go X9 (v := (some (.int (1 : Int32)))) (fun h => by rw [Bd.returns] at h; cases h) (fun fs hr => retOut X9 hx Bd.returns rfl (Or.inl ⟨rfl, by simp, _, rfl⟩) (hb hby d8_57) hr) (⟨by rw [← hr, if_pos hE.1, if_pos hE.2, if_pos hc37, if_pos hc49], rfl, e9⟩) (by decide) (by decide)
      · skip
        refine gb (fun _ k => XS.ifYes X9.here hx rfl (pc0 := 49) (pc' := 56) rfl (hb hby d8_49) rfl ((if0 _ _).trans (feq (fun q => hc49 ((own_eq _ _).mp q))).2) (by decide) (by decide) (XS.iconst X9.here hx rfl (hb hby d8_56) k)) ?_
        show G T9 (mkF m 57 #[rv a1, rv a2, rv a2] [.int 0])
        exact go X9 (v := (some (.int (0 : Int32)))) (fun h => by rw [Bd.returns] at h; cases h) (fun fs hr => retOut X9 hx Bd.returns rfl (Or.inl ⟨rfl, by simp, _, rfl⟩) (hb hby d8_57) hr) (⟨by rw [← hr, if_pos hE.1, if_pos hE.2, if_pos hc37, if_neg hc49], rfl, e9⟩) (by decide) (by decide)
    · skip
      refine gb (fun _ k => XS.ifYes X7.here hx rfl (pc0 := 37) (pc' := 56) rfl (hb hby d8_37) rfl ((if0 _ _).trans (feq (fun q => hc37 ((own_eq _ _).mp q))).2) (by decide) (by decide) (XS.iconst X7.here hx rfl (hb hby d8_56) k)) ?_
      show G T7 (mkF m 57 #[rv a1, rv a2, rv a2] [.int 0])
      exact go X7 (v := (some (.int (0 : Int32)))) (fun h => by rw [Bd.returns] at h; cases h) (fun fs hr => retOut X7 hx Bd.returns rfl (Or.inl ⟨rfl, by simp, _, rfl⟩) (hb hby d8_57) hr) (⟨by rw [← hr, if_pos hE.1, if_pos hE.2, if_neg hc37], rfl, e7⟩) (by decide) (by decide)
  · skip
    obtain ⟨cq10, kq10, q10a, q10b, q10c⟩ := isOf hZ e4 E_a5
    obtain ⟨_, _, ⟨T10, Lz10, kz10, nz10⟩, -, X10, ⟨Lc10, hQ10, lq10, yq10, zq10⟩, st10⟩ := X4.virtualBack hx (y := (⟨"java/lang/String", "equals", "(Ljava/lang/Object;)Z"⟩ : MethodName)) (z := (⟨"java/lang/String", "equals", "(Ljava/lang/Object;)Z"⟩ : MethodName)) hown (mvT hZ (ow hw 50 rfl)) (mvT hZ (ow hw 51 rfl)) (notFace_of_selects (args := #[]) (mvT hZ (ow hw 53 rfl))) (mvT hZ (ow hw 53 rfl)) (mvT hZ (ow hw 52 rfl)) (by decide) (backOf (W := 0) (rmEq_2_2 l Z a0 hw [] a5 a6 a3 a4 k3 k4 x0 x1 y0 y1 (0 : Int32) h0 n0 O E_a5 E_a6 F_c1 F_v1 F_c2 F_v2 V_a3 V_a4 zc S_cs hzc ne_a5_a6 (own_no2 hE) (by decide)) hZ (ow hw 54 rfl) (ow hw 2 rfl) (by decide) (by decide)) q10a q10c (g := (mkF m 22 #[rv a1, rv a2, rv a2] [.ref a6, .ref a5])) rfl (by rw [hml]; rfl) (Steps.refl _) (argsL := [(.ref a6)]) (rest := []) (lenOf pd_5 rfl) rfl (by show 2 * 0 + _ ≤ _; exact Nat.le_of_eq rfl) (hb hby d8_22) (fun _ _ => ⟨rfl, e4, (by decide : 0 + 0 ≤ _), (by decide : 0 + 0 ≤ _)⟩)
    dsimp only [Pt.U, Pt.locs, Pt.cells, Pt.slots] at X10 lq10 yq10 zq10 st10 hQ10
    subst lq10 yq10 zq10
    obtain ⟨rfl, rfl, e10⟩ := hQ10
    try rw [List.append_nil] at X10
    refine gb (fun _ k => st10.trans k) ?_
    show G T10 (mkF m 25 #[rv a1, rv a2, rv a2] [.int 0])
    refine gb (fun _ k => XS.ifYes X10.here hx rfl (pc0 := 25) (pc' := 56) rfl (hb hby d8_25) rfl ((if0 _ _).trans (teq (by decide : (0 : Int32) = (0 : Int32))).1) (by decide) (by decide) (XS.iconst X10.here hx rfl (hb hby d8_56) k)) ?_
    show G T10 (mkF m 57 #[rv a1, rv a2, rv a2] [.int 0])
    exact go X10 (v := (some (.int (0 : Int32)))) (fun h => by rw [Bd.returns] at h; cases h) (fun fs hr => retOut X10 hx Bd.returns rfl (Or.inl ⟨rfl, by simp, _, rfl⟩) (hb hby d8_57) hr) (⟨by rw [← hr, own_n2 hE], rfl, e10⟩) (by decide) (by decide)
theorem own_kind (i1 : Int32) (h0 : ¬ (((i1.toUInt32 >>> ((24 : Int32) &&& 31).toUInt32).toInt32) &&& (3 : Int32)) = (0 : Int32)) (h1 : ¬ (((i1.toUInt32 >>> ((24 : Int32) &&& 31).toUInt32).toInt32) &&& (3 : Int32)) = (1 : Int32)) : ¬ ((((i1.toUInt32 >>> ((24 : Int32) &&& 31).toUInt32).toInt32) &&& (3 : Int32)) < (2 : Int32)) := by
  have h := c_and ((i1.toUInt32 >>> ((24 : Int32) &&& 31).toUInt32).toInt32) (3 : Int32) (by decide)
  generalize (((i1.toUInt32 >>> ((24 : Int32) &&& 31).toUInt32).toInt32) &&& (3 : Int32)) = y at h h0 h1 ⊢
  rw [Int32.lt_iff_toInt_lt]
  have a0 : (0 : Int32).toInt = 0 := rfl
  have a1 : (1 : Int32).toInt = 1 := rfl
  have a2 : (2 : Int32).toInt = 2 := rfl
  have b0 : y.toInt ≠ 0 := fun e => h0 (Int32.toInt_inj.mp (by rw [e, a0]))
  have b1 : y.toInt ≠ 1 := fun e => h1 (Int32.toInt_inj.mp (by rw [e, a1]))
  omega
def Q_rm0 (Z : State) (i0 i1 : Int32) (i2 i3 i4 i5 : Int64) (h0 : Heap) (n0 : Nat) (zc : Int32) : Option Value → Heap → List Loc → Prop := fun v h L => v = some (.int 1) ∧ Fr n0 L
set_option maxRecDepth 65536 in
set_option maxHeartbeats 40000000 in
theorem rm0 (l : Launch) (Z : State) (a0 : Array Value) (hw : ∀ d ∈ tables_1, d.before a0 Z = true) (ws : List Jvm.Cond) (i0 i1 : Int32) (i2 i3 i4 i5 : Int64) (h0 : Heap) (n0 : Nat) (O : Old Z n0 h0) (zc : Int32) (S_cs : Sta Z Z.heap "java/lang/String" "COMPACT_STRINGS" "Z" (.int zc)) (hzc : ¬ zc = (0 : Int32)) :
    MetFree l x (head1 (Jvm.Cond.code x code maxLocals ret :: ws) room_1) (fun a U => a = #[(.int i0), (.int i1), (.long i2), (.long i3), (.long i4), (.long i5)] ∧ Z.Warmed39 U.vm ∧ U.heap = h0 ∧ U = Z) (fun _ _ _ _ _ => True) (fun _ U o U' => ∃ v L, o = .returned v ∧ (Q_rm0 Z i0 i1 i2 i3 i4 i5 h0 n0 zc) v U'.heap L ∧ FrameEnd U o U' L 8 22) := by
  refine MetFree.of_bodySF (plainFor_of_name pn_4) hisR ?_
  intro p e s m args below meth c s₁ Bd hml0 hP hK
  obtain ⟨rfl, hZ, hh, hUZ⟩ := hP
  have hx := Bd.exec
  have hby := Bd.bytes
  have hml : c.maxLocals = 24 := hml0
  have hown : s.vm.findClass "com/example/rankle/rankle/StandingEqualsPinLaw" = some m.cls := findClass_of_methodNamed Bd.named
  have hnm := (name_of_methodNamed Bd.named Bd.method).1
  have hlk := BodyLoose.notSynchronized Bd
  have X0 : Stand p l e room_1 s m #[(.int i0), (.int i1), (.long i2), (.long i3), (.long i4), (.long i5)] below meth c s₁ [] 0 0 := Stand.of_body Bd
  have e0 : s₁.heap = h0 := by rw [← hh, Bd.state]; rfl
  have N := Fr.nil n0
  have O0 := O
  obtain ⟨G, hG⟩ : ∃ G : State → JFrame → Prop, G = OwnG p e below s 8 22 (Q_rm0 Z i0 i1 i2 i3 i4 i5 h0 n0 zc) := ⟨_, rfl⟩
  have gb : ∀ {T T' : State} {g g' : JFrame}, (∀ t, Steps p.tables e below (T'.setTop g') t → Steps p.tables e below (T.setTop g) t) → G T' g' → G T g := by subst hG; exact fun k h => own_by k h
  have go : ∀ {T : State} {locs : List Loc} {cells slots : Nat} {g : JFrame} {v : Option Value}, Stand p l e room_1 s m #[(.int i0), (.int i1), (.long i2), (.long i3), (.long i4), (.long i5)] below meth c T locs cells slots → (meth.sig.returnType = none → v = none) → (∀ fs, (∀ (f : JFrame) (acts : List Action), f.method = m → f.locked = none → f.entered = [] → (doReturn e (T.setTop f) acts v).1 = T.setFrames fs) → Steps p.tables e below (T.setTop g) (T.setFrames fs)) → (Q_rm0 Z i0 i1 i2 i3 i4 i5 h0 n0 zc) v T.heap locs → cells ≤ 8 → slots ≤ 22 → G T g := by subst hG; exact fun X h1 h2 h3 h4 h5 => own_out X hlk h1 h2 h3 h4 h5
  show OwnG p e below s 8 22 (Q_rm0 Z i0 i1 i2 i3 i4 i5 h0 n0 zc) s₁ (entryFrame m #[(.int i0), (.int i1), (.long i2), (.long i3), (.long i4), (.long i5)] maxLocals)
  rw [← hG, ef_rm0 m i0 i1 i2 i3 i4 i5]
  clear hG
  show G s₁ (mkF m 0 #[.val (.int i0), .val (.int i1), .val (.long i2), .second, .val (.long i3), .second, .val (.long i4), .second, .val (.long i5), .second, .unset, .unset, .unset, .unset, .unset, .unset, .unset, .unset, .unset, .unset, .unset, .unset, .unset, .unset] [])
  refine gb (fun _ k => XS.iloadN X0.here hx rfl (hb hby at_0) rfl (XS.sipush X0.here hx rfl (hb hby at_1) (XS.iand X0.here hx rfl (hb hby at_4) rfl (XS.i2c X0.here hx rfl (hb hby at_5) rfl k)))) ?_
  show G s₁ (mkF m 6 #[iv i0, iv i1, jv i2, .second, jv i3, .second, jv i4, .second, jv i5, .second, .unset, .unset, .unset, .unset, .unset, .unset, .unset, .unset, .unset, .unset, .unset, .unset, .unset, .unset] [.int ((i0 &&& (255 : Int32)).toUInt32.toUInt16.toUInt32.toInt32)])
  rw [own_c8]
  show G s₁ (mkF m 6 #[iv i0, iv i1, jv i2, .second, jv i3, .second, jv i4, .second, jv i5, .second, .unset, .unset, .unset, .unset, .unset, .unset, .unset, .unset, .unset, .unset, .unset, .unset, .unset, .unset] [.int (i0 &&& (255 : Int32))])
  refine gb (fun _ k => XS.istore X0.here hx rfl (hb hby at_6) rfl (l' := #[iv i0, iv i1, jv i2, .second, jv i3, .second, jv i4, .second, jv i5, .second, iv (i0 &&& (255 : Int32)), .unset, .unset, .unset, .unset, .unset, .unset, .unset, .unset, .unset, .unset, .unset, .unset, .unset]) rfl (XS.iloadN X0.here hx rfl (hb hby at_8) rfl (XS.bipush X0.here hx rfl (hb hby at_9) (XS.iushr X0.here hx rfl (hb hby at_11) rfl (XS.sipush X0.here hx rfl (hb hby at_12) (XS.iand X0.here hx rfl (hb hby at_15) rfl k)))))) ?_
  show G s₁ (mkF m 16 #[iv i0, iv i1, jv i2, .second, jv i3, .second, jv i4, .second, jv i5, .second, iv (i0 &&& (255 : Int32)), .unset, .unset, .unset, .unset, .unset, .unset, .unset, .unset, .unset, .unset, .unset, .unset, .unset] [.int (((i0.toUInt32 >>> ((8 : Int32) &&& 31).toUInt32).toInt32) &&& (255 : Int32))])
  refine gb (fun _ k => XS.i2c X0.here hx rfl (hb hby at_16) rfl k) ?_
  show G s₁ (mkF m 17 #[iv i0, iv i1, jv i2, .second, jv i3, .second, jv i4, .second, jv i5, .second, iv (i0 &&& (255 : Int32)), .unset, .unset, .unset, .unset, .unset, .unset, .unset, .unset, .unset, .unset, .unset, .unset, .unset] [.int ((((i0.toUInt32 >>> ((8 : Int32) &&& 31).toUInt32).toInt32) &&& (255 : Int32)).toUInt32.toUInt16.toUInt32.toInt32)])
  rw [own_c8]
  show G s₁ (mkF m 17 #[iv i0, iv i1, jv i2, .second, jv i3, .second, jv i4, .second, jv i5, .second, iv (i0 &&& (255 : Int32)), .unset, .unset, .unset, .unset, .unset, .unset, .unset, .unset, .unset, .unset, .unset, .unset, .unset] [.int (((i0.toUInt32 >>> ((8 : Int32) &&& 31).toUInt32).toInt32) &&& (255 : Int32))])
  refine gb (fun _ k => XS.istore X0.here hx rfl (hb hby at_17) rfl (l' := #[iv i0, iv i1, jv i2, .second, jv i3, .second, jv i4, .second, jv i5, .second, iv (i0 &&& (255 : Int32)), iv (((i0.toUInt32 >>> ((8 : Int32) &&& 31).toUInt32).toInt32) &&& (255 : Int32)), .unset, .unset, .unset, .unset, .unset, .unset, .unset, .unset, .unset, .unset, .unset, .unset]) rfl k) ?_
  show G s₁ (mkF m 19 #[iv i0, iv i1, jv i2, .second, jv i3, .second, jv i4, .second, jv i5, .second, iv (i0 &&& (255 : Int32)), iv (((i0.toUInt32 >>> ((8 : Int32) &&& 31).toUInt32).toInt32) &&& (255 : Int32)), .unset, .unset, .unset, .unset, .unset, .unset, .unset, .unset, .unset, .unset, .unset, .unset] [])
  have J1 : ∀ (T1 : State) (locs1 : List Loc) (X1 : Stand p l e room_1 s m #[(.int i0), (.int i1), (.long i2), (.long i3), (.long i4), (.long i5)] below meth c T1 locs1 0 0) (N : Fr n0 locs1) (e1 : T1.heap = h0)  (d0 : Int32) (d1 : Int32) (hd0 : ¬ ((255 : Int32) < d0)) (hd1 : ¬ ((255 : Int32) < d1)) (he0 : ¬ (d0 < (0 : Int32))) (he1 : ¬ (d1 < (0 : Int32))), G T1 (mkF m 58 #[iv i0, iv i1, jv i2, .second, jv i3, .second, jv i4, .second, jv i5, .second, iv (i0 &&& (255 : Int32)), iv (((i0.toUInt32 >>> ((8 : Int32) &&& 31).toUInt32).toInt32) &&& (255 : Int32)), iv d0, iv d1, .unset, .unset, .unset, .unset, .unset, .unset, .unset, .unset, .unset, .unset] []) := by
    intro T1 locs1 X1 N e1  d0 d1 hd0 hd1 he0 he1
    show G T1 (mkF m 58 #[iv i0, iv i1, jv i2, .second, jv i3, .second, jv i4, .second, jv i5, .second, iv (i0 &&& (255 : Int32)), iv (((i0.toUInt32 >>> ((8 : Int32) &&& 31).toUInt32).toInt32) &&& (255 : Int32)), iv d0, iv d1, .unset, .unset, .unset, .unset, .unset, .unset, .unset, .unset, .unset, .unset] [])
    obtain ⟨T2, h2, X2, e2, E2, A2, D2, U2, st2⟩ := newO X1 hx hZ hown (ow hw 0 rfl) (ow hw 1 rfl) (ow hw 2 rfl) e1 (g := (mkF m 58 #[iv i0, iv i1, jv i2, .second, jv i3, .second, jv i4, .second, jv i5, .second, iv (i0 &&& (255 : Int32)), iv (((i0.toUInt32 >>> ((8 : Int32) &&& 31).toUInt32).toInt32) &&& (255 : Int32)), iv d0, iv d1, .unset, .unset, .unset, .unset, .unset, .unset, .unset, .unset, .unset, .unset] [])) rfl (hb hby at_58) (by decide) (by decide)
    obtain ⟨b2, g2⟩ : ∃ z, z = h0.size := ⟨_, rfl⟩
    rw [← g2] at A2 D2 U2 st2
    have g_b2 : n0 ≤ b2 := Nat.le_trans (by have := O.2.1; rw [O.1] at this; exact this) (Nat.le_of_eq g2.symm)
    have O := O.ext E2
    have E_b2 := A2
    have F_coder_b2 : Fld Z h2 b2 "java/lang/String" "coder" "B" (.int (0 : Int32)) := D2 (Or.inr (ow hw 27 rfl)) (ty := .byte) (by decide)
    have F_value_b2 : Fld Z h2 b2 "java/lang/String" "value" "[B" .null := D2 (Or.inr (ow hw 29 rfl)) (ty := (.array .byte)) (by decide)
    refine gb st2 ?_
    show G T2 (mkF m 61 #[iv i0, iv i1, jv i2, .second, jv i3, .second, jv i4, .second, jv i5, .second, iv (i0 &&& (255 : Int32)), iv (((i0.toUInt32 >>> ((8 : Int32) &&& 31).toUInt32).toInt32) &&& (255 : Int32)), iv d0, iv d1, .unset, .unset, .unset, .unset, .unset, .unset, .unset, .unset, .unset, .unset] [.ref b2])
    refine gb (fun _ k => XS.dup X2.here hx rfl (hb hby at_61) rfl rfl (XS.iconst X2.here hx rfl (hb hby at_62) k)) ?_
    show G T2 (mkF m 63 #[iv i0, iv i1, jv i2, .second, jv i3, .second, jv i4, .second, jv i5, .second, iv (i0 &&& (255 : Int32)), iv (((i0.toUInt32 >>> ((8 : Int32) &&& 31).toUInt32).toInt32) &&& (255 : Int32)), iv d0, iv d1, .unset, .unset, .unset, .unset, .unset, .unset, .unset, .unset, .unset, .unset] [.int 2, .ref b2, .ref b2])
    obtain ⟨T3, h3, kA3, X3, e3, E3, A3, st3⟩ := newP X2 hx hZ (ow hw 3 rfl) e2 (g := (mkF m 63 #[iv i0, iv i1, jv i2, .second, jv i3, .second, jv i4, .second, jv i5, .second, iv (i0 &&& (255 : Int32)), iv (((i0.toUInt32 >>> ((8 : Int32) &&& 31).toUInt32).toInt32) &&& (255 : Int32)), iv d0, iv d1, .unset, .unset, .unset, .unset, .unset, .unset, .unset, .unset, .unset, .unset] [.int 2, .ref b2, .ref b2])) rfl (hb hby at_63) rfl (by decide) (cap := 2) (by decide) (by decide) (by decide) (by decide)
    obtain ⟨b3, g3⟩ : ∃ z, z = h2.size := ⟨_, rfl⟩
    rw [← g3] at A3 st3
    have g_b3 : n0 ≤ b3 := Nat.le_trans (by have := O.2.1; rw [O.1] at this; exact this) (Nat.le_of_eq g3.symm)
    have ne_b2_b3 : b2 ≠ b3 := Nat.ne_of_lt (Nat.lt_of_lt_of_le E_b2.lt (Nat.le_of_eq g3.symm))
    have E_b2 := E_b2.ext E3
    have F_coder_b2 := F_coder_b2.ext E3
    have F_value_b2 := F_value_b2.ext E3
    have O := O.ext E3
    have V_b3 : Arv Z h3 b3 kA3 .char (2 : Int32) [(.int (0 : Int32)), (.int (0 : Int32))] (.int (0 : Int32)) := (Arv.new A3 (by decide)).pad (pad_rep [] (.int (0 : Int32)) 2)
    refine gb st3 ?_
    show G T3 (mkF m 65 #[iv i0, iv i1, jv i2, .second, jv i3, .second, jv i4, .second, jv i5, .second, iv (i0 &&& (255 : Int32)), iv (((i0.toUInt32 >>> ((8 : Int32) &&& 31).toUInt32).toInt32) &&& (255 : Int32)), iv d0, iv d1, .unset, .unset, .unset, .unset, .unset, .unset, .unset, .unset, .unset, .unset] [.ref b3, .ref b2, .ref b2])
    refine gb (fun _ k => XS.dup X3.here hx rfl (hb hby at_65) rfl rfl (XS.iconst X3.here hx rfl (hb hby at_66) (XS.iload X3.here hx rfl (hb hby at_67) rfl k))) ?_
    show G T3 (mkF m 69 #[iv i0, iv i1, jv i2, .second, jv i3, .second, jv i4, .second, jv i5, .second, iv (i0 &&& (255 : Int32)), iv (((i0.toUInt32 >>> ((8 : Int32) &&& 31).toUInt32).toInt32) &&& (255 : Int32)), iv d0, iv d1, .unset, .unset, .unset, .unset, .unset, .unset, .unset, .unset, .unset, .unset] [.int (i0 &&& (255 : Int32)), .int 0, .ref b3, .ref b3, .ref b2, .ref b2])
    have V'4 := V_b3
    obtain ⟨cl4, Ar4, qk4, sz4, nn4, hs4, ft4⟩ := V'4
    have hin4 : ¬ ((0 : Int32) < 0 ∨ cl4.slots.size ≤ ((0 : Int32)).toNatClampNeg) := inb_of sz4 ⟨by decide, by decide⟩
    obtain ⟨T5, h5, X5, e5, W5, st5⟩ := stC X3 hx hZ e3 Ar4 (j := (0 : Int32)) hin4 (g := (mkF m 69 #[iv i0, iv i1, jv i2, .second, jv i3, .second, jv i4, .second, jv i5, .second, iv (i0 &&& (255 : Int32)), iv (((i0.toUInt32 >>> ((8 : Int32) &&& 31).toUInt32).toInt32) &&& (255 : Int32)), iv d0, iv d1, .unset, .unset, .unset, .unset, .unset, .unset, .unset, .unset, .unset, .unset] [.int (i0 &&& (255 : Int32)), .int 0, .ref b3, .ref b3, .ref b2, .ref b2])) rfl rfl (hb hby at_69)
    have V_b3 : Arv Z h5 b3 kA3 .char (2 : Int32) [(.int (nar .char (i0 &&& (255 : Int32)))), (.int (0 : Int32))] (.int (0 : Int32)) := Arv.set Ar4 qk4 sz4 nn4 hs4 ft4 (fits_nar_char _) W5 0 rfl (Nat.le_of_ble_eq_true rfl)
    rw [own_n8] at V_b3
    have E_b2 := E_b2.wr W5
    have F_coder_b2 := F_coder_b2.other W5 (Or.inl ne_b2_b3)
    have F_value_b2 := F_value_b2.other W5 (Or.inl ne_b2_b3)
    have O := O.wr W5 g_b3
    have N := Fr.snoc X5 N g_b3
    refine gb st5 ?_
    show G T5 (mkF m 70 #[iv i0, iv i1, jv i2, .second, jv i3, .second, jv i4, .second, jv i5, .second, iv (i0 &&& (255 : Int32)), iv (((i0.toUInt32 >>> ((8 : Int32) &&& 31).toUInt32).toInt32) &&& (255 : Int32)), iv d0, iv d1, .unset, .unset, .unset, .unset, .unset, .unset, .unset, .unset, .unset, .unset] [.ref b3, .ref b2, .ref b2])
    refine gb (fun _ k => XS.dup X5.here hx rfl (hb hby at_70) rfl rfl (XS.iconst X5.here hx rfl (hb hby at_71) (XS.iload X5.here hx rfl (hb hby at_72) rfl k))) ?_
    show G T5 (mkF m 74 #[iv i0, iv i1, jv i2, .second, jv i3, .second, jv i4, .second, jv i5, .second, iv (i0 &&& (255 : Int32)), iv (((i0.toUInt32 >>> ((8 : Int32) &&& 31).toUInt32).toInt32) &&& (255 : Int32)), iv d0, iv d1, .unset, .unset, .unset, .unset, .unset, .unset, .unset, .unset, .unset, .unset] [.int (((i0.toUInt32 >>> ((8 : Int32) &&& 31).toUInt32).toInt32) &&& (255 : Int32)), .int 1, .ref b3, .ref b3, .ref b2, .ref b2])
    have V'6 := V_b3
    obtain ⟨cl6, Ar6, qk6, sz6, nn6, hs6, ft6⟩ := V'6
    have hin6 : ¬ ((1 : Int32) < 0 ∨ cl6.slots.size ≤ ((1 : Int32)).toNatClampNeg) := inb_of sz6 ⟨by decide, by decide⟩
    obtain ⟨T7, h7, X7, e7, W7, st7⟩ := stC X5 hx hZ e5 Ar6 (j := (1 : Int32)) hin6 (g := (mkF m 74 #[iv i0, iv i1, jv i2, .second, jv i3, .second, jv i4, .second, jv i5, .second, iv (i0 &&& (255 : Int32)), iv (((i0.toUInt32 >>> ((8 : Int32) &&& 31).toUInt32).toInt32) &&& (255 : Int32)), iv d0, iv d1, .unset, .unset, .unset, .unset, .unset, .unset, .unset, .unset, .unset, .unset] [.int (((i0.toUInt32 >>> ((8 : Int32) &&& 31).toUInt32).toInt32) &&& (255 : Int32)), .int 1, .ref b3, .ref b3, .ref b2, .ref b2])) rfl rfl (hb hby at_74)
    have V_b3 : Arv Z h7 b3 kA3 .char (2 : Int32) [(.int (i0 &&& (255 : Int32))), (.int (nar .char (((i0.toUInt32 >>> ((8 : Int32) &&& 31).toUInt32).toInt32) &&& (255 : Int32))))] (.int (0 : Int32)) := Arv.set Ar6 qk6 sz6 nn6 hs6 ft6 (fits_nar_char _) W7 1 rfl (Nat.le_of_ble_eq_true rfl)
    rw [own_n8] at V_b3
    have E_b2 := E_b2.wr W7
    have F_coder_b2 := F_coder_b2.other W7 (Or.inl ne_b2_b3)
    have F_value_b2 := F_value_b2.other W7 (Or.inl ne_b2_b3)
    have O := O.wr W7 g_b3
    have N := Fr.snoc X7 N g_b3
    refine gb st7 ?_
    show G T7 (mkF m 75 #[iv i0, iv i1, jv i2, .second, jv i3, .second, jv i4, .second, jv i5, .second, iv (i0 &&& (255 : Int32)), iv (((i0.toUInt32 >>> ((8 : Int32) &&& 31).toUInt32).toInt32) &&& (255 : Int32)), iv d0, iv d1, .unset, .unset, .unset, .unset, .unset, .unset, .unset, .unset, .unset, .unset] [.ref b3, .ref b2, .ref b2])
    have lt_b2 := E_b2.lt
    have lt_b3 := V_b3.lt
    obtain ⟨_, _, ⟨T8, Lz8, kz8, nz8⟩, -, X8, ⟨Lc8, hQ8, lq8, yq8, zq8⟩, st8⟩ := X7.specialBack hx (y := (⟨"java/lang/String", "<init>", "([C)V"⟩ : MethodName)) rfl hown (mvT hZ (ow hw 4 rfl)) (mvT hZ (ow hw 5 rfl)) (mvT hZ (ow hw 6 rfl)) (by decide) (backOf (W := 1) (rmS1_2 l Z a0 hw [] b2 b3 kA3 (i0 &&& (255 : Int32)) (((i0.toUInt32 >>> ((8 : Int32) &&& 31).toUInt32).toInt32) &&& (255 : Int32)) h7 n0 O E_b2 F_coder_b2 F_value_b2 g_b2 V_b3 (Ne.symm ne_b2_b3) (own_le255 _) (own_le255 _) zc S_cs hzc) hZ (ow hw 6 rfl) (ow hw 2 rfl) (by decide) (by decide)) (g := (mkF m 75 #[iv i0, iv i1, jv i2, .second, jv i3, .second, jv i4, .second, jv i5, .second, iv (i0 &&& (255 : Int32)), iv (((i0.toUInt32 >>> ((8 : Int32) &&& 31).toUInt32).toInt32) &&& (255 : Int32)), iv d0, iv d1, .unset, .unset, .unset, .unset, .unset, .unset, .unset, .unset, .unset, .unset] [.ref b3, .ref b2, .ref b2])) rfl (by rw [hml]; rfl) (Steps.refl _) (a := b2) (argsL := [(.ref b3)]) (rest := [(.ref b2)]) (lenOf pd_6 rfl) rfl (by show 2 * 0 + _ ≤ _; exact Nat.le_of_eq rfl) (hb hby at_75) (fun _ _ => ⟨rfl, e7, (by decide : 2 + 1 ≤ _), (by decide : 6 + 2 ≤ _)⟩)
    dsimp only [Pt.U, Pt.locs, Pt.cells, Pt.slots] at X8 lq8 yq8 zq8 st8 hQ8
    subst lq8 yq8 zq8
    obtain ⟨h8, e8⟩ : ∃ z, z = T8.heap := ⟨_, rfl⟩
    rw [← e8] at hQ8
    replace e8 := e8.symm
    obtain ⟨b8, kb8, rfl, Nq8, Kq8, hR8⟩ := hQ8
    have N := Fr.app N Nq8
    have E_b2 := E_b2.keep Kq8
    have V_b3 := V_b3.keep Kq8 (ninS (Ne.symm ne_b2_b3) nin0)
    obtain ⟨E_b2, F_coder_b2, F_value_b2, g_b8, sz_b8, V_b8⟩ := hR8
    have O := O.keep Kq8 (allS g_b2 all0)
    have ne_b2_b8 : b2 ≠ b8 := Nat.ne_of_lt (Nat.lt_of_lt_of_le lt_b2 sz_b8)
    have ne_b3_b8 : b3 ≠ b8 := Nat.ne_of_lt (Nat.lt_of_lt_of_le lt_b3 sz_b8)
    refine gb (fun _ k => st8.trans k) ?_
    show G T8 (mkF m 78 #[iv i0, iv i1, jv i2, .second, jv i3, .second, jv i4, .second, jv i5, .second, iv (i0 &&& (255 : Int32)), iv (((i0.toUInt32 >>> ((8 : Int32) &&& 31).toUInt32).toInt32) &&& (255 : Int32)), iv d0, iv d1, .unset, .unset, .unset, .unset, .unset, .unset, .unset, .unset, .unset, .unset] [.ref b2])
    refine gb (fun _ k => XS.astore X8.here hx rfl (hb hby at_78) rfl rfl (l' := #[iv i0, iv i1, jv i2, .second, jv i3, .second, jv i4, .second, jv i5, .second, iv (i0 &&& (255 : Int32)), iv (((i0.toUInt32 >>> ((8 : Int32) &&& 31).toUInt32).toInt32) &&& (255 : Int32)), iv d0, iv d1, rv b2, .unset, .unset, .unset, .unset, .unset, .unset, .unset, .unset, .unset]) rfl k) ?_
    show G T8 (mkF m 80 #[iv i0, iv i1, jv i2, .second, jv i3, .second, jv i4, .second, jv i5, .second, iv (i0 &&& (255 : Int32)), iv (((i0.toUInt32 >>> ((8 : Int32) &&& 31).toUInt32).toInt32) &&& (255 : Int32)), iv d0, iv d1, rv b2, .unset, .unset, .unset, .unset, .unset, .unset, .unset, .unset, .unset] [])
    obtain ⟨T9, h9, X9, e9, E9, A9, D9, U9, st9⟩ := newO X8 hx hZ hown (ow hw 0 rfl) (ow hw 1 rfl) (ow hw 2 rfl) e8 (g := (mkF m 80 #[iv i0, iv i1, jv i2, .second, jv i3, .second, jv i4, .second, jv i5, .second, iv (i0 &&& (255 : Int32)), iv (((i0.toUInt32 >>> ((8 : Int32) &&& 31).toUInt32).toInt32) &&& (255 : Int32)), iv d0, iv d1, rv b2, .unset, .unset, .unset, .unset, .unset, .unset, .unset, .unset, .unset] [])) rfl (hb hby at_80) (by decide) (by decide)
    obtain ⟨b9, g9⟩ : ∃ z, z = h8.size := ⟨_, rfl⟩
    rw [← g9] at A9 D9 U9 st9
    have g_b9 : n0 ≤ b9 := Nat.le_trans (by have := O.2.1; rw [O.1] at this; exact this) (Nat.le_of_eq g9.symm)
    have ne_b3_b9 : b3 ≠ b9 := Nat.ne_of_lt (Nat.lt_of_lt_of_le V_b3.lt (Nat.le_of_eq g9.symm))
    have ne_b2_b9 : b2 ≠ b9 := Nat.ne_of_lt (Nat.lt_of_lt_of_le E_b2.lt (Nat.le_of_eq g9.symm))
    have ne_b8_b9 : b8 ≠ b9 := Nat.ne_of_lt (Nat.lt_of_lt_of_le V_b8.lt (Nat.le_of_eq g9.symm))
    have V_b3 := V_b3.ext E9
    have E_b2 := E_b2.ext E9
    have F_coder_b2 := F_coder_b2.ext E9
    have F_value_b2 := F_value_b2.ext E9
    have V_b8 := V_b8.ext E9
    have O := O.ext E9
    have E_b9 := A9
    have F_coder_b9 : Fld Z h9 b9 "java/lang/String" "coder" "B" (.int (0 : Int32)) := D9 (Or.inr (ow hw 27 rfl)) (ty := .byte) (by decide)
    have F_value_b9 : Fld Z h9 b9 "java/lang/String" "value" "[B" .null := D9 (Or.inr (ow hw 29 rfl)) (ty := (.array .byte)) (by decide)
    refine gb st9 ?_
    show G T9 (mkF m 83 #[iv i0, iv i1, jv i2, .second, jv i3, .second, jv i4, .second, jv i5, .second, iv (i0 &&& (255 : Int32)), iv (((i0.toUInt32 >>> ((8 : Int32) &&& 31).toUInt32).toInt32) &&& (255 : Int32)), iv d0, iv d1, rv b2, .unset, .unset, .unset, .unset, .unset, .unset, .unset, .unset, .unset] [.ref b9])
    refine gb (fun _ k => XS.dup X9.here hx rfl (hb hby at_83) rfl rfl (XS.iconst X9.here hx rfl (hb hby at_84) k)) ?_
    show G T9 (mkF m 85 #[iv i0, iv i1, jv i2, .second, jv i3, .second, jv i4, .second, jv i5, .second, iv (i0 &&& (255 : Int32)), iv (((i0.toUInt32 >>> ((8 : Int32) &&& 31).toUInt32).toInt32) &&& (255 : Int32)), iv d0, iv d1, rv b2, .unset, .unset, .unset, .unset, .unset, .unset, .unset, .unset, .unset] [.int 2, .ref b9, .ref b9])
    obtain ⟨T10, h10, kA10, X10, e10, E10, A10, st10⟩ := newP X9 hx hZ (ow hw 3 rfl) e9 (g := (mkF m 85 #[iv i0, iv i1, jv i2, .second, jv i3, .second, jv i4, .second, jv i5, .second, iv (i0 &&& (255 : Int32)), iv (((i0.toUInt32 >>> ((8 : Int32) &&& 31).toUInt32).toInt32) &&& (255 : Int32)), iv d0, iv d1, rv b2, .unset, .unset, .unset, .unset, .unset, .unset, .unset, .unset, .unset] [.int 2, .ref b9, .ref b9])) rfl (hb hby at_85) rfl (by decide) (cap := 2) (by decide) (by decide) (by decide) (by decide)
    obtain ⟨b10, g10⟩ : ∃ z, z = h9.size := ⟨_, rfl⟩
    rw [← g10] at A10 st10
    have g_b10 : n0 ≤ b10 := Nat.le_trans (by have := O.2.1; rw [O.1] at this; exact this) (Nat.le_of_eq g10.symm)
    have ne_b3_b10 : b3 ≠ b10 := Nat.ne_of_lt (Nat.lt_of_lt_of_le V_b3.lt (Nat.le_of_eq g10.symm))
    have ne_b2_b10 : b2 ≠ b10 := Nat.ne_of_lt (Nat.lt_of_lt_of_le E_b2.lt (Nat.le_of_eq g10.symm))
    have ne_b8_b10 : b8 ≠ b10 := Nat.ne_of_lt (Nat.lt_of_lt_of_le V_b8.lt (Nat.le_of_eq g10.symm))
    have ne_b9_b10 : b9 ≠ b10 := Nat.ne_of_lt (Nat.lt_of_lt_of_le E_b9.lt (Nat.le_of_eq g10.symm))
    have V_b3 := V_b3.ext E10
    have E_b2 := E_b2.ext E10
    have F_coder_b2 := F_coder_b2.ext E10
    have F_value_b2 := F_value_b2.ext E10
    have V_b8 := V_b8.ext E10
    have E_b9 := E_b9.ext E10
    have F_coder_b9 := F_coder_b9.ext E10
    have F_value_b9 := F_value_b9.ext E10
    have O := O.ext E10
    have V_b10 : Arv Z h10 b10 kA10 .char (2 : Int32) [(.int (0 : Int32)), (.int (0 : Int32))] (.int (0 : Int32)) := (Arv.new A10 (by decide)).pad (pad_rep [] (.int (0 : Int32)) 2)
    refine gb st10 ?_
    show G T10 (mkF m 87 #[iv i0, iv i1, jv i2, .second, jv i3, .second, jv i4, .second, jv i5, .second, iv (i0 &&& (255 : Int32)), iv (((i0.toUInt32 >>> ((8 : Int32) &&& 31).toUInt32).toInt32) &&& (255 : Int32)), iv d0, iv d1, rv b2, .unset, .unset, .unset, .unset, .unset, .unset, .unset, .unset, .unset] [.ref b10, .ref b9, .ref b9])
    refine gb (fun _ k => XS.dup X10.here hx rfl (hb hby at_87) rfl rfl (XS.iconst X10.here hx rfl (hb hby at_88) (XS.iload X10.here hx rfl (hb hby at_89) rfl k))) ?_
    show G T10 (mkF m 91 #[iv i0, iv i1, jv i2, .second, jv i3, .second, jv i4, .second, jv i5, .second, iv (i0 &&& (255 : Int32)), iv (((i0.toUInt32 >>> ((8 : Int32) &&& 31).toUInt32).toInt32) &&& (255 : Int32)), iv d0, iv d1, rv b2, .unset, .unset, .unset, .unset, .unset, .unset, .unset, .unset, .unset] [.int d0, .int 0, .ref b10, .ref b10, .ref b9, .ref b9])
    have V'11 := V_b10
    obtain ⟨cl11, Ar11, qk11, sz11, nn11, hs11, ft11⟩ := V'11
    have hin11 : ¬ ((0 : Int32) < 0 ∨ cl11.slots.size ≤ ((0 : Int32)).toNatClampNeg) := inb_of sz11 ⟨by decide, by decide⟩
    obtain ⟨T12, h12, X12, e12, W12, st12⟩ := stC X10 hx hZ e10 Ar11 (j := (0 : Int32)) hin11 (g := (mkF m 91 #[iv i0, iv i1, jv i2, .second, jv i3, .second, jv i4, .second, jv i5, .second, iv (i0 &&& (255 : Int32)), iv (((i0.toUInt32 >>> ((8 : Int32) &&& 31).toUInt32).toInt32) &&& (255 : Int32)), iv d0, iv d1, rv b2, .unset, .unset, .unset, .unset, .unset, .unset, .unset, .unset, .unset] [.int d0, .int 0, .ref b10, .ref b10, .ref b9, .ref b9])) rfl rfl (hb hby at_91)
    have V_b10 : Arv Z h12 b10 kA10 .char (2 : Int32) [(.int (nar .char d0)), (.int (0 : Int32))] (.int (0 : Int32)) := Arv.set Ar11 qk11 sz11 nn11 hs11 ft11 (fits_nar_char _) W12 0 rfl (Nat.le_of_ble_eq_true rfl)
    rw [own_nc he0 hd0] at V_b10
    have V_b3 := V_b3.other W12 ne_b3_b10
    have E_b2 := E_b2.wr W12
    have F_coder_b2 := F_coder_b2.other W12 (Or.inl ne_b2_b10)
    have F_value_b2 := F_value_b2.other W12 (Or.inl ne_b2_b10)
    have V_b8 := V_b8.other W12 ne_b8_b10
    have E_b9 := E_b9.wr W12
    have F_coder_b9 := F_coder_b9.other W12 (Or.inl ne_b9_b10)
    have F_value_b9 := F_value_b9.other W12 (Or.inl ne_b9_b10)
    have O := O.wr W12 g_b10
    have N := Fr.snoc X12 N g_b10
    refine gb st12 ?_
    show G T12 (mkF m 92 #[iv i0, iv i1, jv i2, .second, jv i3, .second, jv i4, .second, jv i5, .second, iv (i0 &&& (255 : Int32)), iv (((i0.toUInt32 >>> ((8 : Int32) &&& 31).toUInt32).toInt32) &&& (255 : Int32)), iv d0, iv d1, rv b2, .unset, .unset, .unset, .unset, .unset, .unset, .unset, .unset, .unset] [.ref b10, .ref b9, .ref b9])
    refine gb (fun _ k => XS.dup X12.here hx rfl (hb hby at_92) rfl rfl (XS.iconst X12.here hx rfl (hb hby at_93) (XS.iload X12.here hx rfl (hb hby at_94) rfl k))) ?_
    show G T12 (mkF m 96 #[iv i0, iv i1, jv i2, .second, jv i3, .second, jv i4, .second, jv i5, .second, iv (i0 &&& (255 : Int32)), iv (((i0.toUInt32 >>> ((8 : Int32) &&& 31).toUInt32).toInt32) &&& (255 : Int32)), iv d0, iv d1, rv b2, .unset, .unset, .unset, .unset, .unset, .unset, .unset, .unset, .unset] [.int d1, .int 1, .ref b10, .ref b10, .ref b9, .ref b9])
    have V'13 := V_b10
    obtain ⟨cl13, Ar13, qk13, sz13, nn13, hs13, ft13⟩ := V'13
    have hin13 : ¬ ((1 : Int32) < 0 ∨ cl13.slots.size ≤ ((1 : Int32)).toNatClampNeg) := inb_of sz13 ⟨by decide, by decide⟩
    obtain ⟨T14, h14, X14, e14, W14, st14⟩ := stC X12 hx hZ e12 Ar13 (j := (1 : Int32)) hin13 (g := (mkF m 96 #[iv i0, iv i1, jv i2, .second, jv i3, .second, jv i4, .second, jv i5, .second, iv (i0 &&& (255 : Int32)), iv (((i0.toUInt32 >>> ((8 : Int32) &&& 31).toUInt32).toInt32) &&& (255 : Int32)), iv d0, iv d1, rv b2, .unset, .unset, .unset, .unset, .unset, .unset, .unset, .unset, .unset] [.int d1, .int 1, .ref b10, .ref b10, .ref b9, .ref b9])) rfl rfl (hb hby at_96)
    have V_b10 : Arv Z h14 b10 kA10 .char (2 : Int32) [(.int d0), (.int (nar .char d1))] (.int (0 : Int32)) := Arv.set Ar13 qk13 sz13 nn13 hs13 ft13 (fits_nar_char _) W14 1 rfl (Nat.le_of_ble_eq_true rfl)
    rw [own_nc he1 hd1] at V_b10
    have V_b3 := V_b3.other W14 ne_b3_b10
    have E_b2 := E_b2.wr W14
    have F_coder_b2 := F_coder_b2.other W14 (Or.inl ne_b2_b10)
    have F_value_b2 := F_value_b2.other W14 (Or.inl ne_b2_b10)
    have V_b8 := V_b8.other W14 ne_b8_b10
    have E_b9 := E_b9.wr W14
    have F_coder_b9 := F_coder_b9.other W14 (Or.inl ne_b9_b10)
    have F_value_b9 := F_value_b9.other W14 (Or.inl ne_b9_b10)
    have O := O.wr W14 g_b10
    have N := Fr.snoc X14 N g_b10
    refine gb st14 ?_
    show G T14 (mkF m 97 #[iv i0, iv i1, jv i2, .second, jv i3, .second, jv i4, .second, jv i5, .second, iv (i0 &&& (255 : Int32)), iv (((i0.toUInt32 >>> ((8 : Int32) &&& 31).toUInt32).toInt32) &&& (255 : Int32)), iv d0, iv d1, rv b2, .unset, .unset, .unset, .unset, .unset, .unset, .unset, .unset, .unset] [.ref b10, .ref b9, .ref b9])
    have lt_b3 := V_b3.lt
    have lt_b2 := E_b2.lt
    have lt_b8 := V_b8.lt
    have lt_b9 := E_b9.lt
    have lt_b10 := V_b10.lt
    obtain ⟨_, _, ⟨T15, Lz15, kz15, nz15⟩, -, X15, ⟨Lc15, hQ15, lq15, yq15, zq15⟩, st15⟩ := X14.specialBack hx (y := (⟨"java/lang/String", "<init>", "([C)V"⟩ : MethodName)) rfl hown (mvT hZ (ow hw 4 rfl)) (mvT hZ (ow hw 5 rfl)) (mvT hZ (ow hw 6 rfl)) (by decide) (backOf (W := 1) (rmS1_2 l Z a0 hw [] b9 b10 kA10 d0 d1 h14 n0 O E_b9 F_coder_b9 F_value_b9 g_b9 V_b10 (Ne.symm ne_b9_b10) hd0 hd1 zc S_cs hzc) hZ (ow hw 6 rfl) (ow hw 2 rfl) (by decide) (by decide)) (g := (mkF m 97 #[iv i0, iv i1, jv i2, .second, jv i3, .second, jv i4, .second, jv i5, .second, iv (i0 &&& (255 : Int32)), iv (((i0.toUInt32 >>> ((8 : Int32) &&& 31).toUInt32).toInt32) &&& (255 : Int32)), iv d0, iv d1, rv b2, .unset, .unset, .unset, .unset, .unset, .unset, .unset, .unset, .unset] [.ref b10, .ref b9, .ref b9])) rfl (by rw [hml]; rfl) (Steps.refl _) (a := b9) (argsL := [(.ref b10)]) (rest := [(.ref b9)]) (lenOf pd_6 rfl) rfl (by show 2 * 0 + _ ≤ _; exact Nat.le_of_eq rfl) (hb hby at_97) (fun _ _ => ⟨rfl, e14, (by decide : 5 + 1 ≤ _), (by decide : 14 + 2 ≤ _)⟩)
    dsimp only [Pt.U, Pt.locs, Pt.cells, Pt.slots] at X15 lq15 yq15 zq15 st15 hQ15
    subst lq15 yq15 zq15
    obtain ⟨h15, e15⟩ : ∃ z, z = T15.heap := ⟨_, rfl⟩
    rw [← e15] at hQ15
    replace e15 := e15.symm
    obtain ⟨b15, kb15, rfl, Nq15, Kq15, hR15⟩ := hQ15
    have N := Fr.app N Nq15
    have V_b3 := V_b3.keep Kq15 (ninS ne_b3_b9 nin0)
    have E_b2 := E_b2.keep Kq15
    have F_coder_b2 := F_coder_b2.keep Kq15 (ninS ne_b2_b9 nin0)
    have F_value_b2 := F_value_b2.keep Kq15 (ninS ne_b2_b9 nin0)
    have V_b8 := V_b8.keep Kq15 (ninS ne_b8_b9 nin0)
    have E_b9 := E_b9.keep Kq15
    have V_b10 := V_b10.keep Kq15 (ninS (Ne.symm ne_b9_b10) nin0)
    obtain ⟨E_b9, F_coder_b9, F_value_b9, g_b15, sz_b15, V_b15⟩ := hR15
    have O := O.keep Kq15 (allS g_b9 all0)
    have ne_b3_b15 : b3 ≠ b15 := Nat.ne_of_lt (Nat.lt_of_lt_of_le lt_b3 sz_b15)
    have ne_b2_b15 : b2 ≠ b15 := Nat.ne_of_lt (Nat.lt_of_lt_of_le lt_b2 sz_b15)
    have ne_b8_b15 : b8 ≠ b15 := Nat.ne_of_lt (Nat.lt_of_lt_of_le lt_b8 sz_b15)
    have ne_b9_b15 : b9 ≠ b15 := Nat.ne_of_lt (Nat.lt_of_lt_of_le lt_b9 sz_b15)
    have ne_b10_b15 : b10 ≠ b15 := Nat.ne_of_lt (Nat.lt_of_lt_of_le lt_b10 sz_b15)
    refine gb (fun _ k => st15.trans k) ?_
    show G T15 (mkF m 100 #[iv i0, iv i1, jv i2, .second, jv i3, .second, jv i4, .second, jv i5, .second, iv (i0 &&& (255 : Int32)), iv (((i0.toUInt32 >>> ((8 : Int32) &&& 31).toUInt32).toInt32) &&& (255 : Int32)), iv d0, iv d1, rv b2, .unset, .unset, .unset, .unset, .unset, .unset, .unset, .unset, .unset] [.ref b9])
    refine gb (fun _ k => XS.astore X15.here hx rfl (hb hby at_100) rfl rfl (l' := #[iv i0, iv i1, jv i2, .second, jv i3, .second, jv i4, .second, jv i5, .second, iv (i0 &&& (255 : Int32)), iv (((i0.toUInt32 >>> ((8 : Int32) &&& 31).toUInt32).toInt32) &&& (255 : Int32)), iv d0, iv d1, rv b2, rv b9, .unset, .unset, .unset, .unset, .unset, .unset, .unset, .unset]) rfl k) ?_
    show G T15 (mkF m 102 #[iv i0, iv i1, jv i2, .second, jv i3, .second, jv i4, .second, jv i5, .second, iv (i0 &&& (255 : Int32)), iv (((i0.toUInt32 >>> ((8 : Int32) &&& 31).toUInt32).toInt32) &&& (255 : Int32)), iv d0, iv d1, rv b2, rv b9, .unset, .unset, .unset, .unset, .unset, .unset, .unset, .unset] [])
    have J16 : ∀ (T16 : State) (locs16 : List Loc) (X16 : Stand p l e room_1 s m #[(.int i0), (.int i1), (.long i2), (.long i3), (.long i4), (.long i5)] below meth c T16 locs16 6 16) (N : Fr n0 locs16) (e16 : T16.heap = h15)  (s2 : Int64) , G T16 (mkF m 114 #[iv i0, iv i1, jv i2, .second, jv i3, .second, jv i4, .second, jv i5, .second, iv (i0 &&& (255 : Int32)), iv (((i0.toUInt32 >>> ((8 : Int32) &&& 31).toUInt32).toInt32) &&& (255 : Int32)), iv d0, iv d1, rv b2, rv b9, .unset, .unset, .unset, .unset, .unset, .unset, .unset, .unset] [.long s2]) := by
      intro T16 locs16 X16 N e16  s2 
      show G T16 (mkF m 114 #[iv i0, iv i1, jv i2, .second, jv i3, .second, jv i4, .second, jv i5, .second, iv (i0 &&& (255 : Int32)), iv (((i0.toUInt32 >>> ((8 : Int32) &&& 31).toUInt32).toInt32) &&& (255 : Int32)), iv d0, iv d1, rv b2, rv b9, .unset, .unset, .unset, .unset, .unset, .unset, .unset, .unset] [.long s2])
      refine gb (fun _ k => XS.lstore X16.here hx rfl (hb hby at_114) rfl (l' := #[iv i0, iv i1, jv i2, .second, jv i3, .second, jv i4, .second, jv i5, .second, iv (i0 &&& (255 : Int32)), iv (((i0.toUInt32 >>> ((8 : Int32) &&& 31).toUInt32).toInt32) &&& (255 : Int32)), iv d0, iv d1, rv b2, rv b9, jv s2, .second, .unset, .unset, .unset, .unset, .unset, .unset]) rfl k) ?_
      show G T16 (mkF m 116 #[iv i0, iv i1, jv i2, .second, jv i3, .second, jv i4, .second, jv i5, .second, iv (i0 &&& (255 : Int32)), iv (((i0.toUInt32 >>> ((8 : Int32) &&& 31).toUInt32).toInt32) &&& (255 : Int32)), iv d0, iv d1, rv b2, rv b9, jv s2, .second, .unset, .unset, .unset, .unset, .unset, .unset] [])
      have J17 : ∀ (T17 : State) (locs17 : List Loc) (X17 : Stand p l e room_1 s m #[(.int i0), (.int i1), (.long i2), (.long i3), (.long i4), (.long i5)] below meth c T17 locs17 6 16) (N : Fr n0 locs17) (e17 : T17.heap = h15)  (r2 : Int64) , G T17 (mkF m 129 #[iv i0, iv i1, jv i2, .second, jv i3, .second, jv i4, .second, jv i5, .second, iv (i0 &&& (255 : Int32)), iv (((i0.toUInt32 >>> ((8 : Int32) &&& 31).toUInt32).toInt32) &&& (255 : Int32)), iv d0, iv d1, rv b2, rv b9, jv s2, .second, .unset, .unset, .unset, .unset, .unset, .unset] [.long r2]) := by
        intro T17 locs17 X17 N e17  r2 
        show G T17 (mkF m 129 #[iv i0, iv i1, jv i2, .second, jv i3, .second, jv i4, .second, jv i5, .second, iv (i0 &&& (255 : Int32)), iv (((i0.toUInt32 >>> ((8 : Int32) &&& 31).toUInt32).toInt32) &&& (255 : Int32)), iv d0, iv d1, rv b2, rv b9, jv s2, .second, .unset, .unset, .unset, .unset, .unset, .unset] [.long r2])
        refine gb (fun _ k => XS.lstore X17.here hx rfl (hb hby at_129) rfl (l' := #[iv i0, iv i1, jv i2, .second, jv i3, .second, jv i4, .second, jv i5, .second, iv (i0 &&& (255 : Int32)), iv (((i0.toUInt32 >>> ((8 : Int32) &&& 31).toUInt32).toInt32) &&& (255 : Int32)), iv d0, iv d1, rv b2, rv b9, jv s2, .second, jv r2, .second, .unset, .unset, .unset, .unset]) rfl (XS.iloadN X17.here hx rfl (hb hby at_131) rfl (XS.bipush X17.here hx rfl (hb hby at_132) (XS.iushr X17.here hx rfl (hb hby at_134) rfl (XS.iconst X17.here hx rfl (hb hby at_135) (XS.iand X17.here hx rfl (hb hby at_136) rfl k)))))) ?_
        show G T17 (mkF m 137 #[iv i0, iv i1, jv i2, .second, jv i3, .second, jv i4, .second, jv i5, .second, iv (i0 &&& (255 : Int32)), iv (((i0.toUInt32 >>> ((8 : Int32) &&& 31).toUInt32).toInt32) &&& (255 : Int32)), iv d0, iv d1, rv b2, rv b9, jv s2, .second, jv r2, .second, .unset, .unset, .unset, .unset] [.int (((i1.toUInt32 >>> ((24 : Int32) &&& 31).toUInt32).toInt32) &&& (3 : Int32))])
        refine gb (fun _ k => XS.istore X17.here hx rfl (hb hby at_137) rfl (l' := #[iv i0, iv i1, jv i2, .second, jv i3, .second, jv i4, .second, jv i5, .second, iv (i0 &&& (255 : Int32)), iv (((i0.toUInt32 >>> ((8 : Int32) &&& 31).toUInt32).toInt32) &&& (255 : Int32)), iv d0, iv d1, rv b2, rv b9, jv s2, .second, jv r2, .second, iv (((i1.toUInt32 >>> ((24 : Int32) &&& 31).toUInt32).toInt32) &&& (3 : Int32)), .unset, .unset, .unset]) rfl k) ?_
        show G T17 (mkF m 139 #[iv i0, iv i1, jv i2, .second, jv i3, .second, jv i4, .second, jv i5, .second, iv (i0 &&& (255 : Int32)), iv (((i0.toUInt32 >>> ((8 : Int32) &&& 31).toUInt32).toInt32) &&& (255 : Int32)), iv d0, iv d1, rv b2, rv b9, jv s2, .second, jv r2, .second, iv (((i1.toUInt32 >>> ((24 : Int32) &&& 31).toUInt32).toInt32) &&& (3 : Int32)), .unset, .unset, .unset] [])
        obtain ⟨T18, h18, X18, e18, E18, A18, D18, U18, st18⟩ := newO X17 hx hZ hown (ow hw 30 rfl) (ow hw 31 rfl) (ow hw 32 rfl) e17 (g := (mkF m 139 #[iv i0, iv i1, jv i2, .second, jv i3, .second, jv i4, .second, jv i5, .second, iv (i0 &&& (255 : Int32)), iv (((i0.toUInt32 >>> ((8 : Int32) &&& 31).toUInt32).toInt32) &&& (255 : Int32)), iv d0, iv d1, rv b2, rv b9, jv s2, .second, jv r2, .second, iv (((i1.toUInt32 >>> ((24 : Int32) &&& 31).toUInt32).toInt32) &&& (3 : Int32)), .unset, .unset, .unset] [])) rfl (hb hby at_139) (by decide) (by decide)
        obtain ⟨b18, g18⟩ : ∃ z, z = h15.size := ⟨_, rfl⟩
        rw [← g18] at A18 D18 U18 st18
        have g_b18 : n0 ≤ b18 := Nat.le_trans (by have := O.2.1; rw [O.1] at this; exact this) (Nat.le_of_eq g18.symm)
        have ne_b3_b18 : b3 ≠ b18 := Nat.ne_of_lt (Nat.lt_of_lt_of_le V_b3.lt (Nat.le_of_eq g18.symm))
        have ne_b2_b18 : b2 ≠ b18 := Nat.ne_of_lt (Nat.lt_of_lt_of_le E_b2.lt (Nat.le_of_eq g18.symm))
        have ne_b8_b18 : b8 ≠ b18 := Nat.ne_of_lt (Nat.lt_of_lt_of_le V_b8.lt (Nat.le_of_eq g18.symm))
        have ne_b10_b18 : b10 ≠ b18 := Nat.ne_of_lt (Nat.lt_of_lt_of_le V_b10.lt (Nat.le_of_eq g18.symm))
        have ne_b9_b18 : b9 ≠ b18 := Nat.ne_of_lt (Nat.lt_of_lt_of_le E_b9.lt (Nat.le_of_eq g18.symm))
        have ne_b15_b18 : b15 ≠ b18 := Nat.ne_of_lt (Nat.lt_of_lt_of_le V_b15.lt (Nat.le_of_eq g18.symm))
        have V_b3 := V_b3.ext E18
        have E_b2 := E_b2.ext E18
        have F_coder_b2 := F_coder_b2.ext E18
        have F_value_b2 := F_value_b2.ext E18
        have V_b8 := V_b8.ext E18
        have V_b10 := V_b10.ext E18
        have E_b9 := E_b9.ext E18
        have F_coder_b9 := F_coder_b9.ext E18
        have F_value_b9 := F_value_b9.ext E18
        have V_b15 := V_b15.ext E18
        have O := O.ext E18
        have E_b18 := A18
        have F_player_b18 : Fld Z h18 b18 "com/example/rankle/rankle/Standing" "player" "Ljava/lang/String;" .null := D18 (Or.inr (ow hw 38 rfl)) (ty := (.object "java/lang/String")) (by decide)
        have F_score_b18 : Fld Z h18 b18 "com/example/rankle/rankle/Standing" "score" "J" (.long (0 : Int64)) := D18 (Or.inr (ow hw 40 rfl)) (ty := .long) (by decide)
        have F_rank_b18 : Fld Z h18 b18 "com/example/rankle/rankle/Standing" "rank" "J" (.long (0 : Int64)) := D18 (Or.inr (ow hw 42 rfl)) (ty := .long) (by decide)
        refine gb st18 ?_
        show G T18 (mkF m 142 #[iv i0, iv i1, jv i2, .second, jv i3, .second, jv i4, .second, jv i5, .second, iv (i0 &&& (255 : Int32)), iv (((i0.toUInt32 >>> ((8 : Int32) &&& 31).toUInt32).toInt32) &&& (255 : Int32)), iv d0, iv d1, rv b2, rv b9, jv s2, .second, jv r2, .second, iv (((i1.toUInt32 >>> ((24 : Int32) &&& 31).toUInt32).toInt32) &&& (3 : Int32)), .unset, .unset, .unset] [.ref b18])
        refine gb (fun _ k => XS.dup X18.here hx rfl (hb hby at_142) rfl rfl (XS.aload X18.here hx rfl (hb hby at_143) rfl rfl (XS.lloadN X18.here hx rfl (hb hby at_145) rfl (XS.lload X18.here hx rfl (hb hby at_146) rfl k)))) ?_
        show G T18 (mkF m 148 #[iv i0, iv i1, jv i2, .second, jv i3, .second, jv i4, .second, jv i5, .second, iv (i0 &&& (255 : Int32)), iv (((i0.toUInt32 >>> ((8 : Int32) &&& 31).toUInt32).toInt32) &&& (255 : Int32)), iv d0, iv d1, rv b2, rv b9, jv s2, .second, jv r2, .second, iv (((i1.toUInt32 >>> ((24 : Int32) &&& 31).toUInt32).toInt32) &&& (3 : Int32)), .unset, .unset, .unset] [.long i4, .long i2, .ref b2, .ref b18, .ref b18])
        obtain ⟨_, _, ⟨T19, Lz19, kz19, nz19⟩, -, X19, ⟨Lc19, hQ19, lq19, yq19, zq19⟩, st19⟩ := X18.specialBack hx (y := (⟨"com/example/rankle/rankle/Standing", "<init>", "(Ljava/lang/String;JJ)V"⟩ : MethodName)) rfl hown (mvT hZ (ow hw 33 rfl)) (mvT hZ (ow hw 34 rfl)) (mvT hZ (ow hw 35 rfl)) (by decide) (backOf (W := 1) (rm7 l Z a0 hw [] b18 b2 i2 i4 h18 n0 O E_b18 F_player_b18 F_score_b18 F_rank_b18 g_b18) hZ (ow hw 35 rfl) (ow hw 32 rfl) (by decide) (by decide)) (g := (mkF m 148 #[iv i0, iv i1, jv i2, .second, jv i3, .second, jv i4, .second, jv i5, .second, iv (i0 &&& (255 : Int32)), iv (((i0.toUInt32 >>> ((8 : Int32) &&& 31).toUInt32).toInt32) &&& (255 : Int32)), iv d0, iv d1, rv b2, rv b9, jv s2, .second, jv r2, .second, iv (((i1.toUInt32 >>> ((24 : Int32) &&& 31).toUInt32).toInt32) &&& (3 : Int32)), .unset, .unset, .unset] [.long i4, .long i2, .ref b2, .ref b18, .ref b18])) rfl (by rw [hml]; rfl) (Steps.refl _) (a := b18) (argsL := [(.ref b2), (.long i2), (.long i4)]) (rest := [(.ref b18)]) (lenOf pd_7 rfl) rfl (by show 2 * 0 + _ ≤ _; exact Nat.le_of_eq rfl) (hb hby at_148) (fun _ _ => ⟨rfl, e18, (by decide : 7 + 0 ≤ _), (by decide : 19 + 0 ≤ _)⟩)
        dsimp only [Pt.U, Pt.locs, Pt.cells, Pt.slots] at X19 lq19 yq19 zq19 st19 hQ19
        subst lq19 yq19 zq19
        obtain ⟨h19, e19⟩ : ∃ z, z = T19.heap := ⟨_, rfl⟩
        rw [← e19] at hQ19
        replace e19 := e19.symm
        obtain ⟨rfl, Nq19, Kq19, hR19⟩ := hQ19
        have N := Fr.app N Nq19
        have V_b3 := V_b3.keep Kq19 (ninS ne_b3_b18 nin0)
        have E_b2 := E_b2.keep Kq19
        have F_coder_b2 := F_coder_b2.keep Kq19 (ninS ne_b2_b18 nin0)
        have F_value_b2 := F_value_b2.keep Kq19 (ninS ne_b2_b18 nin0)
        have V_b8 := V_b8.keep Kq19 (ninS ne_b8_b18 nin0)
        have V_b10 := V_b10.keep Kq19 (ninS ne_b10_b18 nin0)
        have E_b9 := E_b9.keep Kq19
        have F_coder_b9 := F_coder_b9.keep Kq19 (ninS ne_b9_b18 nin0)
        have F_value_b9 := F_value_b9.keep Kq19 (ninS ne_b9_b18 nin0)
        have V_b15 := V_b15.keep Kq19 (ninS ne_b15_b18 nin0)
        have E_b18 := E_b18.keep Kq19
        obtain ⟨E_b18, F_player_b18, F_score_b18, F_rank_b18⟩ := hR19
        have O := O.keep Kq19 (allS g_b18 all0)
        refine gb (fun _ k => st19.trans k) ?_
        show G T19 (mkF m 151 #[iv i0, iv i1, jv i2, .second, jv i3, .second, jv i4, .second, jv i5, .second, iv (i0 &&& (255 : Int32)), iv (((i0.toUInt32 >>> ((8 : Int32) &&& 31).toUInt32).toInt32) &&& (255 : Int32)), iv d0, iv d1, rv b2, rv b9, jv s2, .second, jv r2, .second, iv (((i1.toUInt32 >>> ((24 : Int32) &&& 31).toUInt32).toInt32) &&& (3 : Int32)), .unset, .unset, .unset] [.ref b18])
        refine gb (fun _ k => XS.astore X19.here hx rfl (hb hby at_151) rfl rfl (l' := #[iv i0, iv i1, jv i2, .second, jv i3, .second, jv i4, .second, jv i5, .second, iv (i0 &&& (255 : Int32)), iv (((i0.toUInt32 >>> ((8 : Int32) &&& 31).toUInt32).toInt32) &&& (255 : Int32)), iv d0, iv d1, rv b2, rv b9, jv s2, .second, jv r2, .second, iv (((i1.toUInt32 >>> ((24 : Int32) &&& 31).toUInt32).toInt32) &&& (3 : Int32)), rv b18, .unset, .unset]) rfl (XS.iload X19.here hx rfl (hb hby at_153) rfl k)) ?_
        show G T19 (mkF m 155 #[iv i0, iv i1, jv i2, .second, jv i3, .second, jv i4, .second, jv i5, .second, iv (i0 &&& (255 : Int32)), iv (((i0.toUInt32 >>> ((8 : Int32) &&& 31).toUInt32).toInt32) &&& (255 : Int32)), iv d0, iv d1, rv b2, rv b9, jv s2, .second, jv r2, .second, iv (((i1.toUInt32 >>> ((24 : Int32) &&& 31).toUInt32).toInt32) &&& (3 : Int32)), rv b18, .unset, .unset] [.int (((i1.toUInt32 >>> ((24 : Int32) &&& 31).toUInt32).toInt32) &&& (3 : Int32))])
        by_cases hc155 : (((i1.toUInt32 >>> ((24 : Int32) &&& 31).toUInt32).toInt32) &&& (3 : Int32)) = (0 : Int32)
        · skip
          refine gb (fun _ k => XS.ifNo X19.here hx rfl (hb hby at_155) rfl ((if0 _ _).trans (teq hc155).2) (XS.aconstNull X19.here hx rfl (hb hby at_158) (XS.astore X19.here hx rfl (hb hby at_159) rfl rfl (l' := #[iv i0, iv i1, jv i2, .second, jv i3, .second, jv i4, .second, jv i5, .second, iv (i0 &&& (255 : Int32)), iv (((i0.toUInt32 >>> ((8 : Int32) &&& 31).toUInt32).toInt32) &&& (255 : Int32)), iv d0, iv d1, rv b2, rv b9, jv s2, .second, jv r2, .second, iv (((i1.toUInt32 >>> ((24 : Int32) &&& 31).toUInt32).toInt32) &&& (3 : Int32)), rv b18, .val .null, .unset]) rfl (XS.goto X19.here hx rfl (pc0 := 161) (pc' := 192) rfl (hb hby at_161) (by decide) (by decide) (XS.iload X19.here hx rfl (hb hby at_192) rfl (XS.iconst X19.here hx rfl (hb hby at_194) k)))))) ?_
          show G T19 (mkF m 195 #[iv i0, iv i1, jv i2, .second, jv i3, .second, jv i4, .second, jv i5, .second, iv (i0 &&& (255 : Int32)), iv (((i0.toUInt32 >>> ((8 : Int32) &&& 31).toUInt32).toInt32) &&& (255 : Int32)), iv d0, iv d1, rv b2, rv b9, jv s2, .second, jv r2, .second, iv (((i1.toUInt32 >>> ((24 : Int32) &&& 31).toUInt32).toInt32) &&& (3 : Int32)), rv b18, .val .null, .unset] [.int 2, .int (((i1.toUInt32 >>> ((24 : Int32) &&& 31).toUInt32).toInt32) &&& (3 : Int32))])
          refine gb (fun _ k => XS.icmpYes X19.here hx rfl (pc0 := 195) (pc' := 231) rfl (hb hby at_195) rfl (tlt (show (((i1.toUInt32 >>> ((24 : Int32) &&& 31).toUInt32).toInt32) &&& (3 : Int32)) < (2 : Int32) by rw [hc155]; decide)).1 (by decide) (by decide) (XS.iconst X19.here hx rfl (hb hby at_231) (XS.istore X19.here hx rfl (hb hby at_232) rfl (l' := #[iv i0, iv i1, jv i2, .second, jv i3, .second, jv i4, .second, jv i5, .second, iv (i0 &&& (255 : Int32)), iv (((i0.toUInt32 >>> ((8 : Int32) &&& 31).toUInt32).toInt32) &&& (255 : Int32)), iv d0, iv d1, rv b2, rv b9, jv s2, .second, jv r2, .second, iv (((i1.toUInt32 >>> ((24 : Int32) &&& 31).toUInt32).toInt32) &&& (3 : Int32)), rv b18, .val .null, iv 0]) rfl (XS.aload X19.here hx rfl (hb hby at_234) rfl rfl (XS.aload X19.here hx rfl (hb hby at_236) rfl rfl k))))) ?_
          show G T19 (mkF m 238 #[iv i0, iv i1, jv i2, .second, jv i3, .second, jv i4, .second, jv i5, .second, iv (i0 &&& (255 : Int32)), iv (((i0.toUInt32 >>> ((8 : Int32) &&& 31).toUInt32).toInt32) &&& (255 : Int32)), iv d0, iv d1, rv b2, rv b9, jv s2, .second, jv r2, .second, iv (((i1.toUInt32 >>> ((24 : Int32) &&& 31).toUInt32).toInt32) &&& (3 : Int32)), rv b18, .val .null, iv 0] [.null, .ref b18])
          obtain ⟨cq20, kq20, q20a, q20b, q20c⟩ := isOf hZ e19 E_b18
          obtain ⟨_, _, ⟨T20, Lz20, kz20, nz20⟩, -, X20, ⟨Lc20, hQ20, lq20, yq20, zq20⟩, st20⟩ := X19.virtualBack hx (y := (⟨"com/example/rankle/rankle/Standing", "equals", "(Ljava/lang/Object;)Z"⟩ : MethodName)) (z := (⟨"com/example/rankle/rankle/Standing", "equals", "(Ljava/lang/Object;)Z"⟩ : MethodName)) hown (mvT hZ (ow hw 43 rfl)) (mvT hZ (ow hw 44 rfl)) (notFace_of_selects (args := #[]) (mvT hZ (ow hw 46 rfl))) (mvT hZ (ow hw 46 rfl)) (mvT hZ (ow hw 45 rfl)) (by decide) (backOf (W := 0) (rm8_n l Z a0 hw [] b18 h19 n0 O) hZ (ow hw 47 rfl) (ow hw 32 rfl) (by decide) (by decide)) q20a q20c (g := (mkF m 238 #[iv i0, iv i1, jv i2, .second, jv i3, .second, jv i4, .second, jv i5, .second, iv (i0 &&& (255 : Int32)), iv (((i0.toUInt32 >>> ((8 : Int32) &&& 31).toUInt32).toInt32) &&& (255 : Int32)), iv d0, iv d1, rv b2, rv b9, jv s2, .second, jv r2, .second, iv (((i1.toUInt32 >>> ((24 : Int32) &&& 31).toUInt32).toInt32) &&& (3 : Int32)), rv b18, .val .null, iv 0] [.null, .ref b18])) rfl (by rw [hml]; rfl) (Steps.refl _) (argsL := [.null]) (rest := []) (lenOf pd_5 rfl) rfl (by show 2 * 0 + _ ≤ _; exact Nat.le_of_eq rfl) (hb hby at_238) (fun _ _ => ⟨rfl, e19, (by decide : 7 + 0 ≤ _), (by decide : 19 + 0 ≤ _)⟩)
          dsimp only [Pt.U, Pt.locs, Pt.cells, Pt.slots] at X20 lq20 yq20 zq20 st20 hQ20
          subst lq20 yq20 zq20
          obtain ⟨rfl, rfl, e20⟩ := hQ20
          try rw [List.append_nil] at X20
          refine gb (fun _ k => st20.trans k) ?_
          show G T20 (mkF m 241 #[iv i0, iv i1, jv i2, .second, jv i3, .second, jv i4, .second, jv i5, .second, iv (i0 &&& (255 : Int32)), iv (((i0.toUInt32 >>> ((8 : Int32) &&& 31).toUInt32).toInt32) &&& (255 : Int32)), iv d0, iv d1, rv b2, rv b9, jv s2, .second, jv r2, .second, iv (((i1.toUInt32 >>> ((24 : Int32) &&& 31).toUInt32).toInt32) &&& (3 : Int32)), rv b18, .val .null, iv 0] [.int 0])
          refine gb (fun _ k => XS.iload X20.here hx rfl (hb hby at_241) rfl (XS.icmpNo X20.here hx rfl (hb hby at_243) rfl (teq (by decide : (0 : Int32) = (0 : Int32))).2 (XS.iconst X20.here hx rfl (hb hby at_246) (XS.goto X20.here hx rfl (pc0 := 247) (pc' := 251) rfl (hb hby at_247) (by decide) (by decide) k)))) ?_
          show G T20 (mkF m 251 #[iv i0, iv i1, jv i2, .second, jv i3, .second, jv i4, .second, jv i5, .second, iv (i0 &&& (255 : Int32)), iv (((i0.toUInt32 >>> ((8 : Int32) &&& 31).toUInt32).toInt32) &&& (255 : Int32)), iv d0, iv d1, rv b2, rv b9, jv s2, .second, jv r2, .second, iv (((i1.toUInt32 >>> ((24 : Int32) &&& 31).toUInt32).toInt32) &&& (3 : Int32)), rv b18, .val .null, iv 0] [.int 1])
          exact go X20 (v := (some (.int (1 : Int32)))) (fun h => by rw [Bd.returns] at h; cases h) (fun fs hr => retOut X20 hx Bd.returns rfl (Or.inl ⟨rfl, by simp, _, rfl⟩) (hb hby at_251) hr) (⟨rfl, N⟩) (by decide) (by decide)
        · skip
          refine gb (fun _ k => XS.ifYes X19.here hx rfl (pc0 := 155) (pc' := 164) rfl (hb hby at_155) rfl ((if0 _ _).trans (feq hc155).2) (by decide) (by decide) (XS.iload X19.here hx rfl (hb hby at_164) rfl (XS.iconst X19.here hx rfl (hb hby at_166) k))) ?_
          show G T19 (mkF m 167 #[iv i0, iv i1, jv i2, .second, jv i3, .second, jv i4, .second, jv i5, .second, iv (i0 &&& (255 : Int32)), iv (((i0.toUInt32 >>> ((8 : Int32) &&& 31).toUInt32).toInt32) &&& (255 : Int32)), iv d0, iv d1, rv b2, rv b9, jv s2, .second, jv r2, .second, iv (((i1.toUInt32 >>> ((24 : Int32) &&& 31).toUInt32).toInt32) &&& (3 : Int32)), rv b18, .unset, .unset] [.int 1, .int (((i1.toUInt32 >>> ((24 : Int32) &&& 31).toUInt32).toInt32) &&& (3 : Int32))])
          by_cases hc167 : (((i1.toUInt32 >>> ((24 : Int32) &&& 31).toUInt32).toInt32) &&& (3 : Int32)) = (1 : Int32)
          · skip
            refine gb (fun _ k => XS.icmpNo X19.here hx rfl (hb hby at_167) rfl (teq hc167).2 (XS.aload X19.here hx rfl (hb hby at_170) rfl rfl (XS.astore X19.here hx rfl (hb hby at_172) rfl rfl (l' := #[iv i0, iv i1, jv i2, .second, jv i3, .second, jv i4, .second, jv i5, .second, iv (i0 &&& (255 : Int32)), iv (((i0.toUInt32 >>> ((8 : Int32) &&& 31).toUInt32).toInt32) &&& (255 : Int32)), iv d0, iv d1, rv b2, rv b9, jv s2, .second, jv r2, .second, iv (((i1.toUInt32 >>> ((24 : Int32) &&& 31).toUInt32).toInt32) &&& (3 : Int32)), rv b18, rv b2, .unset]) rfl (XS.goto X19.here hx rfl (pc0 := 174) (pc' := 192) rfl (hb hby at_174) (by decide) (by decide) (XS.iload X19.here hx rfl (hb hby at_192) rfl (XS.iconst X19.here hx rfl (hb hby at_194) k)))))) ?_
            show G T19 (mkF m 195 #[iv i0, iv i1, jv i2, .second, jv i3, .second, jv i4, .second, jv i5, .second, iv (i0 &&& (255 : Int32)), iv (((i0.toUInt32 >>> ((8 : Int32) &&& 31).toUInt32).toInt32) &&& (255 : Int32)), iv d0, iv d1, rv b2, rv b9, jv s2, .second, jv r2, .second, iv (((i1.toUInt32 >>> ((24 : Int32) &&& 31).toUInt32).toInt32) &&& (3 : Int32)), rv b18, rv b2, .unset] [.int 2, .int (((i1.toUInt32 >>> ((24 : Int32) &&& 31).toUInt32).toInt32) &&& (3 : Int32))])
            refine gb (fun _ k => XS.icmpYes X19.here hx rfl (pc0 := 195) (pc' := 231) rfl (hb hby at_195) rfl (tlt (show (((i1.toUInt32 >>> ((24 : Int32) &&& 31).toUInt32).toInt32) &&& (3 : Int32)) < (2 : Int32) by rw [hc167]; decide)).1 (by decide) (by decide) (XS.iconst X19.here hx rfl (hb hby at_231) (XS.istore X19.here hx rfl (hb hby at_232) rfl (l' := #[iv i0, iv i1, jv i2, .second, jv i3, .second, jv i4, .second, jv i5, .second, iv (i0 &&& (255 : Int32)), iv (((i0.toUInt32 >>> ((8 : Int32) &&& 31).toUInt32).toInt32) &&& (255 : Int32)), iv d0, iv d1, rv b2, rv b9, jv s2, .second, jv r2, .second, iv (((i1.toUInt32 >>> ((24 : Int32) &&& 31).toUInt32).toInt32) &&& (3 : Int32)), rv b18, rv b2, iv 0]) rfl (XS.aload X19.here hx rfl (hb hby at_234) rfl rfl (XS.aload X19.here hx rfl (hb hby at_236) rfl rfl k))))) ?_
            show G T19 (mkF m 238 #[iv i0, iv i1, jv i2, .second, jv i3, .second, jv i4, .second, jv i5, .second, iv (i0 &&& (255 : Int32)), iv (((i0.toUInt32 >>> ((8 : Int32) &&& 31).toUInt32).toInt32) &&& (255 : Int32)), iv d0, iv d1, rv b2, rv b9, jv s2, .second, jv r2, .second, iv (((i1.toUInt32 >>> ((24 : Int32) &&& 31).toUInt32).toInt32) &&& (3 : Int32)), rv b18, rv b2, iv 0] [.ref b2, .ref b18])
            obtain ⟨cq21, kq21, q21a, q21b, q21c⟩ := isOf hZ e19 E_b18
            obtain ⟨_, _, ⟨T21, Lz21, kz21, nz21⟩, -, X21, ⟨Lc21, hQ21, lq21, yq21, zq21⟩, st21⟩ := X19.virtualBack hx (y := (⟨"com/example/rankle/rankle/Standing", "equals", "(Ljava/lang/Object;)Z"⟩ : MethodName)) (z := (⟨"com/example/rankle/rankle/Standing", "equals", "(Ljava/lang/Object;)Z"⟩ : MethodName)) hown (mvT hZ (ow hw 43 rfl)) (mvT hZ (ow hw 44 rfl)) (notFace_of_selects (args := #[]) (mvT hZ (ow hw 46 rfl))) (mvT hZ (ow hw 46 rfl)) (mvT hZ (ow hw 45 rfl)) (by decide) (backOf (W := 0) (rm8_s l Z a0 hw [] b18 b2 h19 n0 O E_b2) hZ (ow hw 47 rfl) (ow hw 32 rfl) (by decide) (by decide)) q21a q21c (g := (mkF m 238 #[iv i0, iv i1, jv i2, .second, jv i3, .second, jv i4, .second, jv i5, .second, iv (i0 &&& (255 : Int32)), iv (((i0.toUInt32 >>> ((8 : Int32) &&& 31).toUInt32).toInt32) &&& (255 : Int32)), iv d0, iv d1, rv b2, rv b9, jv s2, .second, jv r2, .second, iv (((i1.toUInt32 >>> ((24 : Int32) &&& 31).toUInt32).toInt32) &&& (3 : Int32)), rv b18, rv b2, iv 0] [.ref b2, .ref b18])) rfl (by rw [hml]; rfl) (Steps.refl _) (argsL := [(.ref b2)]) (rest := []) (lenOf pd_5 rfl) rfl (by show 2 * 0 + _ ≤ _; exact Nat.le_of_eq rfl) (hb hby at_238) (fun _ _ => ⟨rfl, e19, (by decide : 7 + 0 ≤ _), (by decide : 19 + 0 ≤ _)⟩)
            dsimp only [Pt.U, Pt.locs, Pt.cells, Pt.slots] at X21 lq21 yq21 zq21 st21 hQ21
            subst lq21 yq21 zq21
            obtain ⟨rfl, rfl, e21⟩ := hQ21
            try rw [List.append_nil] at X21
            refine gb (fun _ k => st21.trans k) ?_
            show G T21 (mkF m 241 #[iv i0, iv i1, jv i2, .second, jv i3, .second, jv i4, .second, jv i5, .second, iv (i0 &&& (255 : Int32)), iv (((i0.toUInt32 >>> ((8 : Int32) &&& 31).toUInt32).toInt32) &&& (255 : Int32)), iv d0, iv d1, rv b2, rv b9, jv s2, .second, jv r2, .second, iv (((i1.toUInt32 >>> ((24 : Int32) &&& 31).toUInt32).toInt32) &&& (3 : Int32)), rv b18, rv b2, iv 0] [.int 0])
            refine gb (fun _ k => XS.iload X21.here hx rfl (hb hby at_241) rfl (XS.icmpNo X21.here hx rfl (hb hby at_243) rfl (teq (by decide : (0 : Int32) = (0 : Int32))).2 (XS.iconst X21.here hx rfl (hb hby at_246) (XS.goto X21.here hx rfl (pc0 := 247) (pc' := 251) rfl (hb hby at_247) (by decide) (by decide) k)))) ?_
            show G T21 (mkF m 251 #[iv i0, iv i1, jv i2, .second, jv i3, .second, jv i4, .second, jv i5, .second, iv (i0 &&& (255 : Int32)), iv (((i0.toUInt32 >>> ((8 : Int32) &&& 31).toUInt32).toInt32) &&& (255 : Int32)), iv d0, iv d1, rv b2, rv b9, jv s2, .second, jv r2, .second, iv (((i1.toUInt32 >>> ((24 : Int32) &&& 31).toUInt32).toInt32) &&& (3 : Int32)), rv b18, rv b2, iv 0] [.int 1])
            exact go X21 (v := (some (.int (1 : Int32)))) (fun h => by rw [Bd.returns] at h; cases h) (fun fs hr => retOut X21 hx Bd.returns rfl (Or.inl ⟨rfl, by simp, _, rfl⟩) (hb hby at_251) hr) (⟨rfl, N⟩) (by decide) (by decide)
          · skip
            refine gb (fun _ k => XS.icmpYes X19.here hx rfl (pc0 := 167) (pc' := 177) rfl (hb hby at_167) rfl (feq hc167).2 (by decide) (by decide) k) ?_
            show G T19 (mkF m 177 #[iv i0, iv i1, jv i2, .second, jv i3, .second, jv i4, .second, jv i5, .second, iv (i0 &&& (255 : Int32)), iv (((i0.toUInt32 >>> ((8 : Int32) &&& 31).toUInt32).toInt32) &&& (255 : Int32)), iv d0, iv d1, rv b2, rv b9, jv s2, .second, jv r2, .second, iv (((i1.toUInt32 >>> ((24 : Int32) &&& 31).toUInt32).toInt32) &&& (3 : Int32)), rv b18, .unset, .unset] [])
            obtain ⟨T22, h22, X22, e22, E22, A22, D22, U22, st22⟩ := newO X19 hx hZ hown (ow hw 30 rfl) (ow hw 31 rfl) (ow hw 32 rfl) e19 (g := (mkF m 177 #[iv i0, iv i1, jv i2, .second, jv i3, .second, jv i4, .second, jv i5, .second, iv (i0 &&& (255 : Int32)), iv (((i0.toUInt32 >>> ((8 : Int32) &&& 31).toUInt32).toInt32) &&& (255 : Int32)), iv d0, iv d1, rv b2, rv b9, jv s2, .second, jv r2, .second, iv (((i1.toUInt32 >>> ((24 : Int32) &&& 31).toUInt32).toInt32) &&& (3 : Int32)), rv b18, .unset, .unset] [])) rfl (hb hby at_177) (by decide) (by decide)
            obtain ⟨b22, g22⟩ : ∃ z, z = h19.size := ⟨_, rfl⟩
            rw [← g22] at A22 D22 U22 st22
            have g_b22 : n0 ≤ b22 := Nat.le_trans (by have := O.2.1; rw [O.1] at this; exact this) (Nat.le_of_eq g22.symm)
            have ne_b3_b22 : b3 ≠ b22 := Nat.ne_of_lt (Nat.lt_of_lt_of_le V_b3.lt (Nat.le_of_eq g22.symm))
            have ne_b2_b22 : b2 ≠ b22 := Nat.ne_of_lt (Nat.lt_of_lt_of_le E_b2.lt (Nat.le_of_eq g22.symm))
            have ne_b8_b22 : b8 ≠ b22 := Nat.ne_of_lt (Nat.lt_of_lt_of_le V_b8.lt (Nat.le_of_eq g22.symm))
            have ne_b10_b22 : b10 ≠ b22 := Nat.ne_of_lt (Nat.lt_of_lt_of_le V_b10.lt (Nat.le_of_eq g22.symm))
            have ne_b9_b22 : b9 ≠ b22 := Nat.ne_of_lt (Nat.lt_of_lt_of_le E_b9.lt (Nat.le_of_eq g22.symm))
            have ne_b15_b22 : b15 ≠ b22 := Nat.ne_of_lt (Nat.lt_of_lt_of_le V_b15.lt (Nat.le_of_eq g22.symm))
            have ne_b18_b22 : b18 ≠ b22 := Nat.ne_of_lt (Nat.lt_of_lt_of_le F_player_b18.lt (Nat.le_of_eq g22.symm))
            have V_b3 := V_b3.ext E22
            have E_b2 := E_b2.ext E22
            have F_coder_b2 := F_coder_b2.ext E22
            have F_value_b2 := F_value_b2.ext E22
            have V_b8 := V_b8.ext E22
            have V_b10 := V_b10.ext E22
            have E_b9 := E_b9.ext E22
            have F_coder_b9 := F_coder_b9.ext E22
            have F_value_b9 := F_value_b9.ext E22
            have V_b15 := V_b15.ext E22
            have F_player_b18 := F_player_b18.ext E22
            have F_score_b18 := F_score_b18.ext E22
            have F_rank_b18 := F_rank_b18.ext E22
            have E_b18 := E_b18.ext E22
            have O := O.ext E22
            have E_b22 := A22
            have F_player_b22 : Fld Z h22 b22 "com/example/rankle/rankle/Standing" "player" "Ljava/lang/String;" .null := D22 (Or.inr (ow hw 38 rfl)) (ty := (.object "java/lang/String")) (by decide)
            have F_score_b22 : Fld Z h22 b22 "com/example/rankle/rankle/Standing" "score" "J" (.long (0 : Int64)) := D22 (Or.inr (ow hw 40 rfl)) (ty := .long) (by decide)
            have F_rank_b22 : Fld Z h22 b22 "com/example/rankle/rankle/Standing" "rank" "J" (.long (0 : Int64)) := D22 (Or.inr (ow hw 42 rfl)) (ty := .long) (by decide)
            refine gb st22 ?_
            show G T22 (mkF m 180 #[iv i0, iv i1, jv i2, .second, jv i3, .second, jv i4, .second, jv i5, .second, iv (i0 &&& (255 : Int32)), iv (((i0.toUInt32 >>> ((8 : Int32) &&& 31).toUInt32).toInt32) &&& (255 : Int32)), iv d0, iv d1, rv b2, rv b9, jv s2, .second, jv r2, .second, iv (((i1.toUInt32 >>> ((24 : Int32) &&& 31).toUInt32).toInt32) &&& (3 : Int32)), rv b18, .unset, .unset] [.ref b22])
            refine gb (fun _ k => XS.dup X22.here hx rfl (hb hby at_180) rfl rfl (XS.aload X22.here hx rfl (hb hby at_181) rfl rfl (XS.lload X22.here hx rfl (hb hby at_183) rfl (XS.lload X22.here hx rfl (hb hby at_185) rfl k)))) ?_
            show G T22 (mkF m 187 #[iv i0, iv i1, jv i2, .second, jv i3, .second, jv i4, .second, jv i5, .second, iv (i0 &&& (255 : Int32)), iv (((i0.toUInt32 >>> ((8 : Int32) &&& 31).toUInt32).toInt32) &&& (255 : Int32)), iv d0, iv d1, rv b2, rv b9, jv s2, .second, jv r2, .second, iv (((i1.toUInt32 >>> ((24 : Int32) &&& 31).toUInt32).toInt32) &&& (3 : Int32)), rv b18, .unset, .unset] [.long r2, .long s2, .ref b9, .ref b22, .ref b22])
            obtain ⟨_, _, ⟨T23, Lz23, kz23, nz23⟩, -, X23, ⟨Lc23, hQ23, lq23, yq23, zq23⟩, st23⟩ := X22.specialBack hx (y := (⟨"com/example/rankle/rankle/Standing", "<init>", "(Ljava/lang/String;JJ)V"⟩ : MethodName)) rfl hown (mvT hZ (ow hw 33 rfl)) (mvT hZ (ow hw 34 rfl)) (mvT hZ (ow hw 35 rfl)) (by decide) (backOf (W := 1) (rm7 l Z a0 hw [] b22 b9 s2 r2 h22 n0 O E_b22 F_player_b22 F_score_b22 F_rank_b22 g_b22) hZ (ow hw 35 rfl) (ow hw 32 rfl) (by decide) (by decide)) (g := (mkF m 187 #[iv i0, iv i1, jv i2, .second, jv i3, .second, jv i4, .second, jv i5, .second, iv (i0 &&& (255 : Int32)), iv (((i0.toUInt32 >>> ((8 : Int32) &&& 31).toUInt32).toInt32) &&& (255 : Int32)), iv d0, iv d1, rv b2, rv b9, jv s2, .second, jv r2, .second, iv (((i1.toUInt32 >>> ((24 : Int32) &&& 31).toUInt32).toInt32) &&& (3 : Int32)), rv b18, .unset, .unset] [.long r2, .long s2, .ref b9, .ref b22, .ref b22])) rfl (by rw [hml]; rfl) (Steps.refl _) (a := b22) (argsL := [(.ref b9), (.long s2), (.long r2)]) (rest := [(.ref b22)]) (lenOf pd_7 rfl) rfl (by show 2 * 0 + _ ≤ _; exact Nat.le_of_eq rfl) (hb hby at_187) (fun _ _ => ⟨rfl, e22, (by decide : 8 + 0 ≤ _), (by decide : 22 + 0 ≤ _)⟩)
            dsimp only [Pt.U, Pt.locs, Pt.cells, Pt.slots] at X23 lq23 yq23 zq23 st23 hQ23
            subst lq23 yq23 zq23
            obtain ⟨h23, e23⟩ : ∃ z, z = T23.heap := ⟨_, rfl⟩
            rw [← e23] at hQ23
            replace e23 := e23.symm
            obtain ⟨rfl, Nq23, Kq23, hR23⟩ := hQ23
            have N := Fr.app N Nq23
            have V_b3 := V_b3.keep Kq23 (ninS ne_b3_b22 nin0)
            have E_b2 := E_b2.keep Kq23
            have F_coder_b2 := F_coder_b2.keep Kq23 (ninS ne_b2_b22 nin0)
            have F_value_b2 := F_value_b2.keep Kq23 (ninS ne_b2_b22 nin0)
            have V_b8 := V_b8.keep Kq23 (ninS ne_b8_b22 nin0)
            have V_b10 := V_b10.keep Kq23 (ninS ne_b10_b22 nin0)
            have E_b9 := E_b9.keep Kq23
            have F_coder_b9 := F_coder_b9.keep Kq23 (ninS ne_b9_b22 nin0)
            have F_value_b9 := F_value_b9.keep Kq23 (ninS ne_b9_b22 nin0)
            have V_b15 := V_b15.keep Kq23 (ninS ne_b15_b22 nin0)
            have F_player_b18 := F_player_b18.keep Kq23 (ninS ne_b18_b22 nin0)
            have F_score_b18 := F_score_b18.keep Kq23 (ninS ne_b18_b22 nin0)
            have F_rank_b18 := F_rank_b18.keep Kq23 (ninS ne_b18_b22 nin0)
            have E_b18 := E_b18.keep Kq23
            have E_b22 := E_b22.keep Kq23
            obtain ⟨E_b22, F_player_b22, F_score_b22, F_rank_b22⟩ := hR23
            have O := O.keep Kq23 (allS g_b22 all0)
            refine gb (fun _ k => st23.trans k) ?_
            show G T23 (mkF m 190 #[iv i0, iv i1, jv i2, .second, jv i3, .second, jv i4, .second, jv i5, .second, iv (i0 &&& (255 : Int32)), iv (((i0.toUInt32 >>> ((8 : Int32) &&& 31).toUInt32).toInt32) &&& (255 : Int32)), iv d0, iv d1, rv b2, rv b9, jv s2, .second, jv r2, .second, iv (((i1.toUInt32 >>> ((24 : Int32) &&& 31).toUInt32).toInt32) &&& (3 : Int32)), rv b18, .unset, .unset] [.ref b22])
            refine gb (fun _ k => XS.astore X23.here hx rfl (hb hby at_190) rfl rfl (l' := #[iv i0, iv i1, jv i2, .second, jv i3, .second, jv i4, .second, jv i5, .second, iv (i0 &&& (255 : Int32)), iv (((i0.toUInt32 >>> ((8 : Int32) &&& 31).toUInt32).toInt32) &&& (255 : Int32)), iv d0, iv d1, rv b2, rv b9, jv s2, .second, jv r2, .second, iv (((i1.toUInt32 >>> ((24 : Int32) &&& 31).toUInt32).toInt32) &&& (3 : Int32)), rv b18, rv b22, .unset]) rfl (XS.iload X23.here hx rfl (hb hby at_192) rfl (XS.iconst X23.here hx rfl (hb hby at_194) (XS.icmpNo X23.here hx rfl (hb hby at_195) rfl (flt (own_kind i1 hc155 hc167)).1 (XS.iload X23.here hx rfl (hb hby at_198) rfl (XS.iload X23.here hx rfl (hb hby at_200) rfl k)))))) ?_
            show G T23 (mkF m 202 #[iv i0, iv i1, jv i2, .second, jv i3, .second, jv i4, .second, jv i5, .second, iv (i0 &&& (255 : Int32)), iv (((i0.toUInt32 >>> ((8 : Int32) &&& 31).toUInt32).toInt32) &&& (255 : Int32)), iv d0, iv d1, rv b2, rv b9, jv s2, .second, jv r2, .second, iv (((i1.toUInt32 >>> ((24 : Int32) &&& 31).toUInt32).toInt32) &&& (3 : Int32)), rv b18, rv b22, .unset] [.int d0, .int (i0 &&& (255 : Int32))])
            by_cases hc202 : (i0 &&& (255 : Int32)) = d0
            · skip
              refine gb (fun _ k => XS.icmpNo X23.here hx rfl (hb hby at_202) rfl (teq hc202).2 (XS.iload X23.here hx rfl (hb hby at_205) rfl (XS.iload X23.here hx rfl (hb hby at_207) rfl k))) ?_
              show G T23 (mkF m 209 #[iv i0, iv i1, jv i2, .second, jv i3, .second, jv i4, .second, jv i5, .second, iv (i0 &&& (255 : Int32)), iv (((i0.toUInt32 >>> ((8 : Int32) &&& 31).toUInt32).toInt32) &&& (255 : Int32)), iv d0, iv d1, rv b2, rv b9, jv s2, .second, jv r2, .second, iv (((i1.toUInt32 >>> ((24 : Int32) &&& 31).toUInt32).toInt32) &&& (3 : Int32)), rv b18, rv b22, .unset] [.int d1, .int (((i0.toUInt32 >>> ((8 : Int32) &&& 31).toUInt32).toInt32) &&& (255 : Int32))])
              by_cases hc209 : (((i0.toUInt32 >>> ((8 : Int32) &&& 31).toUInt32).toInt32) &&& (255 : Int32)) = d1
              · skip
                refine gb (fun _ k => XS.icmpNo X23.here hx rfl (hb hby at_209) rfl (teq hc209).2 (XS.lloadN X23.here hx rfl (hb hby at_212) rfl (XS.lload X23.here hx rfl (hb hby at_213) rfl (XS.lcmp X23.here hx rfl (hb hby at_215) rfl k)))) ?_
                show G T23 (mkF m 216 #[iv i0, iv i1, jv i2, .second, jv i3, .second, jv i4, .second, jv i5, .second, iv (i0 &&& (255 : Int32)), iv (((i0.toUInt32 >>> ((8 : Int32) &&& 31).toUInt32).toInt32) &&& (255 : Int32)), iv d0, iv d1, rv b2, rv b9, jv s2, .second, jv r2, .second, iv (((i1.toUInt32 >>> ((24 : Int32) &&& 31).toUInt32).toInt32) &&& (3 : Int32)), rv b18, rv b22, .unset] [.int (lcmpW i2 s2)])
                by_cases hc216 : i2 = s2
                · skip
                  refine gb (fun _ k => XS.ifNo X23.here hx rfl (hb hby at_216) rfl ((if0 _ _).trans (teq ((own_eq _ _).mpr hc216)).2) (XS.lload X23.here hx rfl (hb hby at_219) rfl (XS.lload X23.here hx rfl (hb hby at_221) rfl (XS.lcmp X23.here hx rfl (hb hby at_223) rfl k)))) ?_
                  show G T23 (mkF m 224 #[iv i0, iv i1, jv i2, .second, jv i3, .second, jv i4, .second, jv i5, .second, iv (i0 &&& (255 : Int32)), iv (((i0.toUInt32 >>> ((8 : Int32) &&& 31).toUInt32).toInt32) &&& (255 : Int32)), iv d0, iv d1, rv b2, rv b9, jv s2, .second, jv r2, .second, iv (((i1.toUInt32 >>> ((24 : Int32) &&& 31).toUInt32).toInt32) &&& (3 : Int32)), rv b18, rv b22, .unset] [.int (lcmpW i4 r2)])
                  by_cases hc224 : i4 = r2
                  · skip
                    refine gb (fun _ k => XS.ifNo X23.here hx rfl (hb hby at_224) rfl ((if0 _ _).trans (teq ((own_eq _ _).mpr hc224)).2) (XS.iconst X23.here hx rfl (hb hby at_227) (XS.goto X23.here hx rfl (pc0 := 228) (pc' := 232) rfl (hb hby at_228) (by decide) (by decide) (XS.istore X23.here hx rfl (hb hby at_232) rfl (l' := #[iv i0, iv i1, jv i2, .second, jv i3, .second, jv i4, .second, jv i5, .second, iv (i0 &&& (255 : Int32)), iv (((i0.toUInt32 >>> ((8 : Int32) &&& 31).toUInt32).toInt32) &&& (255 : Int32)), iv d0, iv d1, rv b2, rv b9, jv s2, .second, jv r2, .second, iv (((i1.toUInt32 >>> ((24 : Int32) &&& 31).toUInt32).toInt32) &&& (3 : Int32)), rv b18, rv b22, iv 1]) rfl (XS.aload X23.here hx rfl (hb hby at_234) rfl rfl (XS.aload X23.here hx rfl (hb hby at_236) rfl rfl k)))))) ?_
                    show G T23 (mkF m 238 #[iv i0, iv i1, jv i2, .second, jv i3, .second, jv i4, .second, jv i5, .second, iv (i0 &&& (255 : Int32)), iv (((i0.toUInt32 >>> ((8 : Int32) &&& 31).toUInt32).toInt32) &&& (255 : Int32)), iv d0, iv d1, rv b2, rv b9, jv s2, .second, jv r2, .second, iv (((i1.toUInt32 >>> ((24 : Int32) &&& 31).toUInt32).toInt32) &&& (3 : Int32)), rv b18, rv b22, iv 1] [.ref b22, .ref b18])
                    obtain ⟨cq24, kq24, q24a, q24b, q24c⟩ := isOf hZ e23 E_b18
                    obtain ⟨_, _, ⟨T24, Lz24, kz24, nz24⟩, -, X24, ⟨Lc24, hQ24, lq24, yq24, zq24⟩, st24⟩ := X23.virtualBack hx (y := (⟨"com/example/rankle/rankle/Standing", "equals", "(Ljava/lang/Object;)Z"⟩ : MethodName)) (z := (⟨"com/example/rankle/rankle/Standing", "equals", "(Ljava/lang/Object;)Z"⟩ : MethodName)) hown (mvT hZ (ow hw 43 rfl)) (mvT hZ (ow hw 44 rfl)) (notFace_of_selects (args := #[]) (mvT hZ (ow hw 46 rfl))) (mvT hZ (ow hw 46 rfl)) (mvT hZ (ow hw 45 rfl)) (by decide) (backOf (W := 0) (rm8_t l Z a0 hw [] b18 b22 b8 b15 b2 b9 kb8 kb15 (nar .byte ((i0 &&& (255 : Int32)).toInt8.toInt32)) (nar .byte ((((i0.toUInt32 >>> ((8 : Int32) &&& 31).toUInt32).toInt32) &&& (255 : Int32)).toInt8.toInt32)) (nar .byte (d0.toInt8.toInt32)) (nar .byte (d1.toInt8.toInt32)) (1 : Int32) i2 i4 s2 r2 h23 n0 O E_b18 F_player_b18 F_score_b18 F_rank_b18 E_b22 F_player_b22 F_score_b22 F_rank_b22 E_b2 E_b9 F_coder_b2 F_value_b2 F_coder_b9 F_value_b9 V_b8 V_b15 ne_b2_b9 zc S_cs hzc (by rw [hc202, hc209, if_pos rfl, if_pos rfl, if_pos hc216, if_pos hc224])) hZ (ow hw 47 rfl) (ow hw 32 rfl) (by decide) (by decide)) q24a q24c (g := (mkF m 238 #[iv i0, iv i1, jv i2, .second, jv i3, .second, jv i4, .second, jv i5, .second, iv (i0 &&& (255 : Int32)), iv (((i0.toUInt32 >>> ((8 : Int32) &&& 31).toUInt32).toInt32) &&& (255 : Int32)), iv d0, iv d1, rv b2, rv b9, jv s2, .second, jv r2, .second, iv (((i1.toUInt32 >>> ((24 : Int32) &&& 31).toUInt32).toInt32) &&& (3 : Int32)), rv b18, rv b22, iv 1] [.ref b22, .ref b18])) rfl (by rw [hml]; rfl) (Steps.refl _) (argsL := [(.ref b22)]) (rest := []) (lenOf pd_5 rfl) rfl (by show 2 * 0 + _ ≤ _; exact Nat.le_of_eq rfl) (hb hby at_238) (fun _ _ => ⟨rfl, e23, (by decide : 8 + 0 ≤ _), (by decide : 22 + 0 ≤ _)⟩)
                    dsimp only [Pt.U, Pt.locs, Pt.cells, Pt.slots] at X24 lq24 yq24 zq24 st24 hQ24
                    subst lq24 yq24 zq24
                    obtain ⟨rfl, rfl, e24⟩ := hQ24
                    try rw [List.append_nil] at X24
                    refine gb (fun _ k => st24.trans k) ?_
                    show G T24 (mkF m 241 #[iv i0, iv i1, jv i2, .second, jv i3, .second, jv i4, .second, jv i5, .second, iv (i0 &&& (255 : Int32)), iv (((i0.toUInt32 >>> ((8 : Int32) &&& 31).toUInt32).toInt32) &&& (255 : Int32)), iv d0, iv d1, rv b2, rv b9, jv s2, .second, jv r2, .second, iv (((i1.toUInt32 >>> ((24 : Int32) &&& 31).toUInt32).toInt32) &&& (3 : Int32)), rv b18, rv b22, iv 1] [.int 1])
                    refine gb (fun _ k => XS.iload X24.here hx rfl (hb hby at_241) rfl (XS.icmpNo X24.here hx rfl (hb hby at_243) rfl (teq (by decide : (1 : Int32) = (1 : Int32))).2 (XS.iconst X24.here hx rfl (hb hby at_246) (XS.goto X24.here hx rfl (pc0 := 247) (pc' := 251) rfl (hb hby at_247) (by decide) (by decide) k)))) ?_
                    show G T24 (mkF m 251 #[iv i0, iv i1, jv i2, .second, jv i3, .second, jv i4, .second, jv i5, .second, iv (i0 &&& (255 : Int32)), iv (((i0.toUInt32 >>> ((8 : Int32) &&& 31).toUInt32).toInt32) &&& (255 : Int32)), iv d0, iv d1, rv b2, rv b9, jv s2, .second, jv r2, .second, iv (((i1.toUInt32 >>> ((24 : Int32) &&& 31).toUInt32).toInt32) &&& (3 : Int32)), rv b18, rv b22, iv 1] [.int 1])
                    exact go X24 (v := (some (.int (1 : Int32)))) (fun h => by rw [Bd.returns] at h; cases h) (fun fs hr => retOut X24 hx Bd.returns rfl (Or.inl ⟨rfl, by simp, _, rfl⟩) (hb hby at_251) hr) (⟨rfl, N⟩) (by decide) (by decide)
                  · skip
                    refine gb (fun _ k => XS.ifYes X23.here hx rfl (pc0 := 224) (pc' := 231) rfl (hb hby at_224) rfl ((if0 _ _).trans (feq (fun q => hc224 ((own_eq _ _).mp q))).2) (by decide) (by decide) (XS.iconst X23.here hx rfl (hb hby at_231) (XS.istore X23.here hx rfl (hb hby at_232) rfl (l' := #[iv i0, iv i1, jv i2, .second, jv i3, .second, jv i4, .second, jv i5, .second, iv (i0 &&& (255 : Int32)), iv (((i0.toUInt32 >>> ((8 : Int32) &&& 31).toUInt32).toInt32) &&& (255 : Int32)), iv d0, iv d1, rv b2, rv b9, jv s2, .second, jv r2, .second, iv (((i1.toUInt32 >>> ((24 : Int32) &&& 31).toUInt32).toInt32) &&& (3 : Int32)), rv b18, rv b22, iv 0]) rfl (XS.aload X23.here hx rfl (hb hby at_234) rfl rfl (XS.aload X23.here hx rfl (hb hby at_236) rfl rfl k))))) ?_
                    show G T23 (mkF m 238 #[iv i0, iv i1, jv i2, .second, jv i3, .second, jv i4, .second, jv i5, .second, iv (i0 &&& (255 : Int32)), iv (((i0.toUInt32 >>> ((8 : Int32) &&& 31).toUInt32).toInt32) &&& (255 : Int32)), iv d0, iv d1, rv b2, rv b9, jv s2, .second, jv r2, .second, iv (((i1.toUInt32 >>> ((24 : Int32) &&& 31).toUInt32).toInt32) &&& (3 : Int32)), rv b18, rv b22, iv 0] [.ref b22, .ref b18])
                    obtain ⟨cq25, kq25, q25a, q25b, q25c⟩ := isOf hZ e23 E_b18
                    obtain ⟨_, _, ⟨T25, Lz25, kz25, nz25⟩, -, X25, ⟨Lc25, hQ25, lq25, yq25, zq25⟩, st25⟩ := X23.virtualBack hx (y := (⟨"com/example/rankle/rankle/Standing", "equals", "(Ljava/lang/Object;)Z"⟩ : MethodName)) (z := (⟨"com/example/rankle/rankle/Standing", "equals", "(Ljava/lang/Object;)Z"⟩ : MethodName)) hown (mvT hZ (ow hw 43 rfl)) (mvT hZ (ow hw 44 rfl)) (notFace_of_selects (args := #[]) (mvT hZ (ow hw 46 rfl))) (mvT hZ (ow hw 46 rfl)) (mvT hZ (ow hw 45 rfl)) (by decide) (backOf (W := 0) (rm8_t l Z a0 hw [] b18 b22 b8 b15 b2 b9 kb8 kb15 (nar .byte ((i0 &&& (255 : Int32)).toInt8.toInt32)) (nar .byte ((((i0.toUInt32 >>> ((8 : Int32) &&& 31).toUInt32).toInt32) &&& (255 : Int32)).toInt8.toInt32)) (nar .byte (d0.toInt8.toInt32)) (nar .byte (d1.toInt8.toInt32)) (0 : Int32) i2 i4 s2 r2 h23 n0 O E_b18 F_player_b18 F_score_b18 F_rank_b18 E_b22 F_player_b22 F_score_b22 F_rank_b22 E_b2 E_b9 F_coder_b2 F_value_b2 F_coder_b9 F_value_b9 V_b8 V_b15 ne_b2_b9 zc S_cs hzc (by rw [hc202, hc209, if_pos rfl, if_pos rfl, if_pos hc216]; exact if_neg hc224)) hZ (ow hw 47 rfl) (ow hw 32 rfl) (by decide) (by decide)) q25a q25c (g := (mkF m 238 #[iv i0, iv i1, jv i2, .second, jv i3, .second, jv i4, .second, jv i5, .second, iv (i0 &&& (255 : Int32)), iv (((i0.toUInt32 >>> ((8 : Int32) &&& 31).toUInt32).toInt32) &&& (255 : Int32)), iv d0, iv d1, rv b2, rv b9, jv s2, .second, jv r2, .second, iv (((i1.toUInt32 >>> ((24 : Int32) &&& 31).toUInt32).toInt32) &&& (3 : Int32)), rv b18, rv b22, iv 0] [.ref b22, .ref b18])) rfl (by rw [hml]; rfl) (Steps.refl _) (argsL := [(.ref b22)]) (rest := []) (lenOf pd_5 rfl) rfl (by show 2 * 0 + _ ≤ _; exact Nat.le_of_eq rfl) (hb hby at_238) (fun _ _ => ⟨rfl, e23, (by decide : 8 + 0 ≤ _), (by decide : 22 + 0 ≤ _)⟩)
                    dsimp only [Pt.U, Pt.locs, Pt.cells, Pt.slots] at X25 lq25 yq25 zq25 st25 hQ25
                    subst lq25 yq25 zq25
                    obtain ⟨rfl, rfl, e25⟩ := hQ25
                    try rw [List.append_nil] at X25
                    refine gb (fun _ k => st25.trans k) ?_
                    show G T25 (mkF m 241 #[iv i0, iv i1, jv i2, .second, jv i3, .second, jv i4, .second, jv i5, .second, iv (i0 &&& (255 : Int32)), iv (((i0.toUInt32 >>> ((8 : Int32) &&& 31).toUInt32).toInt32) &&& (255 : Int32)), iv d0, iv d1, rv b2, rv b9, jv s2, .second, jv r2, .second, iv (((i1.toUInt32 >>> ((24 : Int32) &&& 31).toUInt32).toInt32) &&& (3 : Int32)), rv b18, rv b22, iv 0] [.int 0])
                    refine gb (fun _ k => XS.iload X25.here hx rfl (hb hby at_241) rfl (XS.icmpNo X25.here hx rfl (hb hby at_243) rfl (teq (by decide : (0 : Int32) = (0 : Int32))).2 (XS.iconst X25.here hx rfl (hb hby at_246) (XS.goto X25.here hx rfl (pc0 := 247) (pc' := 251) rfl (hb hby at_247) (by decide) (by decide) k)))) ?_
                    show G T25 (mkF m 251 #[iv i0, iv i1, jv i2, .second, jv i3, .second, jv i4, .second, jv i5, .second, iv (i0 &&& (255 : Int32)), iv (((i0.toUInt32 >>> ((8 : Int32) &&& 31).toUInt32).toInt32) &&& (255 : Int32)), iv d0, iv d1, rv b2, rv b9, jv s2, .second, jv r2, .second, iv (((i1.toUInt32 >>> ((24 : Int32) &&& 31).toUInt32).toInt32) &&& (3 : Int32)), rv b18, rv b22, iv 0] [.int 1])
                    exact go X25 (v := (some (.int (1 : Int32)))) (fun h => by rw [Bd.returns] at h; cases h) (fun fs hr => retOut X25 hx Bd.returns rfl (Or.inl ⟨rfl, by simp, _, rfl⟩) (hb hby at_251) hr) (⟨rfl, N⟩) (by decide) (by decide)
                · skip
                  refine gb (fun _ k => XS.ifYes X23.here hx rfl (pc0 := 216) (pc' := 231) rfl (hb hby at_216) rfl ((if0 _ _).trans (feq (fun q => hc216 ((own_eq _ _).mp q))).2) (by decide) (by decide) (XS.iconst X23.here hx rfl (hb hby at_231) (XS.istore X23.here hx rfl (hb hby at_232) rfl (l' := #[iv i0, iv i1, jv i2, .second, jv i3, .second, jv i4, .second, jv i5, .second, iv (i0 &&& (255 : Int32)), iv (((i0.toUInt32 >>> ((8 : Int32) &&& 31).toUInt32).toInt32) &&& (255 : Int32)), iv d0, iv d1, rv b2, rv b9, jv s2, .second, jv r2, .second, iv (((i1.toUInt32 >>> ((24 : Int32) &&& 31).toUInt32).toInt32) &&& (3 : Int32)), rv b18, rv b22, iv 0]) rfl (XS.aload X23.here hx rfl (hb hby at_234) rfl rfl (XS.aload X23.here hx rfl (hb hby at_236) rfl rfl k))))) ?_
                  show G T23 (mkF m 238 #[iv i0, iv i1, jv i2, .second, jv i3, .second, jv i4, .second, jv i5, .second, iv (i0 &&& (255 : Int32)), iv (((i0.toUInt32 >>> ((8 : Int32) &&& 31).toUInt32).toInt32) &&& (255 : Int32)), iv d0, iv d1, rv b2, rv b9, jv s2, .second, jv r2, .second, iv (((i1.toUInt32 >>> ((24 : Int32) &&& 31).toUInt32).toInt32) &&& (3 : Int32)), rv b18, rv b22, iv 0] [.ref b22, .ref b18])
                  obtain ⟨cq26, kq26, q26a, q26b, q26c⟩ := isOf hZ e23 E_b18
                  obtain ⟨_, _, ⟨T26, Lz26, kz26, nz26⟩, -, X26, ⟨Lc26, hQ26, lq26, yq26, zq26⟩, st26⟩ := X23.virtualBack hx (y := (⟨"com/example/rankle/rankle/Standing", "equals", "(Ljava/lang/Object;)Z"⟩ : MethodName)) (z := (⟨"com/example/rankle/rankle/Standing", "equals", "(Ljava/lang/Object;)Z"⟩ : MethodName)) hown (mvT hZ (ow hw 43 rfl)) (mvT hZ (ow hw 44 rfl)) (notFace_of_selects (args := #[]) (mvT hZ (ow hw 46 rfl))) (mvT hZ (ow hw 46 rfl)) (mvT hZ (ow hw 45 rfl)) (by decide) (backOf (W := 0) (rm8_t l Z a0 hw [] b18 b22 b8 b15 b2 b9 kb8 kb15 (nar .byte ((i0 &&& (255 : Int32)).toInt8.toInt32)) (nar .byte ((((i0.toUInt32 >>> ((8 : Int32) &&& 31).toUInt32).toInt32) &&& (255 : Int32)).toInt8.toInt32)) (nar .byte (d0.toInt8.toInt32)) (nar .byte (d1.toInt8.toInt32)) (0 : Int32) i2 i4 s2 r2 h23 n0 O E_b18 F_player_b18 F_score_b18 F_rank_b18 E_b22 F_player_b22 F_score_b22 F_rank_b22 E_b2 E_b9 F_coder_b2 F_value_b2 F_coder_b9 F_value_b9 V_b8 V_b15 ne_b2_b9 zc S_cs hzc (by rw [hc202, hc209, if_pos rfl, if_pos rfl]; exact if_neg hc216)) hZ (ow hw 47 rfl) (ow hw 32 rfl) (by decide) (by decide)) q26a q26c (g := (mkF m 238 #[iv i0, iv i1, jv i2, .second, jv i3, .second, jv i4, .second, jv i5, .second, iv (i0 &&& (255 : Int32)), iv (((i0.toUInt32 >>> ((8 : Int32) &&& 31).toUInt32).toInt32) &&& (255 : Int32)), iv d0, iv d1, rv b2, rv b9, jv s2, .second, jv r2, .second, iv (((i1.toUInt32 >>> ((24 : Int32) &&& 31).toUInt32).toInt32) &&& (3 : Int32)), rv b18, rv b22, iv 0] [.ref b22, .ref b18])) rfl (by rw [hml]; rfl) (Steps.refl _) (argsL := [(.ref b22)]) (rest := []) (lenOf pd_5 rfl) rfl (by show 2 * 0 + _ ≤ _; exact Nat.le_of_eq rfl) (hb hby at_238) (fun _ _ => ⟨rfl, e23, (by decide : 8 + 0 ≤ _), (by decide : 22 + 0 ≤ _)⟩)
                  dsimp only [Pt.U, Pt.locs, Pt.cells, Pt.slots] at X26 lq26 yq26 zq26 st26 hQ26
                  subst lq26 yq26 zq26
                  obtain ⟨rfl, rfl, e26⟩ := hQ26
                  try rw [List.append_nil] at X26
                  refine gb (fun _ k => st26.trans k) ?_
                  show G T26 (mkF m 241 #[iv i0, iv i1, jv i2, .second, jv i3, .second, jv i4, .second, jv i5, .second, iv (i0 &&& (255 : Int32)), iv (((i0.toUInt32 >>> ((8 : Int32) &&& 31).toUInt32).toInt32) &&& (255 : Int32)), iv d0, iv d1, rv b2, rv b9, jv s2, .second, jv r2, .second, iv (((i1.toUInt32 >>> ((24 : Int32) &&& 31).toUInt32).toInt32) &&& (3 : Int32)), rv b18, rv b22, iv 0] [.int 0])
                  refine gb (fun _ k => XS.iload X26.here hx rfl (hb hby at_241) rfl (XS.icmpNo X26.here hx rfl (hb hby at_243) rfl (teq (by decide : (0 : Int32) = (0 : Int32))).2 (XS.iconst X26.here hx rfl (hb hby at_246) (XS.goto X26.here hx rfl (pc0 := 247) (pc' := 251) rfl (hb hby at_247) (by decide) (by decide) k)))) ?_
                  show G T26 (mkF m 251 #[iv i0, iv i1, jv i2, .second, jv i3, .second, jv i4, .second, jv i5, .second, iv (i0 &&& (255 : Int32)), iv (((i0.toUInt32 >>> ((8 : Int32) &&& 31).toUInt32).toInt32) &&& (255 : Int32)), iv d0, iv d1, rv b2, rv b9, jv s2, .second, jv r2, .second, iv (((i1.toUInt32 >>> ((24 : Int32) &&& 31).toUInt32).toInt32) &&& (3 : Int32)), rv b18, rv b22, iv 0] [.int 1])
                  exact go X26 (v := (some (.int (1 : Int32)))) (fun h => by rw [Bd.returns] at h; cases h) (fun fs hr => retOut X26 hx Bd.returns rfl (Or.inl ⟨rfl, by simp, _, rfl⟩) (hb hby at_251) hr) (⟨rfl, N⟩) (by decide) (by decide)
              · skip
                refine gb (fun _ k => XS.icmpYes X23.here hx rfl (pc0 := 209) (pc' := 231) rfl (hb hby at_209) rfl (feq hc209).2 (by decide) (by decide) (XS.iconst X23.here hx rfl (hb hby at_231) (XS.istore X23.here hx rfl (hb hby at_232) rfl (l' := #[iv i0, iv i1, jv i2, .second, jv i3, .second, jv i4, .second, jv i5, .second, iv (i0 &&& (255 : Int32)), iv (((i0.toUInt32 >>> ((8 : Int32) &&& 31).toUInt32).toInt32) &&& (255 : Int32)), iv d0, iv d1, rv b2, rv b9, jv s2, .second, jv r2, .second, iv (((i1.toUInt32 >>> ((24 : Int32) &&& 31).toUInt32).toInt32) &&& (3 : Int32)), rv b18, rv b22, iv 0]) rfl (XS.aload X23.here hx rfl (hb hby at_234) rfl rfl (XS.aload X23.here hx rfl (hb hby at_236) rfl rfl k))))) ?_
                show G T23 (mkF m 238 #[iv i0, iv i1, jv i2, .second, jv i3, .second, jv i4, .second, jv i5, .second, iv (i0 &&& (255 : Int32)), iv (((i0.toUInt32 >>> ((8 : Int32) &&& 31).toUInt32).toInt32) &&& (255 : Int32)), iv d0, iv d1, rv b2, rv b9, jv s2, .second, jv r2, .second, iv (((i1.toUInt32 >>> ((24 : Int32) &&& 31).toUInt32).toInt32) &&& (3 : Int32)), rv b18, rv b22, iv 0] [.ref b22, .ref b18])
                obtain ⟨cq27, kq27, q27a, q27b, q27c⟩ := isOf hZ e23 E_b18
                obtain ⟨_, _, ⟨T27, Lz27, kz27, nz27⟩, -, X27, ⟨Lc27, hQ27, lq27, yq27, zq27⟩, st27⟩ := X23.virtualBack hx (y := (⟨"com/example/rankle/rankle/Standing", "equals", "(Ljava/lang/Object;)Z"⟩ : MethodName)) (z := (⟨"com/example/rankle/rankle/Standing", "equals", "(Ljava/lang/Object;)Z"⟩ : MethodName)) hown (mvT hZ (ow hw 43 rfl)) (mvT hZ (ow hw 44 rfl)) (notFace_of_selects (args := #[]) (mvT hZ (ow hw 46 rfl))) (mvT hZ (ow hw 46 rfl)) (mvT hZ (ow hw 45 rfl)) (by decide) (backOf (W := 0) (rm8_t l Z a0 hw [] b18 b22 b8 b15 b2 b9 kb8 kb15 (nar .byte ((i0 &&& (255 : Int32)).toInt8.toInt32)) (nar .byte ((((i0.toUInt32 >>> ((8 : Int32) &&& 31).toUInt32).toInt32) &&& (255 : Int32)).toInt8.toInt32)) (nar .byte (d0.toInt8.toInt32)) (nar .byte (d1.toInt8.toInt32)) (0 : Int32) i2 i4 s2 r2 h23 n0 O E_b18 F_player_b18 F_score_b18 F_rank_b18 E_b22 F_player_b22 F_score_b22 F_rank_b22 E_b2 E_b9 F_coder_b2 F_value_b2 F_coder_b9 F_value_b9 V_b8 V_b15 ne_b2_b9 zc S_cs hzc (by rw [hc202, if_pos rfl]; exact if_neg (fun e => hc209 (own_ob (own_ge0 _) (own_le255 _) he1 hd1 e)))) hZ (ow hw 47 rfl) (ow hw 32 rfl) (by decide) (by decide)) q27a q27c (g := (mkF m 238 #[iv i0, iv i1, jv i2, .second, jv i3, .second, jv i4, .second, jv i5, .second, iv (i0 &&& (255 : Int32)), iv (((i0.toUInt32 >>> ((8 : Int32) &&& 31).toUInt32).toInt32) &&& (255 : Int32)), iv d0, iv d1, rv b2, rv b9, jv s2, .second, jv r2, .second, iv (((i1.toUInt32 >>> ((24 : Int32) &&& 31).toUInt32).toInt32) &&& (3 : Int32)), rv b18, rv b22, iv 0] [.ref b22, .ref b18])) rfl (by rw [hml]; rfl) (Steps.refl _) (argsL := [(.ref b22)]) (rest := []) (lenOf pd_5 rfl) rfl (by show 2 * 0 + _ ≤ _; exact Nat.le_of_eq rfl) (hb hby at_238) (fun _ _ => ⟨rfl, e23, (by decide : 8 + 0 ≤ _), (by decide : 22 + 0 ≤ _)⟩)
                dsimp only [Pt.U, Pt.locs, Pt.cells, Pt.slots] at X27 lq27 yq27 zq27 st27 hQ27
                subst lq27 yq27 zq27
                obtain ⟨rfl, rfl, e27⟩ := hQ27
                try rw [List.append_nil] at X27
                refine gb (fun _ k => st27.trans k) ?_
                show G T27 (mkF m 241 #[iv i0, iv i1, jv i2, .second, jv i3, .second, jv i4, .second, jv i5, .second, iv (i0 &&& (255 : Int32)), iv (((i0.toUInt32 >>> ((8 : Int32) &&& 31).toUInt32).toInt32) &&& (255 : Int32)), iv d0, iv d1, rv b2, rv b9, jv s2, .second, jv r2, .second, iv (((i1.toUInt32 >>> ((24 : Int32) &&& 31).toUInt32).toInt32) &&& (3 : Int32)), rv b18, rv b22, iv 0] [.int 0])
                refine gb (fun _ k => XS.iload X27.here hx rfl (hb hby at_241) rfl (XS.icmpNo X27.here hx rfl (hb hby at_243) rfl (teq (by decide : (0 : Int32) = (0 : Int32))).2 (XS.iconst X27.here hx rfl (hb hby at_246) (XS.goto X27.here hx rfl (pc0 := 247) (pc' := 251) rfl (hb hby at_247) (by decide) (by decide) k)))) ?_
                show G T27 (mkF m 251 #[iv i0, iv i1, jv i2, .second, jv i3, .second, jv i4, .second, jv i5, .second, iv (i0 &&& (255 : Int32)), iv (((i0.toUInt32 >>> ((8 : Int32) &&& 31).toUInt32).toInt32) &&& (255 : Int32)), iv d0, iv d1, rv b2, rv b9, jv s2, .second, jv r2, .second, iv (((i1.toUInt32 >>> ((24 : Int32) &&& 31).toUInt32).toInt32) &&& (3 : Int32)), rv b18, rv b22, iv 0] [.int 1])
                exact go X27 (v := (some (.int (1 : Int32)))) (fun h => by rw [Bd.returns] at h; cases h) (fun fs hr => retOut X27 hx Bd.returns rfl (Or.inl ⟨rfl, by simp, _, rfl⟩) (hb hby at_251) hr) (⟨rfl, N⟩) (by decide) (by decide)
            · skip
              refine gb (fun _ k => XS.icmpYes X23.here hx rfl (pc0 := 202) (pc' := 231) rfl (hb hby at_202) rfl (feq hc202).2 (by decide) (by decide) (XS.iconst X23.here hx rfl (hb hby at_231) (XS.istore X23.here hx rfl (hb hby at_232) rfl (l' := #[iv i0, iv i1, jv i2, .second, jv i3, .second, jv i4, .second, jv i5, .second, iv (i0 &&& (255 : Int32)), iv (((i0.toUInt32 >>> ((8 : Int32) &&& 31).toUInt32).toInt32) &&& (255 : Int32)), iv d0, iv d1, rv b2, rv b9, jv s2, .second, jv r2, .second, iv (((i1.toUInt32 >>> ((24 : Int32) &&& 31).toUInt32).toInt32) &&& (3 : Int32)), rv b18, rv b22, iv 0]) rfl (XS.aload X23.here hx rfl (hb hby at_234) rfl rfl (XS.aload X23.here hx rfl (hb hby at_236) rfl rfl k))))) ?_
              show G T23 (mkF m 238 #[iv i0, iv i1, jv i2, .second, jv i3, .second, jv i4, .second, jv i5, .second, iv (i0 &&& (255 : Int32)), iv (((i0.toUInt32 >>> ((8 : Int32) &&& 31).toUInt32).toInt32) &&& (255 : Int32)), iv d0, iv d1, rv b2, rv b9, jv s2, .second, jv r2, .second, iv (((i1.toUInt32 >>> ((24 : Int32) &&& 31).toUInt32).toInt32) &&& (3 : Int32)), rv b18, rv b22, iv 0] [.ref b22, .ref b18])
              obtain ⟨cq28, kq28, q28a, q28b, q28c⟩ := isOf hZ e23 E_b18
              obtain ⟨_, _, ⟨T28, Lz28, kz28, nz28⟩, -, X28, ⟨Lc28, hQ28, lq28, yq28, zq28⟩, st28⟩ := X23.virtualBack hx (y := (⟨"com/example/rankle/rankle/Standing", "equals", "(Ljava/lang/Object;)Z"⟩ : MethodName)) (z := (⟨"com/example/rankle/rankle/Standing", "equals", "(Ljava/lang/Object;)Z"⟩ : MethodName)) hown (mvT hZ (ow hw 43 rfl)) (mvT hZ (ow hw 44 rfl)) (notFace_of_selects (args := #[]) (mvT hZ (ow hw 46 rfl))) (mvT hZ (ow hw 46 rfl)) (mvT hZ (ow hw 45 rfl)) (by decide) (backOf (W := 0) (rm8_t l Z a0 hw [] b18 b22 b8 b15 b2 b9 kb8 kb15 (nar .byte ((i0 &&& (255 : Int32)).toInt8.toInt32)) (nar .byte ((((i0.toUInt32 >>> ((8 : Int32) &&& 31).toUInt32).toInt32) &&& (255 : Int32)).toInt8.toInt32)) (nar .byte (d0.toInt8.toInt32)) (nar .byte (d1.toInt8.toInt32)) (0 : Int32) i2 i4 s2 r2 h23 n0 O E_b18 F_player_b18 F_score_b18 F_rank_b18 E_b22 F_player_b22 F_score_b22 F_rank_b22 E_b2 E_b9 F_coder_b2 F_value_b2 F_coder_b9 F_value_b9 V_b8 V_b15 ne_b2_b9 zc S_cs hzc (if_neg (fun e => hc202 (own_ob (own_ge0 _) (own_le255 _) he0 hd0 e)))) hZ (ow hw 47 rfl) (ow hw 32 rfl) (by decide) (by decide)) q28a q28c (g := (mkF m 238 #[iv i0, iv i1, jv i2, .second, jv i3, .second, jv i4, .second, jv i5, .second, iv (i0 &&& (255 : Int32)), iv (((i0.toUInt32 >>> ((8 : Int32) &&& 31).toUInt32).toInt32) &&& (255 : Int32)), iv d0, iv d1, rv b2, rv b9, jv s2, .second, jv r2, .second, iv (((i1.toUInt32 >>> ((24 : Int32) &&& 31).toUInt32).toInt32) &&& (3 : Int32)), rv b18, rv b22, iv 0] [.ref b22, .ref b18])) rfl (by rw [hml]; rfl) (Steps.refl _) (argsL := [(.ref b22)]) (rest := []) (lenOf pd_5 rfl) rfl (by show 2 * 0 + _ ≤ _; exact Nat.le_of_eq rfl) (hb hby at_238) (fun _ _ => ⟨rfl, e23, (by decide : 8 + 0 ≤ _), (by decide : 22 + 0 ≤ _)⟩)
              dsimp only [Pt.U, Pt.locs, Pt.cells, Pt.slots] at X28 lq28 yq28 zq28 st28 hQ28
              subst lq28 yq28 zq28
              obtain ⟨rfl, rfl, e28⟩ := hQ28
              try rw [List.append_nil] at X28
              refine gb (fun _ k => st28.trans k) ?_
              show G T28 (mkF m 241 #[iv i0, iv i1, jv i2, .second, jv i3, .second, jv i4, .second, jv i5, .second, iv (i0 &&& (255 : Int32)), iv (((i0.toUInt32 >>> ((8 : Int32) &&& 31).toUInt32).toInt32) &&& (255 : Int32)), iv d0, iv d1, rv b2, rv b9, jv s2, .second, jv r2, .second, iv (((i1.toUInt32 >>> ((24 : Int32) &&& 31).toUInt32).toInt32) &&& (3 : Int32)), rv b18, rv b22, iv 0] [.int 0])
              refine gb (fun _ k => XS.iload X28.here hx rfl (hb hby at_241) rfl (XS.icmpNo X28.here hx rfl (hb hby at_243) rfl (teq (by decide : (0 : Int32) = (0 : Int32))).2 (XS.iconst X28.here hx rfl (hb hby at_246) (XS.goto X28.here hx rfl (pc0 := 247) (pc' := 251) rfl (hb hby at_247) (by decide) (by decide) k)))) ?_
              show G T28 (mkF m 251 #[iv i0, iv i1, jv i2, .second, jv i3, .second, jv i4, .second, jv i5, .second, iv (i0 &&& (255 : Int32)), iv (((i0.toUInt32 >>> ((8 : Int32) &&& 31).toUInt32).toInt32) &&& (255 : Int32)), iv d0, iv d1, rv b2, rv b9, jv s2, .second, jv r2, .second, iv (((i1.toUInt32 >>> ((24 : Int32) &&& 31).toUInt32).toInt32) &&& (3 : Int32)), rv b18, rv b22, iv 0] [.int 1])
              exact go X28 (v := (some (.int (1 : Int32)))) (fun h => by rw [Bd.returns] at h; cases h) (fun fs hr => retOut X28 hx Bd.returns rfl (Or.inl ⟨rfl, by simp, _, rfl⟩) (hb hby at_251) hr) (⟨rfl, N⟩) (by decide) (by decide)
      refine gb (fun _ k => XS.iloadN X16.here hx rfl (hb hby at_116) rfl (XS.iconst X16.here hx rfl (hb hby at_117) (XS.iand X16.here hx rfl (hb hby at_118) rfl k))) ?_
      show G T16 (mkF m 119 #[iv i0, iv i1, jv i2, .second, jv i3, .second, jv i4, .second, jv i5, .second, iv (i0 &&& (255 : Int32)), iv (((i0.toUInt32 >>> ((8 : Int32) &&& 31).toUInt32).toInt32) &&& (255 : Int32)), iv d0, iv d1, rv b2, rv b9, jv s2, .second, .unset, .unset, .unset, .unset, .unset, .unset] [.int (i1 &&& (4 : Int32))])
      by_cases hc119 : (i1 &&& (4 : Int32)) = (0 : Int32)
      · skip
        refine gb (fun _ k => XS.ifYes X16.here hx rfl (pc0 := 119) (pc' := 127) rfl (hb hby at_119) rfl ((if0 _ _).trans (teq hc119).1) (by decide) (by decide) (XS.lload X16.here hx rfl (hb hby at_127) rfl k)) ?_
        show G T16 (mkF m 129 #[iv i0, iv i1, jv i2, .second, jv i3, .second, jv i4, .second, jv i5, .second, iv (i0 &&& (255 : Int32)), iv (((i0.toUInt32 >>> ((8 : Int32) &&& 31).toUInt32).toInt32) &&& (255 : Int32)), iv d0, iv d1, rv b2, rv b9, jv s2, .second, .unset, .unset, .unset, .unset, .unset, .unset] [.long i5])
        exact J17 _ _ X16 N e16  (i5) 
      · skip
        refine gb (fun _ k => XS.ifNo X16.here hx rfl (hb hby at_119) rfl ((if0 _ _).trans (feq hc119).1) (XS.lload X16.here hx rfl (hb hby at_122) rfl (XS.goto X16.here hx rfl (pc0 := 124) (pc' := 129) rfl (hb hby at_124) (by decide) (by decide) k))) ?_
        show G T16 (mkF m 129 #[iv i0, iv i1, jv i2, .second, jv i3, .second, jv i4, .second, jv i5, .second, iv (i0 &&& (255 : Int32)), iv (((i0.toUInt32 >>> ((8 : Int32) &&& 31).toUInt32).toInt32) &&& (255 : Int32)), iv d0, iv d1, rv b2, rv b9, jv s2, .second, .unset, .unset, .unset, .unset, .unset, .unset] [.long i4])
        exact J17 _ _ X16 N e16  (i4) 
    refine gb (fun _ k => XS.iloadN X15.here hx rfl (hb hby at_102) rfl (XS.iconst X15.here hx rfl (hb hby at_103) (XS.iand X15.here hx rfl (hb hby at_104) rfl k))) ?_
    show G T15 (mkF m 105 #[iv i0, iv i1, jv i2, .second, jv i3, .second, jv i4, .second, jv i5, .second, iv (i0 &&& (255 : Int32)), iv (((i0.toUInt32 >>> ((8 : Int32) &&& 31).toUInt32).toInt32) &&& (255 : Int32)), iv d0, iv d1, rv b2, rv b9, .unset, .unset, .unset, .unset, .unset, .unset, .unset, .unset] [.int (i1 &&& (2 : Int32))])
    by_cases hc105 : (i1 &&& (2 : Int32)) = (0 : Int32)
    · skip
      refine gb (fun _ k => XS.ifYes X15.here hx rfl (pc0 := 105) (pc' := 112) rfl (hb hby at_105) rfl ((if0 _ _).trans (teq hc105).1) (by decide) (by decide) (XS.lload X15.here hx rfl (hb hby at_112) rfl k)) ?_
      show G T15 (mkF m 114 #[iv i0, iv i1, jv i2, .second, jv i3, .second, jv i4, .second, jv i5, .second, iv (i0 &&& (255 : Int32)), iv (((i0.toUInt32 >>> ((8 : Int32) &&& 31).toUInt32).toInt32) &&& (255 : Int32)), iv d0, iv d1, rv b2, rv b9, .unset, .unset, .unset, .unset, .unset, .unset, .unset, .unset] [.long i3])
      exact J16 _ _ X15 N e15  (i3) 
    · skip
      refine gb (fun _ k => XS.ifNo X15.here hx rfl (hb hby at_105) rfl ((if0 _ _).trans (feq hc105).1) (XS.lloadN X15.here hx rfl (hb hby at_108) rfl (XS.goto X15.here hx rfl (pc0 := 109) (pc' := 114) rfl (hb hby at_109) (by decide) (by decide) k))) ?_
      show G T15 (mkF m 114 #[iv i0, iv i1, jv i2, .second, jv i3, .second, jv i4, .second, jv i5, .second, iv (i0 &&& (255 : Int32)), iv (((i0.toUInt32 >>> ((8 : Int32) &&& 31).toUInt32).toInt32) &&& (255 : Int32)), iv d0, iv d1, rv b2, rv b9, .unset, .unset, .unset, .unset, .unset, .unset, .unset, .unset] [.long i2])
      exact J16 _ _ X15 N e15  (i2) 
  refine gb (fun _ k => XS.iloadN X0.here hx rfl (hb hby at_19) rfl (XS.iconst X0.here hx rfl (hb hby at_20) (XS.iand X0.here hx rfl (hb hby at_21) rfl k))) ?_
  show G s₁ (mkF m 22 #[iv i0, iv i1, jv i2, .second, jv i3, .second, jv i4, .second, jv i5, .second, iv (i0 &&& (255 : Int32)), iv (((i0.toUInt32 >>> ((8 : Int32) &&& 31).toUInt32).toInt32) &&& (255 : Int32)), .unset, .unset, .unset, .unset, .unset, .unset, .unset, .unset, .unset, .unset, .unset, .unset] [.int (i1 &&& (1 : Int32))])
  by_cases hc22 : (i1 &&& (1 : Int32)) = (0 : Int32)
  · skip
    refine gb (fun _ k => XS.ifYes X0.here hx rfl (pc0 := 22) (pc' := 36) rfl (hb hby at_22) rfl ((if0 _ _).trans (teq hc22).1) (by decide) (by decide) (XS.iloadN X0.here hx rfl (hb hby at_36) rfl (XS.bipush X0.here hx rfl (hb hby at_37) (XS.iushr X0.here hx rfl (hb hby at_39) rfl (XS.sipush X0.here hx rfl (hb hby at_40) (XS.iand X0.here hx rfl (hb hby at_43) rfl k)))))) ?_
    show G s₁ (mkF m 44 #[iv i0, iv i1, jv i2, .second, jv i3, .second, jv i4, .second, jv i5, .second, iv (i0 &&& (255 : Int32)), iv (((i0.toUInt32 >>> ((8 : Int32) &&& 31).toUInt32).toInt32) &&& (255 : Int32)), .unset, .unset, .unset, .unset, .unset, .unset, .unset, .unset, .unset, .unset, .unset, .unset] [.int (((i1.toUInt32 >>> ((8 : Int32) &&& 31).toUInt32).toInt32) &&& (255 : Int32))])
    refine gb (fun _ k => XS.i2c X0.here hx rfl (hb hby at_44) rfl k) ?_
    show G s₁ (mkF m 45 #[iv i0, iv i1, jv i2, .second, jv i3, .second, jv i4, .second, jv i5, .second, iv (i0 &&& (255 : Int32)), iv (((i0.toUInt32 >>> ((8 : Int32) &&& 31).toUInt32).toInt32) &&& (255 : Int32)), .unset, .unset, .unset, .unset, .unset, .unset, .unset, .unset, .unset, .unset, .unset, .unset] [.int ((((i1.toUInt32 >>> ((8 : Int32) &&& 31).toUInt32).toInt32) &&& (255 : Int32)).toUInt32.toUInt16.toUInt32.toInt32)])
    rw [own_c8]
    show G s₁ (mkF m 45 #[iv i0, iv i1, jv i2, .second, jv i3, .second, jv i4, .second, jv i5, .second, iv (i0 &&& (255 : Int32)), iv (((i0.toUInt32 >>> ((8 : Int32) &&& 31).toUInt32).toInt32) &&& (255 : Int32)), .unset, .unset, .unset, .unset, .unset, .unset, .unset, .unset, .unset, .unset, .unset, .unset] [.int (((i1.toUInt32 >>> ((8 : Int32) &&& 31).toUInt32).toInt32) &&& (255 : Int32))])
    refine gb (fun _ k => XS.istore X0.here hx rfl (hb hby at_45) rfl (l' := #[iv i0, iv i1, jv i2, .second, jv i3, .second, jv i4, .second, jv i5, .second, iv (i0 &&& (255 : Int32)), iv (((i0.toUInt32 >>> ((8 : Int32) &&& 31).toUInt32).toInt32) &&& (255 : Int32)), iv (((i1.toUInt32 >>> ((8 : Int32) &&& 31).toUInt32).toInt32) &&& (255 : Int32)), .unset, .unset, .unset, .unset, .unset, .unset, .unset, .unset, .unset, .unset, .unset]) rfl (XS.iloadN X0.here hx rfl (hb hby at_47) rfl (XS.bipush X0.here hx rfl (hb hby at_48) (XS.iushr X0.here hx rfl (hb hby at_50) rfl (XS.sipush X0.here hx rfl (hb hby at_51) (XS.iand X0.here hx rfl (hb hby at_54) rfl k)))))) ?_
    show G s₁ (mkF m 55 #[iv i0, iv i1, jv i2, .second, jv i3, .second, jv i4, .second, jv i5, .second, iv (i0 &&& (255 : Int32)), iv (((i0.toUInt32 >>> ((8 : Int32) &&& 31).toUInt32).toInt32) &&& (255 : Int32)), iv (((i1.toUInt32 >>> ((8 : Int32) &&& 31).toUInt32).toInt32) &&& (255 : Int32)), .unset, .unset, .unset, .unset, .unset, .unset, .unset, .unset, .unset, .unset, .unset] [.int (((i1.toUInt32 >>> ((16 : Int32) &&& 31).toUInt32).toInt32) &&& (255 : Int32))])
    refine gb (fun _ k => XS.i2c X0.here hx rfl (hb hby at_55) rfl k) ?_
    show G s₁ (mkF m 56 #[iv i0, iv i1, jv i2, .second, jv i3, .second, jv i4, .second, jv i5, .second, iv (i0 &&& (255 : Int32)), iv (((i0.toUInt32 >>> ((8 : Int32) &&& 31).toUInt32).toInt32) &&& (255 : Int32)), iv (((i1.toUInt32 >>> ((8 : Int32) &&& 31).toUInt32).toInt32) &&& (255 : Int32)), .unset, .unset, .unset, .unset, .unset, .unset, .unset, .unset, .unset, .unset, .unset] [.int ((((i1.toUInt32 >>> ((16 : Int32) &&& 31).toUInt32).toInt32) &&& (255 : Int32)).toUInt32.toUInt16.toUInt32.toInt32)])
    rw [own_c8]
    show G s₁ (mkF m 56 #[iv i0, iv i1, jv i2, .second, jv i3, .second, jv i4, .second, jv i5, .second, iv (i0 &&& (255 : Int32)), iv (((i0.toUInt32 >>> ((8 : Int32) &&& 31).toUInt32).toInt32) &&& (255 : Int32)), iv (((i1.toUInt32 >>> ((8 : Int32) &&& 31).toUInt32).toInt32) &&& (255 : Int32)), .unset, .unset, .unset, .unset, .unset, .unset, .unset, .unset, .unset, .unset, .unset] [.int (((i1.toUInt32 >>> ((16 : Int32) &&& 31).toUInt32).toInt32) &&& (255 : Int32))])
    refine gb (fun _ k => XS.istore X0.here hx rfl (hb hby at_56) rfl (l' := #[iv i0, iv i1, jv i2, .second, jv i3, .second, jv i4, .second, jv i5, .second, iv (i0 &&& (255 : Int32)), iv (((i0.toUInt32 >>> ((8 : Int32) &&& 31).toUInt32).toInt32) &&& (255 : Int32)), iv (((i1.toUInt32 >>> ((8 : Int32) &&& 31).toUInt32).toInt32) &&& (255 : Int32)), iv (((i1.toUInt32 >>> ((16 : Int32) &&& 31).toUInt32).toInt32) &&& (255 : Int32)), .unset, .unset, .unset, .unset, .unset, .unset, .unset, .unset, .unset, .unset]) rfl k) ?_
    show G s₁ (mkF m 58 #[iv i0, iv i1, jv i2, .second, jv i3, .second, jv i4, .second, jv i5, .second, iv (i0 &&& (255 : Int32)), iv (((i0.toUInt32 >>> ((8 : Int32) &&& 31).toUInt32).toInt32) &&& (255 : Int32)), iv (((i1.toUInt32 >>> ((8 : Int32) &&& 31).toUInt32).toInt32) &&& (255 : Int32)), iv (((i1.toUInt32 >>> ((16 : Int32) &&& 31).toUInt32).toInt32) &&& (255 : Int32)), .unset, .unset, .unset, .unset, .unset, .unset, .unset, .unset, .unset, .unset] [])
    exact J1 _ _ X0 N e0  ((((i1.toUInt32 >>> ((8 : Int32) &&& 31).toUInt32).toInt32) &&& (255 : Int32))) ((((i1.toUInt32 >>> ((16 : Int32) &&& 31).toUInt32).toInt32) &&& (255 : Int32))) (own_le255 _) (own_le255 _) (own_ge0 _) (own_ge0 _)
  · skip
    refine gb (fun _ k => XS.ifNo X0.here hx rfl (hb hby at_22) rfl ((if0 _ _).trans (feq hc22).1) (XS.iload X0.here hx rfl (hb hby at_25) rfl (XS.istore X0.here hx rfl (hb hby at_27) rfl (l' := #[iv i0, iv i1, jv i2, .second, jv i3, .second, jv i4, .second, jv i5, .second, iv (i0 &&& (255 : Int32)), iv (((i0.toUInt32 >>> ((8 : Int32) &&& 31).toUInt32).toInt32) &&& (255 : Int32)), iv (i0 &&& (255 : Int32)), .unset, .unset, .unset, .unset, .unset, .unset, .unset, .unset, .unset, .unset, .unset]) rfl (XS.iload X0.here hx rfl (hb hby at_29) rfl (XS.istore X0.here hx rfl (hb hby at_31) rfl (l' := #[iv i0, iv i1, jv i2, .second, jv i3, .second, jv i4, .second, jv i5, .second, iv (i0 &&& (255 : Int32)), iv (((i0.toUInt32 >>> ((8 : Int32) &&& 31).toUInt32).toInt32) &&& (255 : Int32)), iv (i0 &&& (255 : Int32)), iv (((i0.toUInt32 >>> ((8 : Int32) &&& 31).toUInt32).toInt32) &&& (255 : Int32)), .unset, .unset, .unset, .unset, .unset, .unset, .unset, .unset, .unset, .unset]) rfl (XS.goto X0.here hx rfl (pc0 := 33) (pc' := 58) rfl (hb hby at_33) (by decide) (by decide) k)))))) ?_
    show G s₁ (mkF m 58 #[iv i0, iv i1, jv i2, .second, jv i3, .second, jv i4, .second, jv i5, .second, iv (i0 &&& (255 : Int32)), iv (((i0.toUInt32 >>> ((8 : Int32) &&& 31).toUInt32).toInt32) &&& (255 : Int32)), iv (i0 &&& (255 : Int32)), iv (((i0.toUInt32 >>> ((8 : Int32) &&& 31).toUInt32).toInt32) &&& (255 : Int32)), .unset, .unset, .unset, .unset, .unset, .unset, .unset, .unset, .unset, .unset] [])
    exact J1 _ _ X0 N e0  ((i0 &&& (255 : Int32))) ((((i0.toUInt32 >>> ((8 : Int32) &&& 31).toUInt32).toInt32) &&& (255 : Int32))) (own_le255 _) (own_le255 _) (own_ge0 _) (own_ge0 _)
set_option maxRecDepth 65536 in
set_option maxHeartbeats 40000000 in
theorem comes_1 {Post : Tables → Env → Array Value → State → Outcome → State → Prop} (hpost : ∀ tb e args s v u, (limb_1_1.after args s (.returned v) u = true ∧ limb_1_2.after args s (.returned v) u = true ∧ True) → FrameEnd s (.returned v) u (Jvm.fieldLocs frame_1_writes args s ++ Jvm.arrayLocs frame_1_arrays args s ++ Jvm.staticLocs frame_1_statics s) 24 128 → Post tb e args s (.returned v) u) :
    ArmFor flags0 classFile x code maxLocals ret World_1 tables_1 room_1 Calls_1 rest_1 Pre_1 Post := by
  intro l hfl _ _ p e ha hc hk s m args below hf hA hF happ hP
  obtain ⟨hcalls, hrest, hpre⟩ := hP
  obtain ⟨-, -, -, hnamed, -, -, -, hat⟩ := (Spec.applies_iff hf).mp happ
  obtain ⟨hg, hn⟩ := and_e (Cond.before_iff.mp (show (Jvm.Cond.and given_1 narrow_1).before args s = true from hpre))
  obtain ⟨g1, g2⟩ := and_e hg
  obtain ⟨g3, g4⟩ := and_e g2
  obtain ⟨g5, g6⟩ := and_e g4
  obtain ⟨g7, g8⟩ := and_e g6
  obtain ⟨g9, g10⟩ := and_e g8
  obtain ⟨g11, g12⟩ := and_e g10
  obtain ⟨w0, w1, w2, w3, w4, w5, rfl⟩ : ∃ w0 w1 w2 w3 w4 w5 : Value, args = #[w0, w1, w2, w3, w4, w5] := by
    have hs : args.size = 6 := by simpa [Cond.value, given_1] using g1
    obtain ⟨L⟩ := args
    match L, hs with
    | [w0, w1, w2, w3, w4, w5], _ => exact ⟨w0, w1, w2, w3, w4, w5, rfl⟩
  have hw := fun d (hd : d ∈ tables_1) => atoms_spec (ws := Jvm.Cond.code x code maxLocals ret :: tables_1) hat d (List.mem_cons_of_mem _ hd)
  have hfit : Fit s := fun {y c} hc i hi => by
    obtain ⟨ha, rfl⟩ := Array.getElem?_eq_some_iff.mp hc
    have q := List.all_eq_true.mp ((Array.all_eq_true_iff_forall_mem.mp hF) _ (Array.getElem_mem ha)) i (List.mem_range.mpr hi)
    simpa [Array.getElem?_eq_getElem hi] using q
  obtain ⟨hsets, hown0⟩ := atoms_of _ (rest_1_c_eq ▸ (show rest_1_c.before _ s = true from hrest))
  have hr0 := Cond.before_iff.mp hown0
  obtain ⟨i0, ei0⟩ := is_v g3
  obtain rfl : w0 = (.int i0) := Option.some.inj ei0
  obtain ⟨i1, ei1⟩ := is_v g5
  obtain rfl : w1 = (.int i1) := Option.some.inj ei1
  obtain ⟨i2, ei2⟩ := isL_v g7
  obtain rfl : w2 = (.long i2) := Option.some.inj ei2
  obtain ⟨i3, ei3⟩ := isL_v g9
  obtain rfl : w3 = (.long i3) := Option.some.inj ei3
  obtain ⟨i4, ei4⟩ := isL_v g11
  obtain rfl : w4 = (.long i4) := Option.some.inj ei4
  obtain ⟨i5, ei5⟩ := isL_v g12
  obtain rfl : w5 = (.long i5) := Option.some.inj ei5
  obtain ⟨zc, ezc⟩ := is_v (Cond.before_iff.mp (hsets _ (List.mem_of_getElem? (i := 1) rfl)))
  have S_cs : Sta s s.heap "java/lang/String" "COMPACT_STRINGS" "Z" (.int zc) := Sta.start ezc (Or.inl (hsets _ (List.mem_of_getElem? (i := 0) rfl)))
  have hzc : ¬ zc = (0 : Int32) := gotF (Cond.eq_ints ezc (Term.int_eval 0)) (not_v (Cond.before_iff.mp (hsets _ (List.mem_of_getElem? (i := 2) rfl))))
  obtain ⟨n, o, h1, h2, h3, _, L, rfl, ⟨rfl, N⟩, hq⟩ := rm0 l s _ hw tables_1 i0 i1 i2 i3 i4 i5 s.heap s.heap.size (Old.start s) zc S_cs hzc p e ha hc hk s m _ below hf ((Spec.applies_iff_loose hf).mp happ).1 ⟨rfl, State.Warmed39.refl s, rfl, rfl⟩ trivial
  refine ⟨n, _, h1, h2, h3, hpost _ _ _ _ _ _ ⟨Cond.after_iff.mpr rfl, Cond.after_iff.mpr (eq_i res_at (Term.int_eval (1)) rfl), trivial⟩ ⟨hq.1, hq.2.1, (hq.2.2.sift fun y hy => Or.inr (N y hy)).mono (by decide) (by decide)⟩⟩
theorem main_1_1 : Claimed_1_1 := comes_1 fun _ _ _ _ _ _ h hF => ⟨h.1, hF⟩
theorem main_1_2 : Claimed_1_2 := comes_1 fun _ _ _ _ _ _ h hF => ⟨h.2.1, hF⟩
end Jvm.Pilot.@@N@@
namespace Jvm.Pilot.@@N@@
open Jvm Jvm.ClassFile Sem Op Lib Jvm.Free Jvm.Stand Jvm.Pilot.@@N@@.Jvm.D
/-! MADE BY PROGRAM (witnessworld.py) out of the Statement's table words and the real class files: 20 classes; the members and pool entries that the words name. The judged class is class 1, her method 1. -/
namespace start1
open Jvm.ClassFile
def u (s : String) : CpInfo := .utf8 (stringToUtf16 s)
/-- a pool by its gaps: so many unusable entries, then the entry; so many at the end -/
def gap : Nat → List CpInfo → List CpInfo
  | 0, r => r
  | n + 1, r => .unusable :: gap n r
def poolList (es : List (Nat × CpInfo)) (last : Nat) : List CpInfo := es.foldr (fun e r => gap e.1 (e.2 :: r)) (gap last [])
def pool (es : List (Nat × CpInfo)) (last : Nat) : Array CpInfo := ⟨poolList es last⟩
def fileOf (pool : Array CpInfo) (this : Nat) (attrs : Array Attribute := #[]) (ms : Array MethodInfo := #[]) (fl : Nat := 33) (sup : Nat := 0) (ifs : Array Nat := #[]) (fds : Array FieldInfo := #[]) : ClassFile where
  minorVersion := 0
  majorVersion := 65
  constantPool := pool
  accessFlags := fl
  thisClass := this
  superClass := sup
  interfaces := ifs
  fields := fds
  methods := ms
  attributes := attrs
def plain (name : String) (sup : Option ClassId) : Class where
  name := name
  kind := .ordinary
  loader := none
  accessFlags := 33
  super := sup
  interfaces := #[]
  cf := none
  fields := #[]
  methods := #[]
  instanceTypes := #[]
  staticTypes := #[]
  resolved := #[]
  callSites := []
  init := .initialized
  statics := none
  mirror := none

def pool0 : Array CpInfo := pool [(5, u "<init>"), (0, u "()V"), (1, .class_ 10), (1, u "java/lang/Object")] 113

def k0c0 : Code := { maxStack := 0, maxLocals := 1, code := object_method_1_code, exceptionTable := #[], attributes := #[] }
def k0m0 : Method := { name := "<init>", desc := "()V", sig := { parameters := [], returnType := none }, accessFlags := 1, code := some k0c0 }
/-- java/lang/Object -/
def k0 : Class := { plain "java/lang/Object" none with
  accessFlags := 33
  interfaces := #[]
  cf := some (fileOf pool0 8 #[] #[{ accessFlags := 1, nameIndex := 5, descriptorIndex := 6, attributes := #[] }] 33 0 #[] #[])
  fields := #[]
  methods := #[k0m0]
  instanceTypes := #[]
  staticTypes := #[]
  resolved := Array.replicate 124 none
  statics := none }

def pool1 : Array CpInfo := pool [(2, .class_ 4), (1, u "java/lang/Object"), (0, u "<init>"), (0, u "()V"), (0, .class_ 8), (0, u "java/lang/String"), (0, .methodref 7 10), (0, .nameAndType 5 11), (0, u "([C)V"), (0, .class_ 13), (0, u "com/example/rankle/rankle/Standing"), (0, .methodref 12 15), (0, .nameAndType 5 16), (0, u "(Ljava/lang/String;JJ)V"), (0, .methodref 12 18), (0, .nameAndType 19 20), (0, u "equals"), (0, u "(Ljava/lang/Object;)Z"), (0, .class_ 22), (0, u "com/example/rankle/rankle/StandingEqualsPinLaw"), (2, u "law"), (0, u "(IIJJJJ)Z")] 3

def k1m0 : Method := { name := "<init>", desc := "()V", sig := { parameters := [], returnType := none }, accessFlags := 1, code := none }
def k1c1 : Code := { maxStack := 7, maxLocals := 24, code := code, exceptionTable := #[], attributes := #[] }
def k1m1 : Method := { name := "law", desc := "(IIJJJJ)Z", sig := { parameters := [.int, .int, .long, .long, .long, .long], returnType := some .boolean }, accessFlags := 9, code := some k1c1 }
/-- com/example/rankle/rankle/StandingEqualsPinLaw -/
def k1 : Class := { plain "com/example/rankle/rankle/StandingEqualsPinLaw" (some 0) with
  accessFlags := 49
  interfaces := #[]
  cf := some (fileOf pool1 21 #[] #[{ accessFlags := 1, nameIndex := 5, descriptorIndex := 6, attributes := #[] }, { accessFlags := 9, nameIndex := 25, descriptorIndex := 26, attributes := #[] }] 49 2 #[] #[])
  fields := #[]
  methods := #[k1m0, k1m1]
  instanceTypes := #[]
  staticTypes := #[]
  resolved := Array.replicate 30 none
  statics := none }

def pool2 : Array CpInfo := pool [(1, .class_ 2), (0, u "java/io/Serializable"), (0, .class_ 4), (0, u "java/lang/Object")] 2

/-- java/io/Serializable -/
def k2 : Class := { plain "java/io/Serializable" (some 0) with
  accessFlags := 1537
  interfaces := #[]
  cf := some (fileOf pool2 1 #[] #[] 1537 3 #[] #[])
  fields := #[]
  methods := #[]
  instanceTypes := #[]
  staticTypes := #[]
  resolved := Array.replicate 7 none
  statics := none }

def pool3 : Array CpInfo := pool [(1, .class_ 2), (0, u "java/lang/Comparable"), (0, .class_ 4), (0, u "java/lang/Object")] 7

/-- java/lang/Comparable -/
def k3 : Class := { plain "java/lang/Comparable" (some 0) with
  accessFlags := 1537
  interfaces := #[]
  cf := some (fileOf pool3 1 #[] #[] 1537 3 #[] #[])
  fields := #[]
  methods := #[]
  instanceTypes := #[]
  staticTypes := #[]
  resolved := Array.replicate 12 none
  statics := none }

def pool4 : Array CpInfo := pool [(2, .class_ 4), (1, u "java/lang/CharSequence"), (42, .class_ 48), (0, u "java/lang/CharSequence$1CodePointIterator"), (10, .class_ 60), (0, u "java/lang/CharSequence$1CharIterator"), (5, .class_ 67), (0, u "java/lang/Object")] 63

/-- java/lang/CharSequence -/
def k4 : Class := { plain "java/lang/CharSequence" (some 0) with
  accessFlags := 1537
  interfaces := #[]
  cf := some (fileOf pool4 2 #[.nestMembers #[47, 59]] #[] 1537 66 #[] #[])
  fields := #[]
  methods := #[]
  instanceTypes := #[]
  staticTypes := #[]
  resolved := Array.replicate 131 none
  statics := none }

def pool5 : Array CpInfo := pool [(1, .class_ 2), (0, u "java/lang/constant/Constable"), (0, .class_ 4), (0, u "java/lang/Object")] 6

/-- java/lang/constant/Constable -/
def k5 : Class := { plain "java/lang/constant/Constable" (some 0) with
  accessFlags := 1537
  interfaces := #[]
  cf := some (fileOf pool5 1 #[] #[] 1537 3 #[] #[])
  fields := #[]
  methods := #[]
  instanceTypes := #[]
  staticTypes := #[]
  resolved := Array.replicate 11 none
  statics := none }

def pool6 : Array CpInfo := pool [(1, .class_ 2), (0, u "java/lang/constant/ConstantDesc"), (0, .class_ 4), (0, u "java/lang/Object")] 32

/-- java/lang/constant/ConstantDesc -/
def k6 : Class := { plain "java/lang/constant/ConstantDesc" (some 0) with
  accessFlags := 1537
  interfaces := #[]
  cf := some (fileOf pool6 1 #[] #[] 1537 3 #[] #[])
  fields := #[]
  methods := #[]
  instanceTypes := #[]
  staticTypes := #[]
  resolved := Array.replicate 37 none
  statics := none }

def pool7 : Array CpInfo := pool [(1, .methodref 2 3), (0, .class_ 4), (0, .nameAndType 5 6), (0, u "java/lang/Object"), (0, u "<init>"), (0, u "()V"), (2, .fieldref 10 11), (0, .class_ 12), (0, .nameAndType 13 14), (0, u "java/lang/String"), (0, u "value"), (0, u "[B"), (0, .fieldref 10 16), (0, .nameAndType 17 18), (0, u "coder"), (0, u "B"), (2, u "hash"), (0, u "I"), (2, u "hashIsZero"), (0, u "Z"), (0, .methodref 10 28), (0, .nameAndType 5 29), (0, u "([CIILjava/lang/Void;)V"), (8, .fieldref 10 39), (0, .nameAndType 40 26), (0, u "COMPACT_STRINGS"), (1, .class_ 44), (1, u "java/lang/StringUTF16"), (0, u "compress"), (1, .methodref 42 48), (0, .nameAndType 49 50), (0, u "coderFromArrayLen"), (0, u "([BI)B"), (56, .class_ 109), (1, u "java/lang/StringLatin1"), (67, .methodref 42 178), (0, .nameAndType 45 179), (0, u "([CII)[B"), (361, .methodref 107 542), (0, .nameAndType 543 544), (0, u "equals"), (0, u "([B[B)Z"), (28, u "(Ljava/lang/Object;)Z"), (1, .class_ 576), (0, u "java/lang/CharSequence"), (22, u "CASE_INSENSITIVE_ORDER"), (0, u "Ljava/util/Comparator;"), (409, u "([C)V"), (90, u "serialPersistentFields"), (0, u "[Ljava/io/ObjectStreamField;"), (0, .class_ 1104), (0, u "java/lang/String$CaseInsensitiveComparator"), (1, .class_ 1107), (0, u "java/io/Serializable"), (0, .class_ 1109), (0, u "java/lang/Comparable"), (0, .class_ 1111), (0, u "java/lang/constant/Constable"), (0, .class_ 1113), (0, u "java/lang/constant/ConstantDesc"), (2, u "serialVersionUID"), (0, u "J"), (3, u "REPL"), (0, u "C"), (2, u "LATIN1"), (1, u "UTF16")] 323

def k7m0 : Method := { name := "<init>", desc := "()V", sig := { parameters := [], returnType := none }, accessFlags := 1, code := none }
def k7c1 : Code := { maxStack := 5, maxLocals := 2, code := jdk_42_method_3_code, exceptionTable := #[], attributes := #[] }
def k7m1 : Method := { name := "<init>", desc := "([C)V", sig := { parameters := [(.array .char)], returnType := none }, accessFlags := 1, code := some k7c1 }
def k7c2 : Code := { maxStack := 2, maxLocals := 3, code := jdk_42_method_66_code, exceptionTable := #[], attributes := #[] }
def k7m2 : Method := { name := "equals", desc := "(Ljava/lang/Object;)Z", sig := { parameters := [(.object "java/lang/Object")], returnType := some .boolean }, accessFlags := 1, code := some k7c2 }
def k7c3 : Code := { maxStack := 4, maxLocals := 6, code := jdk_42_method_149_code, exceptionTable := #[], attributes := #[] }
def k7m3 : Method := { name := "<init>", desc := "([CIILjava/lang/Void;)V", sig := { parameters := [(.array .char), .int, .int, (.object "java/lang/Void")], returnType := none }, accessFlags := 2, code := some k7c3 }
/-- java/lang/String -/
def k7 : Class := { plain "java/lang/String" (some 0) with
  accessFlags := 49
  interfaces := #[2, 3, 4, 5, 6]
  cf := some (fileOf pool7 10 #[.nestMembers #[1103]] #[{ accessFlags := 1, nameIndex := 5, descriptorIndex := 6, attributes := #[] }, { accessFlags := 1, nameIndex := 5, descriptorIndex := 1010, attributes := #[] }, { accessFlags := 1, nameIndex := 543, descriptorIndex := 573, attributes := #[] }, { accessFlags := 2, nameIndex := 5, descriptorIndex := 29, attributes := #[] }] 49 2 #[1106, 1108, 575, 1110, 1112] #[{ accessFlags := 18, nameIndex := 13, descriptorIndex := 14, attributes := #[] }, { accessFlags := 18, nameIndex := 17, descriptorIndex := 18, attributes := #[] }, { accessFlags := 2, nameIndex := 21, descriptorIndex := 22, attributes := #[] }, { accessFlags := 2, nameIndex := 25, descriptorIndex := 26, attributes := #[] }, { accessFlags := 26, nameIndex := 1116, descriptorIndex := 1117, attributes := #[] }, { accessFlags := 24, nameIndex := 40, descriptorIndex := 26, attributes := #[] }, { accessFlags := 26, nameIndex := 1101, descriptorIndex := 1102, attributes := #[] }, { accessFlags := 26, nameIndex := 1121, descriptorIndex := 1122, attributes := #[] }, { accessFlags := 25, nameIndex := 599, descriptorIndex := 600, attributes := #[] }, { accessFlags := 24, nameIndex := 1125, descriptorIndex := 18, attributes := #[] }, { accessFlags := 24, nameIndex := 1127, descriptorIndex := 18, attributes := #[] }])
  fields := #[{ name := "value", type := (.array .byte), accessFlags := 18, slot := 0, constantValue := 0 }, { name := "coder", type := .byte, accessFlags := 18, slot := 1, constantValue := 0 }, { name := "hash", type := .int, accessFlags := 2, slot := 2, constantValue := 0 }, { name := "hashIsZero", type := .boolean, accessFlags := 2, slot := 3, constantValue := 0 }, { name := "serialVersionUID", type := .long, accessFlags := 26, slot := 0, constantValue := 0 }, { name := "COMPACT_STRINGS", type := .boolean, accessFlags := 24, slot := 1, constantValue := 0 }, { name := "serialPersistentFields", type := (.array (.object "java/io/ObjectStreamField")), accessFlags := 26, slot := 2, constantValue := 0 }, { name := "REPL", type := .char, accessFlags := 26, slot := 3, constantValue := 0 }, { name := "CASE_INSENSITIVE_ORDER", type := (.object "java/util/Comparator"), accessFlags := 25, slot := 4, constantValue := 0 }, { name := "LATIN1", type := .byte, accessFlags := 24, slot := 5, constantValue := 0 }, { name := "UTF16", type := .byte, accessFlags := 24, slot := 6, constantValue := 0 }]
  methods := #[k7m0, k7m1, k7m2, k7m3]
  instanceTypes := #[(.array .byte), .byte, .int, .boolean]
  staticTypes := #[.long, .boolean, (.array (.object "java/io/ObjectStreamField")), .char, (.object "java/util/Comparator"), .byte, .byte]
  resolved := Array.replicate 1451 none
  statics := some 0 }

def pool8 : Array CpInfo := pool [(6, .class_ 8), (1, u "java/lang/Object"), (0, u "<init>"), (0, u "()V"), (1, .class_ 14), (1, u "java/lang/StringUTF16"), (31, u "$assertionsDisabled"), (0, u "Z"), (13, u "HI_BYTE_SHIFT"), (0, u "I"), (2, u "LO_BYTE_SHIFT"), (49, .methodref 12 116), (0, .nameAndType 117 118), (0, u "compress"), (0, u "([CI[BII)I"), (3, u "([CII)[B"), (138, u "coderFromArrayLen"), (0, u "([BI)B"), (106, .class_ 371), (1, u "java/lang/StringUTF16$LinesSpliterator"), (58, u "MAX_LENGTH"), (196, .class_ 628), (0, u "java/lang/StringUTF16$CodePointsSpliterator"), (0, .class_ 630), (0, u "java/lang/StringUTF16$CharsSpliterator")] 4

def k8m0 : Method := { name := "<init>", desc := "()V", sig := { parameters := [], returnType := none }, accessFlags := 0, code := none }
def k8c1 : Code := { maxStack := 2, maxLocals := 2, code := jdk_52_method_15_code, exceptionTable := #[], attributes := #[] }
def k8m1 : Method := { name := "coderFromArrayLen", desc := "([BI)B", sig := { parameters := [(.array .byte), .int], returnType := some .byte }, accessFlags := 8, code := some k8c1 }
def k8c2 : Code := { maxStack := 5, maxLocals := 6, code := jdk_52_method_16_code, exceptionTable := #[], attributes := #[] }
def k8m2 : Method := { name := "compress", desc := "([CII)[B", sig := { parameters := [(.array .char), .int, .int], returnType := some (.array .byte) }, accessFlags := 9, code := some k8c2 }
def k8c3 : Code := { maxStack := 3, maxLocals := 7, code := jdk_52_method_21_code, exceptionTable := #[], attributes := #[] }
def k8m3 : Method := { name := "compress", desc := "([CI[BII)I", sig := { parameters := [(.array .char), .int, (.array .byte), .int, .int], returnType := some .int }, accessFlags := 9, code := some k8c3 }
/-- java/lang/StringUTF16 -/
def k8 : Class := { plain "java/lang/StringUTF16" (some 0) with
  accessFlags := 48
  interfaces := #[]
  cf := some (fileOf pool8 12 #[.nestMembers #[627, 629, 369]] #[{ accessFlags := 0, nameIndex := 9, descriptorIndex := 10, attributes := #[] }, { accessFlags := 8, nameIndex := 261, descriptorIndex := 262, attributes := #[] }, { accessFlags := 9, nameIndex := 117, descriptorIndex := 122, attributes := #[] }, { accessFlags := 9, nameIndex := 117, descriptorIndex := 118, attributes := #[] }] 48 6 #[] #[{ accessFlags := 26, nameIndex := 61, descriptorIndex := 62, attributes := #[] }, { accessFlags := 26, nameIndex := 65, descriptorIndex := 62, attributes := #[] }, { accessFlags := 24, nameIndex := 430, descriptorIndex := 62, attributes := #[] }, { accessFlags := 4120, nameIndex := 46, descriptorIndex := 47, attributes := #[] }])
  fields := #[{ name := "HI_BYTE_SHIFT", type := .int, accessFlags := 26, slot := 0, constantValue := 0 }, { name := "LO_BYTE_SHIFT", type := .int, accessFlags := 26, slot := 1, constantValue := 0 }, { name := "MAX_LENGTH", type := .int, accessFlags := 24, slot := 2, constantValue := 0 }, { name := "$assertionsDisabled", type := .boolean, accessFlags := 4120, slot := 3, constantValue := 0 }]
  methods := #[k8m0, k8m1, k8m2, k8m3]
  instanceTypes := #[]
  staticTypes := #[.int, .int, .int, .boolean]
  resolved := Array.replicate 635 none
  statics := none }

def pool9 : Array CpInfo := pool [(1, .methodref 2 3), (0, .class_ 4), (0, .nameAndType 5 6), (0, u "java/lang/Object"), (0, u "<init>"), (0, u "()V"), (0, .fieldref 8 9), (0, .class_ 10), (0, .nameAndType 11 12), (0, u "com/example/rankle/rankle/Standing"), (0, u "player"), (0, u "Ljava/lang/String;"), (0, .fieldref 8 14), (0, .nameAndType 15 16), (0, u "score"), (0, u "J"), (0, .fieldref 8 18), (0, .nameAndType 19 16), (0, u "rank"), (0, .methodref 21 22), (0, .class_ 23), (0, .nameAndType 24 25), (0, u "java/lang/String"), (0, u "equals"), (0, u "(Ljava/lang/Object;)Z"), (16, u "(Ljava/lang/String;JJ)V")] 25

def k9c0 : Code := { maxStack := 3, maxLocals := 6, code := prog_16_method_1_code, exceptionTable := #[], attributes := #[] }
def k9m0 : Method := { name := "<init>", desc := "(Ljava/lang/String;JJ)V", sig := { parameters := [(.object "java/lang/String"), .long, .long], returnType := none }, accessFlags := 0, code := some k9c0 }
def k9c1 : Code := { maxStack := 4, maxLocals := 3, code := prog_16_method_5_code, exceptionTable := #[], attributes := #[] }
def k9m1 : Method := { name := "equals", desc := "(Ljava/lang/Object;)Z", sig := { parameters := [(.object "java/lang/Object")], returnType := some .boolean }, accessFlags := 1, code := some k9c1 }
/-- com/example/rankle/rankle/Standing -/
def k9 : Class := { plain "com/example/rankle/rankle/Standing" (some 0) with
  accessFlags := 33
  interfaces := #[]
  cf := some (fileOf pool9 8 #[] #[{ accessFlags := 0, nameIndex := 5, descriptorIndex := 42, attributes := #[] }, { accessFlags := 1, nameIndex := 24, descriptorIndex := 25, attributes := #[] }] 33 2 #[] #[{ accessFlags := 18, nameIndex := 11, descriptorIndex := 12, attributes := #[] }, { accessFlags := 18, nameIndex := 15, descriptorIndex := 16, attributes := #[] }, { accessFlags := 18, nameIndex := 19, descriptorIndex := 16, attributes := #[] }])
  fields := #[{ name := "player", type := (.object "java/lang/String"), accessFlags := 18, slot := 0, constantValue := 0 }, { name := "score", type := .long, accessFlags := 18, slot := 1, constantValue := 0 }, { name := "rank", type := .long, accessFlags := 18, slot := 2, constantValue := 0 }]
  methods := #[k9m0, k9m1]
  instanceTypes := #[(.object "java/lang/String"), .long, .long]
  staticTypes := #[]
  resolved := Array.replicate 68 none
  statics := none }

def pool10 : Array CpInfo := pool [(4, .class_ 6), (1, u "java/lang/Object"), (0, u "<init>"), (0, u "()V"), (5, .class_ 16), (1, u "java/lang/StringLatin1"), (104, u "$assertionsDisabled"), (0, u "Z"), (98, .class_ 223), (1, u "java/lang/StringLatin1$LinesSpliterator"), (57, u "equals"), (0, u "([B[B)Z"), (107, .class_ 391), (0, u "java/lang/StringLatin1$CharsSpliterator")] 3

def k10m0 : Method := { name := "<init>", desc := "()V", sig := { parameters := [], returnType := none }, accessFlags := 0, code := none }
def k10c1 : Code := { maxStack := 3, maxLocals := 3, code := jdk_43_method_13_code, exceptionTable := #[], attributes := #[] }
def k10m1 : Method := { name := "equals", desc := "([B[B)Z", sig := { parameters := [(.array .byte), (.array .byte)], returnType := some .boolean }, accessFlags := 9, code := some k10c1 }
/-- java/lang/StringLatin1 -/
def k10 : Class := { plain "java/lang/StringLatin1" (some 0) with
  accessFlags := 48
  interfaces := #[]
  cf := some (fileOf pool10 14 #[.nestMembers #[390, 221]] #[{ accessFlags := 0, nameIndex := 7, descriptorIndex := 8, attributes := #[] }, { accessFlags := 9, nameIndex := 281, descriptorIndex := 282, attributes := #[] }] 48 4 #[] #[{ accessFlags := 4120, nameIndex := 121, descriptorIndex := 122, attributes := #[] }])
  fields := #[{ name := "$assertionsDisabled", type := .boolean, accessFlags := 4120, slot := 0, constantValue := 0 }]
  methods := #[k10m0, k10m1]
  instanceTypes := #[]
  staticTypes := #[.boolean]
  resolved := Array.replicate 395 none
  statics := none }

def pool11 : Array CpInfo := pool [(2, .class_ 4), (1, u "java/lang/Object"), (0, u "<init>"), (0, u "()V"), (17, .class_ 26), (1, u "jdk/internal/util/Preconditions"), (28, .class_ 56), (0, u "jdk/internal/util/Preconditions$4"), (57, .class_ 115), (0, u "jdk/internal/util/Preconditions$1"), (7, u "SIOOBE_FORMATTER"), (0, u "Ljava/util/function/BiFunction;"), (0, .class_ 126), (0, u "jdk/internal/util/Preconditions$2"), (3, u "AIOOBE_FORMATTER"), (0, .class_ 132), (0, u "jdk/internal/util/Preconditions$3"), (3, u "IOOBE_FORMATTER")] 57

def k11m0 : Method := { name := "<init>", desc := "()V", sig := { parameters := [], returnType := none }, accessFlags := 1, code := none }
/-- jdk/internal/util/Preconditions -/
def k11 : Class := { plain "jdk/internal/util/Preconditions" (some 0) with
  accessFlags := 33
  interfaces := #[]
  cf := some (fileOf pool11 24 #[.nestMembers #[55, 131, 125, 114]] #[{ accessFlags := 1, nameIndex := 5, descriptorIndex := 6, attributes := #[] }] 33 2 #[] #[{ accessFlags := 25, nameIndex := 123, descriptorIndex := 124, attributes := #[] }, { accessFlags := 25, nameIndex := 130, descriptorIndex := 124, attributes := #[] }, { accessFlags := 25, nameIndex := 136, descriptorIndex := 124, attributes := #[] }])
  fields := #[{ name := "SIOOBE_FORMATTER", type := (.object "java/util/function/BiFunction"), accessFlags := 25, slot := 0, constantValue := 0 }, { name := "AIOOBE_FORMATTER", type := (.object "java/util/function/BiFunction"), accessFlags := 25, slot := 1, constantValue := 0 }, { name := "IOOBE_FORMATTER", type := (.object "java/util/function/BiFunction"), accessFlags := 25, slot := 2, constantValue := 0 }]
  methods := #[k11m0]
  instanceTypes := #[]
  staticTypes := #[(.object "java/util/function/BiFunction"), (.object "java/util/function/BiFunction"), (.object "java/util/function/BiFunction")]
  resolved := Array.replicate 194 none
  statics := some 1 }

def pool12 : Array CpInfo := pool [(9, u "<init>"), (6, .class_ 18), (1, u "java/lang/Object"), (0, u "()V"), (1, .class_ 23), (1, u "jdk/internal/util/ArraysSupport"), (0, u "LOG2_ARRAY_LONG_INDEX_SCALE"), (0, u "I"), (2, u "U"), (0, u "Ljdk/internal/misc/Unsafe;"), (8, u "BIG_ENDIAN"), (0, u "Z"), (8, u "LOG2_BYTE_BIT_SIZE"), (4, u "LOG2_ARRAY_INT_INDEX_SCALE"), (54, u "JLA"), (0, u "Ljdk/internal/access/JavaLangAccess;"), (11, u "LOG2_ARRAY_BOOLEAN_INDEX_SCALE"), (9, u "LOG2_ARRAY_BYTE_INDEX_SCALE"), (5, u "LOG2_ARRAY_CHAR_INDEX_SCALE"), (5, u "LOG2_ARRAY_SHORT_INDEX_SCALE"), (18, u "LOG2_ARRAY_FLOAT_INDEX_SCALE"), (24, u "LOG2_ARRAY_DOUBLE_INDEX_SCALE"), (89, u "T_BOOLEAN"), (2, u "T_CHAR"), (1, u "T_FLOAT"), (1, u "T_DOUBLE"), (1, u "T_BYTE"), (1, u "T_SHORT"), (1, u "T_INT"), (1, u "T_LONG"), (1, u "SOFT_MAX_ARRAY_LENGTH")] 83

def k12m0 : Method := { name := "<init>", desc := "()V", sig := { parameters := [], returnType := none }, accessFlags := 2, code := none }
/-- jdk/internal/util/ArraysSupport -/
def k12 : Class := { plain "jdk/internal/util/ArraysSupport" (some 0) with
  accessFlags := 33
  interfaces := #[]
  cf := some (fileOf pool12 21 #[] #[{ accessFlags := 2, nameIndex := 9, descriptorIndex := 19, attributes := #[] }] 33 16 #[] #[{ accessFlags := 24, nameIndex := 28, descriptorIndex := 29, attributes := #[] }, { accessFlags := 26, nameIndex := 38, descriptorIndex := 39, attributes := #[] }, { accessFlags := 25, nameIndex := 121, descriptorIndex := 25, attributes := #[] }, { accessFlags := 25, nameIndex := 131, descriptorIndex := 25, attributes := #[] }, { accessFlags := 25, nameIndex := 137, descriptorIndex := 25, attributes := #[] }, { accessFlags := 25, nameIndex := 143, descriptorIndex := 25, attributes := #[] }, { accessFlags := 25, nameIndex := 53, descriptorIndex := 25, attributes := #[] }, { accessFlags := 25, nameIndex := 24, descriptorIndex := 25, attributes := #[] }, { accessFlags := 25, nameIndex := 162, descriptorIndex := 25, attributes := #[] }, { accessFlags := 25, nameIndex := 187, descriptorIndex := 25, attributes := #[] }, { accessFlags := 26, nameIndex := 48, descriptorIndex := 25, attributes := #[] }, { accessFlags := 25, nameIndex := 277, descriptorIndex := 25, attributes := #[] }, { accessFlags := 25, nameIndex := 280, descriptorIndex := 25, attributes := #[] }, { accessFlags := 25, nameIndex := 282, descriptorIndex := 25, attributes := #[] }, { accessFlags := 25, nameIndex := 284, descriptorIndex := 25, attributes := #[] }, { accessFlags := 25, nameIndex := 286, descriptorIndex := 25, attributes := #[] }, { accessFlags := 25, nameIndex := 288, descriptorIndex := 25, attributes := #[] }, { accessFlags := 25, nameIndex := 290, descriptorIndex := 25, attributes := #[] }, { accessFlags := 25, nameIndex := 292, descriptorIndex := 25, attributes := #[] }, { accessFlags := 26, nameIndex := 108, descriptorIndex := 109, attributes := #[] }, { accessFlags := 25, nameIndex := 294, descriptorIndex := 25, attributes := #[] }])
  fields := #[{ name := "U", type := (.object "jdk/internal/misc/Unsafe"), accessFlags := 24, slot := 0, constantValue := 0 }, { name := "BIG_ENDIAN", type := .boolean, accessFlags := 26, slot := 1, constantValue := 0 }, { name := "LOG2_ARRAY_BOOLEAN_INDEX_SCALE", type := .int, accessFlags := 25, slot := 2, constantValue := 0 }, { name := "LOG2_ARRAY_BYTE_INDEX_SCALE", type := .int, accessFlags := 25, slot := 3, constantValue := 0 }, { name := "LOG2_ARRAY_CHAR_INDEX_SCALE", type := .int, accessFlags := 25, slot := 4, constantValue := 0 }, { name := "LOG2_ARRAY_SHORT_INDEX_SCALE", type := .int, accessFlags := 25, slot := 5, constantValue := 0 }, { name := "LOG2_ARRAY_INT_INDEX_SCALE", type := .int, accessFlags := 25, slot := 6, constantValue := 0 }, { name := "LOG2_ARRAY_LONG_INDEX_SCALE", type := .int, accessFlags := 25, slot := 7, constantValue := 0 }, { name := "LOG2_ARRAY_FLOAT_INDEX_SCALE", type := .int, accessFlags := 25, slot := 8, constantValue := 0 }, { name := "LOG2_ARRAY_DOUBLE_INDEX_SCALE", type := .int, accessFlags := 25, slot := 9, constantValue := 0 }, { name := "LOG2_BYTE_BIT_SIZE", type := .int, accessFlags := 26, slot := 10, constantValue := 0 }, { name := "T_BOOLEAN", type := .int, accessFlags := 25, slot := 11, constantValue := 0 }, { name := "T_CHAR", type := .int, accessFlags := 25, slot := 12, constantValue := 0 }, { name := "T_FLOAT", type := .int, accessFlags := 25, slot := 13, constantValue := 0 }, { name := "T_DOUBLE", type := .int, accessFlags := 25, slot := 14, constantValue := 0 }, { name := "T_BYTE", type := .int, accessFlags := 25, slot := 15, constantValue := 0 }, { name := "T_SHORT", type := .int, accessFlags := 25, slot := 16, constantValue := 0 }, { name := "T_INT", type := .int, accessFlags := 25, slot := 17, constantValue := 0 }, { name := "T_LONG", type := .int, accessFlags := 25, slot := 18, constantValue := 0 }, { name := "JLA", type := (.object "jdk/internal/access/JavaLangAccess"), accessFlags := 26, slot := 19, constantValue := 0 }, { name := "SOFT_MAX_ARRAY_LENGTH", type := .int, accessFlags := 25, slot := 20, constantValue := 0 }]
  methods := #[k12m0]
  instanceTypes := #[]
  staticTypes := #[(.object "jdk/internal/misc/Unsafe"), .boolean, .int, .int, .int, .int, .int, .int, .int, .int, .int, .int, .int, .int, .int, .int, .int, .int, .int, (.object "jdk/internal/access/JavaLangAccess"), .int]
  resolved := Array.replicate 378 none
  statics := none }

def pool13 : Array CpInfo := pool [(1, u "java/lang/Cloneable"), (0, .class_ 1), (0, u "java/lang/Object"), (0, .class_ 3)] 3

/-- java/lang/Cloneable -/
def k13 : Class := { plain "java/lang/Cloneable" (some 0) with
  accessFlags := 1537
  interfaces := #[]
  cf := some (fileOf pool13 2 #[] #[] 1537 4 #[] #[])
  fields := #[]
  methods := #[]
  instanceTypes := #[]
  staticTypes := #[]
  resolved := Array.replicate 8 none
  statics := none }

/-- the primitive byte -/
def k14 : Class := { plain "byte" none with kind := .primitive 'B', accessFlags := 0x411 }
/-- [B -/
def k15 : Class := { plain "[B" (some 0) with kind := .array 14 .byte, interfaces := #[13, 2], accessFlags := 1041 }

/-- the primitive char -/
def k16 : Class := { plain "char" none with kind := .primitive 'C', accessFlags := 0x411 }
/-- [C -/
def k17 : Class := { plain "[C" (some 0) with kind := .array 16 .char, interfaces := #[13, 2], accessFlags := 1041 }

/-- the primitive int -/
def k18 : Class := { plain "int" none with kind := .primitive 'I', accessFlags := 0x411 }
/-- [I -/
def k19 : Class := { plain "[I" (some 0) with kind := .array 18 .int, interfaces := #[13, 2], accessFlags := 1041 }

def heap : Heap := #[{ cls := 7, slots := #[.long 0, .int 1, .null, .int 0, .null, .int 0, .int 0], vm := .statics 7 },
  { cls := 11, slots := #[.null, .null, .null], vm := .statics 11 }]
def classes : Array Class := #[k0, k1, k2, k3, k4, k5, k6, k7, k8, k9, k10, k11, k12, k13, k14, k15, k16, k17, k18, k19]
def interned : List (Array UInt16 × Addr) := []
def slotsUsed : Nat := 10
def theMethod : MethodId := ⟨1, 1⟩
def args0 : Array Value := #[.int 5, .int 5, .long 5, .long 5, .long 5, .long 5]
def aboutOver (below : List Frame) : State where
  vm := { classes := classes, interned := interned.toArray }
  heap := heap
  slotsUsed := slotsUsed
  threads := #[{ frames := .invoking theMethod args0 :: below }]
def below0 : List Frame := [.native { method := ⟨0, 0⟩, args := #[] }]
def about1 : State := aboutOver below0
def p0 : Program := .bare "" "" ""
def e0 : Env := launch0.env 0 0 0
theorem w_frames : about1.frames = Frame.invoking theMethod args0 :: below0 := rfl
set_option maxRecDepth 65536 in
theorem w_args : argsFit about1.vm theMethod args0 = true := by decide +kernel
set_option maxRecDepth 65536 in
theorem w_heap : heapFits about1 = true := by decide +kernel
set_option maxRecDepth 65536 in
theorem w_runnable : about1.curStatus? = some .runnable := by decide +kernel
set_option maxRecDepth 65536 in
theorem w_alone : about1.alone = true := by decide +kernel
set_option maxRecDepth 65536 in
theorem w_named : about1.methodNamed? x = some theMethod := by decide +kernel
set_option maxRecDepth 65536 in
theorem w_hears : about1.hears theMethod below0 = true := by decide +kernel
set_option maxRecDepth 65536 in
theorem w_ripe : about1.ripe theMethod args0 below0 = true := by decide +kernel
theorem w_running : about1.status = .running := rfl
set_option maxRecDepth 65536 in
theorem w_room : about1.hasRoom e0.platform room_1 = true :=
  launch0.hasRoom_least _ room_1 (by decide +kernel) (by decide +kernel) (by decide +kernel) (by decide +kernel) (by decide +kernel) (by decide +kernel)
theorem allAtoms_all (ts : List Jvm.Cond) (a : Array Jvm.Value) (st : Jvm.State) : (allAtoms ts).before a st = ts.all (fun c => c.before a st) := by
  induction ts with
  | nil => rfl
  | cons c t ih =>
    show (Jvm.Cond.and c (allAtoms t)).before a st = _
    rw [Jvm.Cond.before_and, ih, List.all_cons]
def words1 : List Jvm.Cond := Jvm.Cond.code x code maxLocals ret :: tables_1
/-- a 'code' word, met by the world's own term for the bytes: nothing is compared byte by byte -/
theorem code_word {y : MethodName} {bytes : ByteArray} {mx : Nat} {rt : Option FieldType} {a : Array Value} {s : State} {m : MethodId} {meth : Method} {c : Code} (h1 : s.methodNamed? y = some m) (h2 : s.vm.method? m = some meth) (h3 : meth.code = some c) (h4 : c.code = bytes)
    (h5 : (c.maxLocals == mx && c.exceptionTable.isEmpty && decide (c.maxStack ≤ mostOperands) && decide (meth.sig.returnType = rt) && !meth.locks && decide (parseMethodDescriptor y.desc = some meth.sig)) = true) : (Jvm.Cond.code y bytes mx rt).before a s = true := by
  simp only [Bool.and_eq_true, beq_iff_eq, Bool.not_eq_true', decide_eq_true_eq] at h5
  obtain ⟨⟨⟨⟨⟨g1, g2⟩, g3⟩, g4⟩, g5⟩, g6⟩ := h5
  simp [Cond.before, Cond.holds, Cond.value, h1, h2, h3, h4, g1, g2, g3, g4, g5, g6]
def isCode : Jvm.Cond → Bool
  | .code _ _ _ _ => true
  | _ => false
theorem all_split {L : List Jvm.Cond} {P : Jvm.Cond → Bool} (h1 : L.all (fun c => isCode c || P c) = true) (h2 : ∀ c ∈ L.filter isCode, P c = true) : L.all P = true := by
  refine List.all_eq_true.mpr fun c hc => ?_
  have h := List.all_eq_true.mp h1 c hc
  rcases Bool.eq_false_or_eq_true (isCode c) with hi | hi
  · exact h2 c (List.mem_filter.mpr ⟨hc, hi⟩)
  · simpa [hi] using h
set_option maxRecDepth 65536 in
theorem w_c0 : (Jvm.Cond.code x code maxLocals ret).before args0 about1 = true := code_word (m := ⟨1, 1⟩) (meth := k1m1) (c := k1c1) (by decide +kernel) rfl rfl rfl (by decide +kernel)
set_option maxRecDepth 65536 in
theorem w_c1 : (Jvm.Cond.code ({ cls := "java/lang/String", name := "<init>", desc := "([C)V" } : Jvm.MethodName) jdk_42_method_3_code (2 : Nat) (Option.none : Option Jvm.ClassFile.FieldType)).before args0 about1 = true := code_word (m := ⟨7, 1⟩) (meth := k7m1) (c := k7c1) (by decide +kernel) rfl rfl rfl (by decide +kernel)
set_option maxRecDepth 65536 in
theorem w_c2 : (Jvm.Cond.code ({ cls := "java/lang/String", name := "<init>", desc := "([CIILjava/lang/Void;)V" } : Jvm.MethodName) jdk_42_method_149_code (6 : Nat) (Option.none : Option Jvm.ClassFile.FieldType)).before args0 about1 = true := code_word (m := ⟨7, 3⟩) (meth := k7m3) (c := k7c3) (by decide +kernel) rfl rfl rfl (by decide +kernel)
set_option maxRecDepth 65536 in
theorem w_c3 : (Jvm.Cond.code ({ cls := "java/lang/Object", name := "<init>", desc := "()V" } : Jvm.MethodName) object_method_1_code (1 : Nat) (Option.none : Option Jvm.ClassFile.FieldType)).before args0 about1 = true := code_word (m := ⟨0, 0⟩) (meth := k0m0) (c := k0c0) (by decide +kernel) rfl rfl rfl (by decide +kernel)
set_option maxRecDepth 65536 in
theorem w_c4 : (Jvm.Cond.code ({ cls := "java/lang/StringUTF16", name := "compress", desc := "([CII)[B" } : Jvm.MethodName) jdk_52_method_16_code (6 : Nat) (Option.some (Jvm.ClassFile.FieldType.array Jvm.ClassFile.FieldType.byte))).before args0 about1 = true := code_word (m := ⟨8, 2⟩) (meth := k8m2) (c := k8c2) (by decide +kernel) rfl rfl rfl (by decide +kernel)
set_option maxRecDepth 65536 in
theorem w_c5 : (Jvm.Cond.code ({ cls := "java/lang/StringUTF16", name := "compress", desc := "([CI[BII)I" } : Jvm.MethodName) jdk_52_method_21_code (7 : Nat) (Option.some Jvm.ClassFile.FieldType.int)).before args0 about1 = true := code_word (m := ⟨8, 3⟩) (meth := k8m3) (c := k8c3) (by decide +kernel) rfl rfl rfl (by decide +kernel)
set_option maxRecDepth 65536 in
theorem w_c6 : (Jvm.Cond.code ({ cls := "java/lang/StringUTF16", name := "coderFromArrayLen", desc := "([BI)B" } : Jvm.MethodName) jdk_52_method_15_code (2 : Nat) (Option.some Jvm.ClassFile.FieldType.byte)).before args0 about1 = true := code_word (m := ⟨8, 1⟩) (meth := k8m1) (c := k8c1) (by decide +kernel) rfl rfl rfl (by decide +kernel)
set_option maxRecDepth 65536 in
theorem w_c7 : (Jvm.Cond.code ({ cls := "com/example/rankle/rankle/Standing", name := "<init>", desc := "(Ljava/lang/String;JJ)V" } : Jvm.MethodName) prog_16_method_1_code (6 : Nat) (Option.none : Option Jvm.ClassFile.FieldType)).before args0 about1 = true := code_word (m := ⟨9, 0⟩) (meth := k9m0) (c := k9c0) (by decide +kernel) rfl rfl rfl (by decide +kernel)
set_option maxRecDepth 65536 in
theorem w_c8 : (Jvm.Cond.code ({ cls := "com/example/rankle/rankle/Standing", name := "equals", desc := "(Ljava/lang/Object;)Z" } : Jvm.MethodName) prog_16_method_5_code (3 : Nat) (Option.some Jvm.ClassFile.FieldType.boolean)).before args0 about1 = true := code_word (m := ⟨9, 1⟩) (meth := k9m1) (c := k9c1) (by decide +kernel) rfl rfl rfl (by decide +kernel)
set_option maxRecDepth 65536 in
theorem w_c9 : (Jvm.Cond.code ({ cls := "java/lang/String", name := "equals", desc := "(Ljava/lang/Object;)Z" } : Jvm.MethodName) jdk_42_method_66_code (3 : Nat) (Option.some Jvm.ClassFile.FieldType.boolean)).before args0 about1 = true := code_word (m := ⟨7, 2⟩) (meth := k7m2) (c := k7c2) (by decide +kernel) rfl rfl rfl (by decide +kernel)
set_option maxRecDepth 65536 in
theorem w_c10 : (Jvm.Cond.code ({ cls := "java/lang/StringLatin1", name := "equals", desc := "([B[B)Z" } : Jvm.MethodName) jdk_43_method_13_code (3 : Nat) (Option.some Jvm.ClassFile.FieldType.boolean)).before args0 about1 = true := code_word (m := ⟨10, 1⟩) (meth := k10m1) (c := k10c1) (by decide +kernel) rfl rfl rfl (by decide +kernel)
def codes1 : List Jvm.Cond := [Jvm.Cond.code x code maxLocals ret, Jvm.Cond.code ({ cls := "java/lang/String", name := "<init>", desc := "([C)V" } : Jvm.MethodName) jdk_42_method_3_code (2 : Nat) (Option.none : Option Jvm.ClassFile.FieldType), Jvm.Cond.code ({ cls := "java/lang/String", name := "<init>", desc := "([CIILjava/lang/Void;)V" } : Jvm.MethodName) jdk_42_method_149_code (6 : Nat) (Option.none : Option Jvm.ClassFile.FieldType), Jvm.Cond.code ({ cls := "java/lang/Object", name := "<init>", desc := "()V" } : Jvm.MethodName) object_method_1_code (1 : Nat) (Option.none : Option Jvm.ClassFile.FieldType), Jvm.Cond.code ({ cls := "java/lang/StringUTF16", name := "compress", desc := "([CII)[B" } : Jvm.MethodName) jdk_52_method_16_code (6 : Nat) (Option.some (Jvm.ClassFile.FieldType.array Jvm.ClassFile.FieldType.byte)), Jvm.Cond.code ({ cls := "java/lang/StringUTF16", name := "compress", desc := "([CI[BII)I" } : Jvm.MethodName) jdk_52_method_21_code (7 : Nat) (Option.some Jvm.ClassFile.FieldType.int), Jvm.Cond.code ({ cls := "java/lang/StringUTF16", name := "coderFromArrayLen", desc := "([BI)B" } : Jvm.MethodName) jdk_52_method_15_code (2 : Nat) (Option.some Jvm.ClassFile.FieldType.byte), Jvm.Cond.code ({ cls := "com/example/rankle/rankle/Standing", name := "<init>", desc := "(Ljava/lang/String;JJ)V" } : Jvm.MethodName) prog_16_method_1_code (6 : Nat) (Option.none : Option Jvm.ClassFile.FieldType), Jvm.Cond.code ({ cls := "com/example/rankle/rankle/Standing", name := "equals", desc := "(Ljava/lang/Object;)Z" } : Jvm.MethodName) prog_16_method_5_code (3 : Nat) (Option.some Jvm.ClassFile.FieldType.boolean), Jvm.Cond.code ({ cls := "java/lang/String", name := "equals", desc := "(Ljava/lang/Object;)Z" } : Jvm.MethodName) jdk_42_method_66_code (3 : Nat) (Option.some Jvm.ClassFile.FieldType.boolean), Jvm.Cond.code ({ cls := "java/lang/StringLatin1", name := "equals", desc := "([B[B)Z" } : Jvm.MethodName) jdk_43_method_13_code (3 : Nat) (Option.some Jvm.ClassFile.FieldType.boolean)]
set_option maxRecDepth 65536 in
theorem codes_eq : words1.filter isCode = codes1 := rfl
theorem w_codes : ∀ c ∈ words1.filter isCode, c.before args0 about1 = true := by
  rw [codes_eq]
  intro c hc
  simp only [codes1, List.mem_cons, List.not_mem_nil, or_false] at hc
  rcases hc with rfl | rfl | rfl | rfl | rfl | rfl | rfl | rfl | rfl | rfl | rfl
  · exact w_c0
  · exact w_c1
  · exact w_c2
  · exact w_c3
  · exact w_c4
  · exact w_c5
  · exact w_c6
  · exact w_c7
  · exact w_c8
  · exact w_c9
  · exact w_c10
set_option maxRecDepth 65536 in
theorem w_t1 : (words1.take 24).all (fun c => isCode c || c.before args0 about1) = true := by decide +kernel
set_option maxRecDepth 65536 in
theorem w_t2 : ((words1.drop 24).take 24).all (fun c => isCode c || c.before args0 about1) = true := by decide +kernel
set_option maxRecDepth 65536 in
theorem w_t3 : ((words1.drop 24).drop 24).all (fun c => isCode c || c.before args0 about1) = true := by decide +kernel
theorem w_tables : (allAtoms (Jvm.Cond.code x code maxLocals ret :: tables_1)).before args0 about1 = true := by
  rw [allAtoms_all]
  show words1.all (fun c => c.before args0 about1) = true
  refine all_split ?_ w_codes
  rw [← List.take_append_drop 24 words1, List.all_append, w_t1, ← List.take_append_drop 24 (words1.drop 24), List.all_append, w_t2, w_t3]
  rfl
set_option maxRecDepth 65536 in
theorem w_rest : rest_1_c.before args0 about1 = true := by decide +kernel
set_option maxRecDepth 65536 in
theorem w_case : (Jvm.Cond.and given_1 narrow_1).before args0 about1 = true := by decide +kernel
theorem w_applies : (headSpec (Jvm.Cond.code x code maxLocals ret :: tables_1) room_1).applies x e0.platform about1 = true :=
  (Spec.applies_iff w_frames).mpr ⟨w_running, w_runnable, w_alone, w_named, w_hears, w_ripe, w_room, w_tables⟩
theorem atStart : AtStart classFile x code maxLocals ret World_1 tables_1 room_1 Calls_1 rest_1 Pre_1 launch0 p0 e0 about1 theMethod args0 below0 :=
  ⟨lists_1, trivial, launch0.admits_env _ _ _, launch0.least_env, fairChoices_fair.cas, fairChoices_fair.clock, w_frames, w_args, w_heap, w_applies, trivial, w_rest, w_case⟩
end start1
theorem witness_1 : WitnessClaimed_1 := ⟨start1.p0, start1.e0, start1.about1, start1.theMethod, start1.args0, start1.below0, start1.atStart⟩
end Jvm.Pilot.@@N@@
