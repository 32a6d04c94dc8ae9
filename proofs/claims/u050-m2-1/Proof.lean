import JvmDerived
import JvmDerived.Pilot.@@N@@Statement
import JvmDerived.Pilot.@@N@@Code
set_option linter.unusedVariables false
set_option linter.unusedSimpArgs false
namespace Jvm.Pilot.@@N@@
open Jvm Jvm.ClassFile Sem Op Lib Jvm.Free Jvm.Stand Jvm.LawKit Jvm.RoadKit Bundle Jvm.Pilot.@@N@@.Jvm.D
abbrev jv (x : Int64) : Slot := .val (.long x)
theorem ow {Z : State} {a0 : Array Value} (hw : ∀ d ∈ tables_1, d.before a0 Z = true) (i : Nat) {d : Jvm.Cond} (h : tables_1[i]? = some d) : d.before a0 Z = true := hw _ (List.mem_of_getElem? h)
section OwnKit
variable {p : Program} {l : Launch} {e : Env} {R : Room} {s : State} {m : MethodId} {args : Array Value} {below : List Frame} {meth : Method} {c : Code} {T T' : State} {locs : List Loc} {cells slots kc ks : Nat} {Q : Option Value → Heap → List Loc → Prop} {g g' : JFrame}
/-- from this state and frame on the body ends, and Q holds of what it returns, of the heap and of the places written -/
def OwnG (p : Program) (e : Env) (below : List Frame) (s : State) (kc ks : Nat) (Q : Option Value → Heap → List Loc → Prop) (T : State) (g : JFrame) : Prop :=
  ∃ s₂ o, Steps p.tables e below (T.setTop g) s₂ ∧ s₂.status = .running ∧ Ended s₂ below o ∧ ∃ v L, o = .returned v ∧ Q v s₂.heap L ∧ FrameEnd s o s₂ L kc ks
theorem own_by (k : ∀ t, Steps p.tables e below (T'.setTop g') t → Steps p.tables e below (T.setTop g) t) (h : OwnG p e below s kc ks Q T' g') : OwnG p e below s kc ks Q T g := by
  obtain ⟨s₂, o, st, r⟩ := h
  exact ⟨s₂, o, k _ st, r⟩
theorem own_out (X : Stand p l e R s m args below meth c T locs cells slots) (hlk : meth.locks = false) {v : Option Value} (hv : meth.sig.returnType = none → v = none)
    (hst : ∀ fs, (∀ (f : JFrame) (acts : List Action), f.method = m → f.locked = none → f.entered = [] → (doReturn e (T.setTop f) acts v).1 = T.setFrames fs) → Steps p.tables e below (T.setTop g) (T.setFrames fs))
    (hq : Q v T.heap locs) (hc : cells ≤ kc) (hs : slots ≤ ks) : OwnG p e below s kc ks Q T g := by
  obtain ⟨fs, hr, hrun, hended, hW, hsame⟩ := X.leave (v := v) hv hlk
  exact ⟨_, _, hst fs hr, hrun, hended, v, locs, rfl, hq, ⟨_, rfl⟩, hW, hsame.mono hc hs⟩
def OwnGW (p : Program) (e : Env) (below : List Frame) (s : State) (kc ks : Nat) (Q : Option Value → Heap → List Loc → Prop) (T : State) (g : JFrame) : Prop :=
  ∃ s₂ o, Steps p.tables e below (T.setTop g) s₂ ∧ s₂.status = .running ∧ Ended s₂ below o ∧ ∃ v L, o = .returned v ∧ Q v s₂.heap L ∧ ReturnedEndW s o s₂ L kc ks
theorem own_byW (k : ∀ t, Steps p.tables e below (T'.setTop g') t → Steps p.tables e below (T.setTop g) t) (h : OwnGW p e below s kc ks Q T' g') : OwnGW p e below s kc ks Q T g := by
  obtain ⟨s₂, o, st, r⟩ := h
  exact ⟨s₂, o, k _ st, r⟩
theorem own_outW {vm : Vm} {k : Nat} (X : Stand p l e R (s.setVm vm) m args below meth c T locs cells slots) (hS : s.Since vm k) (hk : k ≤ T.heap.size) (hlk : meth.locks = false) {v : Option Value} (hv : meth.sig.returnType = none → v = none)
    (hst : ∀ fs, (∀ (f : JFrame) (acts : List Action), f.method = m → f.locked = none → f.entered = [] → (doReturn e (T.setTop f) acts v).1 = T.setFrames fs) → Steps p.tables e below (T.setTop g) (T.setFrames fs))
    (hq : Q v T.heap locs) (hc : cells ≤ kc) (hs : slots ≤ ks) : OwnGW p e below s kc ks Q T g := by
  obtain ⟨fs, hr, hrun, hended, h1, h2, h3, h4⟩ := X.leaveW hS hk (v := v) hv hlk
  exact ⟨_, _, hst fs hr, hrun, hended, v, locs, rfl, hq, h1, h2, h3, h4.mono hc hs⟩
def OwnGH (p : Program) (e : Env) (below : List Frame) (s Z : State) (EL : List (String × Nat)) (kc ks : Nat) (Q : Option Value → Heap → List Loc → Prop) (T : State) (g : JFrame) : Prop :=
  ∃ s₂ o, Steps p.tables e below (T.setTop g) s₂ ∧ s₂.status = .running ∧ Ended s₂ below o ∧ ∃ v L, o = .returned v ∧ Q v s₂.heap L ∧ CHr Z EL s.vm s.heap s₂.vm s₂.heap ∧ ReturnedEndW s o s₂ L kc ks
theorem own_byH {Z : State} {EL : List (String × Nat)} (k : ∀ t, Steps p.tables e below (T'.setTop g') t → Steps p.tables e below (T.setTop g) t) (h : OwnGH p e below s Z EL kc ks Q T' g') : OwnGH p e below s Z EL kc ks Q T g := by
  obtain ⟨s₂, o, st, r⟩ := h
  exact ⟨s₂, o, k _ st, r⟩
theorem own_outH {Z : State} {a0 : Array Value} {EL : List (String × Nat)} {h0 : Heap} {vm : Vm} {k : Nat} (X : Stand p l e R (s.setVm vm) m args below meth c T locs cells slots) (hh : s.heap = h0) (hEL : EW Z a0 EL) (hS : s.Since vm k) (hk : k ≤ T.heap.size) (HR : CHr Z EL s.vm h0 vm T.heap) (hZ : Z.Warmed39 vm) (hlk : meth.locks = false) {v : Option Value} (hv : meth.sig.returnType = none → v = none)
    (hst : ∀ fs, (∀ (f : JFrame) (acts : List Action), f.method = m → f.locked = none → f.entered = [] → (doReturn e (T.setTop f) acts v).1 = T.setFrames fs) → Steps p.tables e below (T.setTop g) (T.setFrames fs))
    (hq : Q v T.heap locs) (hc : cells ≤ kc) (hs : slots ≤ ks) : OwnGH p e below s Z EL kc ks Q T g := by
  obtain ⟨fs, hr, hrun, hended, h1, h2, h3, h4⟩ := X.leaveW hS hk (v := v) hv hlk
  have C := HR.trans (CHv.at X hZ hEL HR.1)
  exact ⟨_, _, hst fs hr, hrun, hended, v, locs, rfl, hq, (by rw [hh]; exact C), h1, h2, h3, h4.mono hc hs⟩
theorem own_lt (x y : Int64) : lcmpW x y < 0 ↔ x < y := by rw [lcW]; exact lc_lt x y
theorem own_gt (x y : Int64) : 0 < lcmpW x y ↔ y < x := by rw [lcW]; exact lc_gt x y
theorem own_eq (x y : Int64) : lcmpW x y = 0 ↔ x = y := by rw [lcW]; exact lc_eq x y
theorem own_fldI {Z : State} {a : Addr} {t : Jvm.Term} {C n d : String} {k : Int32} (ev : t.eval args Z none [] Z = some (.ref a)) (h : (Jvm.Cond.eq (Jvm.Term.field t C n d) (Jvm.Term.int k)).value args Z none Z [] = some true) : Fld Z Z.heap a C n d (.int k) := by
  obtain ⟨x, y, h1, h2, h3, h4⟩ := cmp_v (Or.inl h)
  cases (Term.int_eval k).symm.trans h2
  obtain ⟨z, rfl⟩ := h4
  rw [fld_at ev] at h1
  have h5 : (Jvm.Cond.eq (Jvm.Term.field t C n d) (Jvm.Term.int k)).value args Z none Z [] = some (decide (z = k)) := by simp [Jvm.Cond.value, fld_at ev, h1, Term.int_eval]
  cases gotT h5 h
  exact Fld.start h1
theorem own_fldJ {Z : State} {a : Addr} {t : Jvm.Term} {C n d : String} {k : Int64} (ev : t.eval args Z none [] Z = some (.ref a)) (h : (Jvm.Cond.eq (Jvm.Term.field t C n d) (Jvm.Term.long k)).value args Z none Z [] = some true) : Fld Z Z.heap a C n d (.long k) := by
  obtain ⟨x, y, h1, h2, h3, h4⟩ := cmp_v (Or.inl h)
  cases (long_at k).symm.trans h2
  obtain ⟨z, rfl⟩ := h4
  have h5 := gotT (eq_L h1 (long_at k)) h
  rw [fld_at ev] at h1
  cases h5
  exact Fld.start h1
theorem own_fldN {Z : State} {a : Addr} {t : Jvm.Term} {C n d : String} (ev : t.eval args Z none [] Z = some (.ref a)) (h : (Jvm.Cond.eq (Jvm.Term.field t C n d) Jvm.Term.null).value args Z none Z [] = some true) : Fld Z Z.heap a C n d .null := by
  have h1 := null_v h
  rw [fld_at ev] at h1
  exact Fld.start h1
theorem own_e0 {P : Prop} [Decidable P] (h : (if P then (1 : Int32) else (0 : Int32)) = 0) : ¬ P := fun q => by rw [if_pos q] at h; exact absurd h (by decide)
theorem own_e1 {P : Prop} [Decidable P] (h : ¬ (if P then (1 : Int32) else (0 : Int32)) = 0) : P := by
  by_cases q : P
  · exact q
  · exact absurd (if_neg q) h
theorem own_n2 {P Q : Prop} [Decidable P] [Decidable Q] {A : Int32} (h : ¬ (P ∧ Q)) : (if P then (if Q then A else (0 : Int32)) else (0 : Int32)) = 0 := by
  by_cases p : P
  · rw [if_pos p, if_neg (fun q => h ⟨p, q⟩)]
  · rw [if_neg p]
theorem own_narR {v : Value} {C : String} (h : v.isRef = true) : narrow (.object C) v = v := by rcases ref_cases h with rfl | ⟨_, rfl⟩ <;> rfl
theorem own_fitR {v : Value} {C : String} (h : v.isRef = true) : fits (.object C) v = true := by rcases ref_cases h with rfl | ⟨_, rfl⟩ <;> rfl
theorem own_len {Z : State} {t : Jvm.Term} {a : Addr} {cl : Cell} {ty : FieldType} {k : Int32} (et : t.eval args Z none [] Z = some (.ref a)) (A : Arr Z Z.heap a cl ty) (h : (Jvm.Term.length t).eval args Z none [] Z = some (.int k)) : cl.slots.size < 2 ^ 31 ∧ cl.slots.size.toInt32 = k := by
  have hA := A.fin (Vm.Alike.refl Z.vm)
  by_cases q : cl.slots.size < 2 ^ 31
  · rw [len_f et hA q] at h; exact ⟨q, by simpa using h⟩
  · simp [Jvm.Term.eval, et, hA] at h; exact absurd h.1 q
theorem own_mvM {Z : State} {a0 : Array Value} {own host : String} {index : Nat} {y : MethodName} (hZ : Z.Warmed39 s.vm) (w : (Jvm.Cond.methodLinkNest own index y host).before a0 Z = true) : (Jvm.Cond.methodLinkNest own index y host).before args s = true := (Cond.methodLinkNest_wide hZ w :)
end OwnKit
theorem d1_0 : decode method_2_code 0 = .ok (.iload_n 0, 1) := by decide +kernel
theorem d1_1 : decode method_2_code 1 = .ok (.ifCond .ne 7, 3) := by decide +kernel
theorem d1_4 : decode method_2_code 4 = .ok (.getstatic 7, 3) := by decide +kernel
theorem d1_7 : decode method_2_code 7 = .ok (.areturn, 1) := by decide +kernel
theorem d1_8 : decode method_2_code 8 = .ok (.iload_n 0, 1) := by decide +kernel
theorem d1_9 : decode method_2_code 9 = .ok (.iconst 1, 1) := by decide +kernel
theorem d1_10 : decode method_2_code 10 = .ok (.if_icmp .ne 7, 3) := by decide +kernel
theorem d1_13 : decode method_2_code 13 = .ok (.getstatic 13, 3) := by decide +kernel
theorem d1_16 : decode method_2_code 16 = .ok (.areturn, 1) := by decide +kernel
theorem d1_17 : decode method_2_code 17 = .ok (.iload_n 0, 1) := by decide +kernel
theorem d1_18 : decode method_2_code 18 = .ok (.iconst 2, 1) := by decide +kernel
theorem d1_19 : decode method_2_code 19 = .ok (.if_icmp .ne 7, 3) := by decide +kernel
theorem d1_22 : decode method_2_code 22 = .ok (.getstatic 16, 3) := by decide +kernel
theorem d1_25 : decode method_2_code 25 = .ok (.areturn, 1) := by decide +kernel
theorem d1_26 : decode method_2_code 26 = .ok (.getstatic 19, 3) := by decide +kernel
theorem d1_29 : decode method_2_code 29 = .ok (.areturn, 1) := by decide +kernel
theorem d2_0 : decode prog_10_method_4_code 0 = .ok (.aload_n 0, 1) := by decide +kernel
theorem d2_1 : decode prog_10_method_4_code 1 = .ok (.invokevirtual 35, 3) := by decide +kernel
theorem d2_4 : decode prog_10_method_4_code 4 = .ok (.tableswitch 32 0 3 #[42, 54, 66, 78], 32) := by decide +kernel
theorem d2_46 : decode prog_10_method_4_code 46 = .ok (.iload_n 1, 1) := by decide +kernel
theorem d2_47 : decode prog_10_method_4_code 47 = .ok (.ifCond .lt 7, 3) := by decide +kernel
theorem d2_50 : decode prog_10_method_4_code 50 = .ok (.iconst 1, 1) := by decide +kernel
theorem d2_51 : decode prog_10_method_4_code 51 = .ok (.goto 40, 3) := by decide +kernel
theorem d2_54 : decode prog_10_method_4_code 54 = .ok (.iconst 0, 1) := by decide +kernel
theorem d2_55 : decode prog_10_method_4_code 55 = .ok (.goto 36, 3) := by decide +kernel
theorem d2_58 : decode prog_10_method_4_code 58 = .ok (.iload_n 1, 1) := by decide +kernel
theorem d2_59 : decode prog_10_method_4_code 59 = .ok (.ifCond .le 7, 3) := by decide +kernel
theorem d2_62 : decode prog_10_method_4_code 62 = .ok (.iconst 1, 1) := by decide +kernel
theorem d2_63 : decode prog_10_method_4_code 63 = .ok (.goto 28, 3) := by decide +kernel
theorem d2_66 : decode prog_10_method_4_code 66 = .ok (.iconst 0, 1) := by decide +kernel
theorem d2_67 : decode prog_10_method_4_code 67 = .ok (.goto 24, 3) := by decide +kernel
theorem d2_70 : decode prog_10_method_4_code 70 = .ok (.iload_n 1, 1) := by decide +kernel
theorem d2_71 : decode prog_10_method_4_code 71 = .ok (.ifCond .gt 7, 3) := by decide +kernel
theorem d2_74 : decode prog_10_method_4_code 74 = .ok (.iconst 1, 1) := by decide +kernel
theorem d2_75 : decode prog_10_method_4_code 75 = .ok (.goto 16, 3) := by decide +kernel
theorem d2_78 : decode prog_10_method_4_code 78 = .ok (.iconst 0, 1) := by decide +kernel
theorem d2_79 : decode prog_10_method_4_code 79 = .ok (.goto 12, 3) := by decide +kernel
theorem d2_82 : decode prog_10_method_4_code 82 = .ok (.iload_n 1, 1) := by decide +kernel
theorem d2_83 : decode prog_10_method_4_code 83 = .ok (.ifCond .ge 7, 3) := by decide +kernel
theorem d2_86 : decode prog_10_method_4_code 86 = .ok (.iconst 1, 1) := by decide +kernel
theorem d2_87 : decode prog_10_method_4_code 87 = .ok (.goto 4, 3) := by decide +kernel
theorem d2_90 : decode prog_10_method_4_code 90 = .ok (.iconst 0, 1) := by decide +kernel
theorem d2_91 : decode prog_10_method_4_code 91 = .ok (.ireturn, 1) := by decide +kernel
theorem d3_0 : decode jdk_37_method_2_code 0 = .ok (.aload_n 0, 1) := by decide +kernel
theorem d3_1 : decode jdk_37_method_2_code 1 = .ok (.getfield 7, 3) := by decide +kernel
theorem d3_4 : decode jdk_37_method_2_code 4 = .ok (.ireturn, 1) := by decide +kernel
theorem pn_0 : plainName "java/lang/Enum" = true := by first | (simp [plainName, overriddenIn]; done) | decide +kernel
theorem pn_1 : plainName "com/example/wrought_gate/wroughtgate/engine/ComparisonAdmitsPinLaw" = true := by first | (simp [plainName, overriddenIn]; done) | decide +kernel
theorem pn_2 : plainName "com/example/wrought_gate/wroughtgate/engine/Comparison" = true := by first | (simp [plainName, overriddenIn]; done) | decide +kernel
theorem pd_0 : parseMethodDescriptor "()I" = some ⟨[], some .int⟩ := by decide +kernel
theorem pd_1 : parseMethodDescriptor "(I)Lcom/example/wrought_gate/wroughtgate/engine/Comparison;" = some ⟨[.int], some (.object "com/example/wrought_gate/wroughtgate/engine/Comparison")⟩ := by decide +kernel
theorem pd_2 : parseMethodDescriptor "(I)Z" = some ⟨[.int], some .boolean⟩ := by decide +kernel
theorem ef_rm3 (m : MethodId) (x0 : Addr) : entryFrame m #[(.ref x0)] 1 = mkF m 0 #[.val (.ref x0)] [] := by first | (simp [entryFrame, mkF, argsToLocals, Value.category]; done) | rfl
theorem ef_rm1_0 (m : MethodId) (x0 : Int32) : entryFrame m #[(.int x0)] 1 = mkF m 0 #[.val (.int x0)] [] := by first | (simp [entryFrame, mkF, argsToLocals, Value.category]; done) | rfl
theorem ef_rm2_0 (m : MethodId) (x0 : Addr) (x1 : Int32) : entryFrame m #[(.ref x0), (.int x1)] 2 = mkF m 0 #[.val (.ref x0), .val (.int x1)] [] := by first | (simp [entryFrame, mkF, argsToLocals, Value.category]; done) | rfl
theorem ef_rm1_1 (m : MethodId) (x0 : Int32) : entryFrame m #[(.int x0)] 1 = mkF m 0 #[.val (.int x0)] [] := by first | (simp [entryFrame, mkF, argsToLocals, Value.category]; done) | rfl
theorem ef_rm2_1 (m : MethodId) (x0 : Addr) (x1 : Int32) : entryFrame m #[(.ref x0), (.int x1)] 2 = mkF m 0 #[.val (.ref x0), .val (.int x1)] [] := by first | (simp [entryFrame, mkF, argsToLocals, Value.category]; done) | rfl
theorem ef_rm1_2 (m : MethodId) (x0 : Int32) : entryFrame m #[(.int x0)] 1 = mkF m 0 #[.val (.int x0)] [] := by first | (simp [entryFrame, mkF, argsToLocals, Value.category]; done) | rfl
theorem ef_rm2_2 (m : MethodId) (x0 : Addr) (x1 : Int32) : entryFrame m #[(.ref x0), (.int x1)] 2 = mkF m 0 #[.val (.ref x0), .val (.int x1)] [] := by first | (simp [entryFrame, mkF, argsToLocals, Value.category]; done) | rfl
theorem ef_rm1_3 (m : MethodId) (x0 : Int32) : entryFrame m #[(.int x0)] 1 = mkF m 0 #[.val (.int x0)] [] := by first | (simp [entryFrame, mkF, argsToLocals, Value.category]; done) | rfl
theorem ef_rm2_3 (m : MethodId) (x0 : Addr) (x1 : Int32) : entryFrame m #[(.ref x0), (.int x1)] 2 = mkF m 0 #[.val (.ref x0), .val (.int x1)] [] := by first | (simp [entryFrame, mkF, argsToLocals, Value.category]; done) | rfl
theorem ef_rm0 (m : MethodId) (x0 : Int32) (x1 : Int32) : entryFrame m #[(.int x0), (.int x1)] maxLocals = mkF m 0 #[.val (.int x0), .val (.int x1), .unset, .unset, .unset, .unset, .unset] [] := by first | (simp [entryFrame, mkF, argsToLocals, Value.category, maxLocals]; done) | rfl
theorem own_and3 (x : Int32) : (x &&& (3 : Int32)) = 0 ∨ (x &&& (3 : Int32)) = 1 ∨ (x &&& (3 : Int32)) = 2 ∨ (x &&& (3 : Int32)) = 3 := by
  have h1 := c_and x (3 : Int32) (by decide)
  have h2 : (3 : Int32).toInt = 3 := rfl
  rw [h2] at h1
  have h3 : ∀ k : Int32, (x &&& (3 : Int32)).toInt = k.toInt → (x &&& (3 : Int32)) = k := fun k h => Int32.toInt_inj.mp h
  have a0 : (0 : Int32).toInt = 0 := rfl
  have a1 : (1 : Int32).toInt = 1 := rfl
  have a2 : (2 : Int32).toInt = 2 := rfl
  rcases (by omega : (x &&& (3 : Int32)).toInt = 0 ∨ (x &&& (3 : Int32)).toInt = 1 ∨ (x &&& (3 : Int32)).toInt = 2 ∨ (x &&& (3 : Int32)).toInt = 3) with h | h | h | h
  · exact Or.inl (h3 0 (by rw [h, a0]))
  · exact Or.inr (Or.inl (h3 1 (by rw [h, a1])))
  · exact Or.inr (Or.inr (Or.inl (h3 2 (by rw [h, a2]))))
  · exact Or.inr (Or.inr (Or.inr (h3 3 (by rw [h, h2]))))
theorem own_asym {x y : Int32} (h : x < y) : ¬ y < x := by
  rw [Int32.lt_iff_toInt_lt] at h ⊢; omega
def Q_rm3 (Z : State) (a1 : Addr) (k1 : Int32) (h0 : Heap) (n0 : Nat) : Option Value → Heap → List Loc → Prop := fun v h L => v = some (.int k1) ∧ L = [] ∧ h = h0
set_option maxRecDepth 65536 in
set_option maxHeartbeats 40000000 in
theorem rm3 (l : Launch) (Z : State) (a0 : Array Value) (hw : ∀ d ∈ tables_1, d.before a0 Z = true) (ws : List Jvm.Cond) (a1 : Addr) (k1 : Int32) (h0 : Heap) (n0 : Nat) (O : Old Z n0 h0) (F_o : Fld Z h0 a1 "java/lang/Enum" "ordinal" "I" (.int k1)) :
    MetFree l (⟨"java/lang/Enum", "ordinal", "()I"⟩ : MethodName) (head1 (Jvm.Cond.code (⟨"java/lang/Enum", "ordinal", "()I"⟩ : MethodName) jdk_37_method_2_code 1 (some .int) :: ws) ({ frames := 0, cells := 0, slots := 0, locals := 0 } : Room)) (fun a U => a = #[(.ref a1)] ∧ Z.Warmed39 U.vm ∧ U.heap = h0) (fun _ _ _ _ _ => True) (fun _ U o U' => ∃ v L, o = .returned v ∧ (Q_rm3 Z a1 k1 h0 n0) v U'.heap L ∧ FrameEnd U o U' L ({ frames := 0, cells := 0, slots := 0, locals := 0 } : Room).cells ({ frames := 0, cells := 0, slots := 0, locals := 0 } : Room).slots) := by
  refine MetFree.of_bodySF (plainFor_of_name pn_0) hisR ?_
  intro p e s m args below meth c s₁ Bd hml0 hP hK
  obtain ⟨rfl, hZ, hh⟩ := hP
  have hx := Bd.exec
  have hby := Bd.bytes
  have hml : c.maxLocals = 1 := hml0
  have hown : s.vm.findClass "java/lang/Enum" = some m.cls := findClass_of_methodNamed Bd.named
  have hnm := (name_of_methodNamed Bd.named Bd.method).1
  have hlk := BodyLoose.notSynchronized Bd
  have X0 : Stand p l e ({ frames := 0, cells := 0, slots := 0, locals := 0 } : Room) s m #[(.ref a1)] below meth c s₁ [] 0 0 := Stand.of_body Bd
  have e0 : s₁.heap = h0 := by rw [← hh, Bd.state]; rfl
  have N := Fr.nil n0
  obtain ⟨G, hG⟩ : ∃ G : State → JFrame → Prop, G = OwnG p e below s ({ frames := 0, cells := 0, slots := 0, locals := 0 } : Room).cells ({ frames := 0, cells := 0, slots := 0, locals := 0 } : Room).slots (Q_rm3 Z a1 k1 h0 n0) := ⟨_, rfl⟩
  have gb : ∀ {T T' : State} {g g' : JFrame}, (∀ t, Steps p.tables e below (T'.setTop g') t → Steps p.tables e below (T.setTop g) t) → G T' g' → G T g := by subst hG; exact fun k h => own_by k h
  have go : ∀ {T : State} {locs : List Loc} {cells slots : Nat} {g : JFrame} {v : Option Value}, Stand p l e ({ frames := 0, cells := 0, slots := 0, locals := 0 } : Room) s m #[(.ref a1)] below meth c T locs cells slots → (meth.sig.returnType = none → v = none) → (∀ fs, (∀ (f : JFrame) (acts : List Action), f.method = m → f.locked = none → f.entered = [] → (doReturn e (T.setTop f) acts v).1 = T.setFrames fs) → Steps p.tables e below (T.setTop g) (T.setFrames fs)) → (Q_rm3 Z a1 k1 h0 n0) v T.heap locs → cells ≤ ({ frames := 0, cells := 0, slots := 0, locals := 0 } : Room).cells → slots ≤ ({ frames := 0, cells := 0, slots := 0, locals := 0 } : Room).slots → G T g := by subst hG; exact fun X h1 h2 h3 h4 h5 => own_out X hlk h1 h2 h3 h4 h5
  show OwnG p e below s ({ frames := 0, cells := 0, slots := 0, locals := 0 } : Room).cells ({ frames := 0, cells := 0, slots := 0, locals := 0 } : Room).slots (Q_rm3 Z a1 k1 h0 n0) s₁ (entryFrame m #[(.ref a1)] 1)
  rw [← hG, ef_rm3 m a1]
  clear hG
  show G s₁ (mkF m 0 #[.val (.ref a1)] [])
  refine gb (fun _ k => XS.aloadN X0.here hx rfl (hb hby d3_0) rfl rfl k) ?_
  show G s₁ (mkF m 1 #[rv a1] [.ref a1])
  obtain ⟨T1, X1, e1, st1⟩ := getF X0 hx hZ hown (host := "") (Or.inl (ow hw 20 rfl)) Via.refl e0 F_o (g := (mkF m 1 #[rv a1] [.ref a1])) rfl rfl (hb hby d3_1)
  refine gb st1 ?_
  show G T1 (mkF m 4 #[rv a1] [.int k1])
  exact go X1 (v := (some (.int k1))) (fun h => by rw [Bd.returns] at h; cases h) (fun fs hr => retOut X1 hx Bd.returns rfl (Or.inl ⟨rfl, by simp, _, rfl⟩) (hb hby d3_4) hr) (⟨rfl, rfl, e1⟩) (by decide) (by decide)
def Q_rm1_0 (Z : State) (h0 : Heap) (n0 : Nat) (w_AT_LEAST : Addr) : Option Value → Heap → List Loc → Prop := fun v h L => v = some (.ref w_AT_LEAST) ∧ L = [] ∧ h = h0
set_option maxRecDepth 65536 in
set_option maxHeartbeats 40000000 in
theorem rm1_0 (l : Launch) (Z : State) (a0 : Array Value) (hw : ∀ d ∈ tables_1, d.before a0 Z = true) (ws : List Jvm.Cond) (h0 : Heap) (n0 : Nat) (O : Old Z n0 h0) (w_AT_LEAST : Addr) (S_AT_LEAST : Sta Z Z.heap "com/example/wrought_gate/wroughtgate/engine/Comparison" "AT_LEAST" "Lcom/example/wrought_gate/wroughtgate/engine/Comparison;" (.ref w_AT_LEAST)) :
    MetFree l (⟨"com/example/wrought_gate/wroughtgate/engine/ComparisonAdmitsPinLaw", "pick", "(I)Lcom/example/wrought_gate/wroughtgate/engine/Comparison;"⟩ : MethodName) (head1 (Jvm.Cond.code (⟨"com/example/wrought_gate/wroughtgate/engine/ComparisonAdmitsPinLaw", "pick", "(I)Lcom/example/wrought_gate/wroughtgate/engine/Comparison;"⟩ : MethodName) method_2_code 1 (some (.object "com/example/wrought_gate/wroughtgate/engine/Comparison")) :: ws) ({ frames := 0, cells := 0, slots := 0, locals := 0 } : Room)) (fun a U => a = #[(.int (0 : Int32))] ∧ Z.Warmed39 U.vm ∧ U.heap = h0) (fun _ _ _ _ _ => True) (fun _ U o U' => ∃ v L, o = .returned v ∧ (Q_rm1_0 Z h0 n0 w_AT_LEAST) v U'.heap L ∧ FrameEnd U o U' L ({ frames := 0, cells := 0, slots := 0, locals := 0 } : Room).cells ({ frames := 0, cells := 0, slots := 0, locals := 0 } : Room).slots) := by
  refine MetFree.of_bodySF (plainFor_of_name pn_1) hisR ?_
  intro p e s m args below meth c s₁ Bd hml0 hP hK
  obtain ⟨rfl, hZ, hh⟩ := hP
  have hx := Bd.exec
  have hby := Bd.bytes
  have hml : c.maxLocals = 1 := hml0
  have hown : s.vm.findClass "com/example/wrought_gate/wroughtgate/engine/ComparisonAdmitsPinLaw" = some m.cls := findClass_of_methodNamed Bd.named
  have hnm := (name_of_methodNamed Bd.named Bd.method).1
  have hlk := BodyLoose.notSynchronized Bd
  have X0 : Stand p l e ({ frames := 0, cells := 0, slots := 0, locals := 0 } : Room) s m #[(.int (0 : Int32))] below meth c s₁ [] 0 0 := Stand.of_body Bd
  have e0 : s₁.heap = h0 := by rw [← hh, Bd.state]; rfl
  have N := Fr.nil n0
  obtain ⟨G, hG⟩ : ∃ G : State → JFrame → Prop, G = OwnG p e below s ({ frames := 0, cells := 0, slots := 0, locals := 0 } : Room).cells ({ frames := 0, cells := 0, slots := 0, locals := 0 } : Room).slots (Q_rm1_0 Z h0 n0 w_AT_LEAST) := ⟨_, rfl⟩
  have gb : ∀ {T T' : State} {g g' : JFrame}, (∀ t, Steps p.tables e below (T'.setTop g') t → Steps p.tables e below (T.setTop g) t) → G T' g' → G T g := by subst hG; exact fun k h => own_by k h
  have go : ∀ {T : State} {locs : List Loc} {cells slots : Nat} {g : JFrame} {v : Option Value}, Stand p l e ({ frames := 0, cells := 0, slots := 0, locals := 0 } : Room) s m #[(.int (0 : Int32))] below meth c T locs cells slots → (meth.sig.returnType = none → v = none) → (∀ fs, (∀ (f : JFrame) (acts : List Action), f.method = m → f.locked = none → f.entered = [] → (doReturn e (T.setTop f) acts v).1 = T.setFrames fs) → Steps p.tables e below (T.setTop g) (T.setFrames fs)) → (Q_rm1_0 Z h0 n0 w_AT_LEAST) v T.heap locs → cells ≤ ({ frames := 0, cells := 0, slots := 0, locals := 0 } : Room).cells → slots ≤ ({ frames := 0, cells := 0, slots := 0, locals := 0 } : Room).slots → G T g := by subst hG; exact fun X h1 h2 h3 h4 h5 => own_out X hlk h1 h2 h3 h4 h5
  show OwnG p e below s ({ frames := 0, cells := 0, slots := 0, locals := 0 } : Room).cells ({ frames := 0, cells := 0, slots := 0, locals := 0 } : Room).slots (Q_rm1_0 Z h0 n0 w_AT_LEAST) s₁ (entryFrame m #[(.int (0 : Int32))] 1)
  rw [← hG, ef_rm1_0 m (0 : Int32)]
  clear hG
  show G s₁ (mkF m 0 #[.val (.int (0 : Int32))] [])
  refine gb (fun _ k => XS.iloadN X0.here hx rfl (hb hby d1_0) rfl (XS.ifNo X0.here hx rfl (hb hby d1_1) rfl ((if0 _ _).trans (teq (by decide : (0 : Int32) = (0 : Int32))).2) k)) ?_
  show G s₁ (mkF m 4 #[iv 0] [])
  obtain ⟨T1, X1, e1, st1⟩ := getS2 X0 hx hZ hown (host := "") (Or.inl (ow hw 4 rfl)) Via.refl e0 (S_AT_LEAST.ext O.2) (g := (mkF m 4 #[iv 0] [])) rfl (hb hby d1_4)
  refine gb st1 ?_
  show G T1 (mkF m 7 #[iv 0] [.ref w_AT_LEAST])
  exact go X1 (v := (some (.ref w_AT_LEAST))) (fun h => by rw [Bd.returns] at h; cases h) (fun fs hr => retOut X1 hx Bd.returns rfl (Or.inr (Or.inr (Or.inr (Or.inr ⟨rfl, rfl, rfl⟩)))) (hb hby d1_7) hr) (⟨rfl, rfl, e1⟩) (by decide) (by decide)
def Q_rm2_0 (Z : State) (a1 : Addr) (i1 : Int32) (h0 : Heap) (n0 : Nat) : Option Value → Heap → List Loc → Prop := fun v h L => v = some (.int (if ¬ (i1 < (0 : Int32)) then 1 else 0)) ∧ L = [] ∧ h = h0
set_option maxRecDepth 65536 in
set_option maxHeartbeats 40000000 in
theorem rm2_0 (l : Launch) (Z : State) (a0 : Array Value) (hw : ∀ d ∈ tables_1, d.before a0 Z = true) (ws : List Jvm.Cond) (a1 : Addr) (i1 : Int32) (h0 : Heap) (n0 : Nat) (O : Old Z n0 h0) (E_a1 : Exa Z h0 a1 "com/example/wrought_gate/wroughtgate/engine/Comparison") (F_o : Fld Z h0 a1 "java/lang/Enum" "ordinal" "I" (.int (0 : Int32))) :
    MetFree l (⟨"com/example/wrought_gate/wroughtgate/engine/Comparison", "admits", "(I)Z"⟩ : MethodName) (head1 (Jvm.Cond.code (⟨"com/example/wrought_gate/wroughtgate/engine/Comparison", "admits", "(I)Z"⟩ : MethodName) prog_10_method_4_code 2 (some .boolean) :: ws) ({ frames := 1, cells := 0, slots := 0, locals := 12 } : Room)) (fun a U => a = #[(.ref a1), (.int i1)] ∧ Z.Warmed39 U.vm ∧ U.heap = h0) (fun _ _ _ _ _ => True) (fun _ U o U' => ∃ v L, o = .returned v ∧ (Q_rm2_0 Z a1 i1 h0 n0) v U'.heap L ∧ FrameEnd U o U' L ({ frames := 1, cells := 0, slots := 0, locals := 12 } : Room).cells ({ frames := 1, cells := 0, slots := 0, locals := 12 } : Room).slots) := by
  refine MetFree.of_bodySF (plainFor_of_name pn_2) hisR ?_
  intro p e s m args below meth c s₁ Bd hml0 hP hK
  obtain ⟨rfl, hZ, hh⟩ := hP
  have hx := Bd.exec
  have hby := Bd.bytes
  have hml : c.maxLocals = 2 := hml0
  have hown : s.vm.findClass "com/example/wrought_gate/wroughtgate/engine/Comparison" = some m.cls := findClass_of_methodNamed Bd.named
  have hnm := (name_of_methodNamed Bd.named Bd.method).1
  have hlk := BodyLoose.notSynchronized Bd
  have X0 : Stand p l e ({ frames := 1, cells := 0, slots := 0, locals := 12 } : Room) s m #[(.ref a1), (.int i1)] below meth c s₁ [] 0 0 := Stand.of_body Bd
  have e0 : s₁.heap = h0 := by rw [← hh, Bd.state]; rfl
  have N := Fr.nil n0
  obtain ⟨G, hG⟩ : ∃ G : State → JFrame → Prop, G = OwnG p e below s ({ frames := 1, cells := 0, slots := 0, locals := 12 } : Room).cells ({ frames := 1, cells := 0, slots := 0, locals := 12 } : Room).slots (Q_rm2_0 Z a1 i1 h0 n0) := ⟨_, rfl⟩
  have gb : ∀ {T T' : State} {g g' : JFrame}, (∀ t, Steps p.tables e below (T'.setTop g') t → Steps p.tables e below (T.setTop g) t) → G T' g' → G T g := by subst hG; exact fun k h => own_by k h
  have go : ∀ {T : State} {locs : List Loc} {cells slots : Nat} {g : JFrame} {v : Option Value}, Stand p l e ({ frames := 1, cells := 0, slots := 0, locals := 12 } : Room) s m #[(.ref a1), (.int i1)] below meth c T locs cells slots → (meth.sig.returnType = none → v = none) → (∀ fs, (∀ (f : JFrame) (acts : List Action), f.method = m → f.locked = none → f.entered = [] → (doReturn e (T.setTop f) acts v).1 = T.setFrames fs) → Steps p.tables e below (T.setTop g) (T.setFrames fs)) → (Q_rm2_0 Z a1 i1 h0 n0) v T.heap locs → cells ≤ ({ frames := 1, cells := 0, slots := 0, locals := 12 } : Room).cells → slots ≤ ({ frames := 1, cells := 0, slots := 0, locals := 12 } : Room).slots → G T g := by subst hG; exact fun X h1 h2 h3 h4 h5 => own_out X hlk h1 h2 h3 h4 h5
  show OwnG p e below s ({ frames := 1, cells := 0, slots := 0, locals := 12 } : Room).cells ({ frames := 1, cells := 0, slots := 0, locals := 12 } : Room).slots (Q_rm2_0 Z a1 i1 h0 n0) s₁ (entryFrame m #[(.ref a1), (.int i1)] 2)
  rw [← hG, ef_rm2_0 m a1 i1]
  clear hG
  show G s₁ (mkF m 0 #[.val (.ref a1), .val (.int i1)] [])
  refine gb (fun _ k => XS.aloadN X0.here hx rfl (hb hby d2_0) rfl rfl k) ?_
  show G s₁ (mkF m 1 #[rv a1, iv i1] [.ref a1])
  obtain ⟨cq1, kq1, q1a, q1b, q1c⟩ := isOf hZ e0 E_a1
  obtain ⟨_, _, ⟨T1, L1, k1, n1⟩, -, X1, ⟨Lc1, hQ1, l1, y1, z1⟩, st1⟩ := X0.virtualBackUp hx (x := (⟨"com/example/wrought_gate/wroughtgate/engine/Comparison", "ordinal", "()I"⟩ : MethodName)) (y := (⟨"java/lang/Enum", "ordinal", "()I"⟩ : MethodName)) (owner := "java/lang/Enum") hown (mvT hZ (ow hw 13 rfl)) (mvT hZ (ow hw 14 rfl)) (mvT hZ (ow hw 15 rfl)) (by decide) (mvT hZ (ow hw 17 rfl)) (mvT hZ (ow hw 16 rfl)) (backOf (W := 0) (rm3 l Z a0 hw [] a1 (0 : Int32) h0 n0 O F_o) hZ (ow hw 19 rfl) (ow hw 18 rfl) (by decide) (by decide)) q1a q1c (g := (mkF m 1 #[rv a1, iv i1] [.ref a1])) rfl (by rw [hml]; rfl) (Steps.refl _) (argsL := []) (rest := []) (lenOf pd_0 rfl) rfl (by show 2 * 0 + _ ≤ _; exact Nat.le_of_eq rfl) (hb hby d2_1) (fun _ _ => ⟨rfl, e0, (by decide : 0 + 0 ≤ _), (by decide : 0 + 0 ≤ _)⟩)
  dsimp only [Pt.U, Pt.locs, Pt.cells, Pt.slots] at X1 l1 y1 z1 st1 hQ1
  subst l1 y1 z1
  obtain ⟨rfl, rfl, e1⟩ := hQ1
  try rw [List.append_nil] at X1
  refine gb (fun _ k => st1.trans k) ?_
  show G T1 (mkF m 4 #[rv a1, iv i1] [.int 0])
  refine gb (fun _ k => XS.tswIn X1.here hx rfl (o := 42) (pc0 := 4) (pc' := 46) rfl (hb hby d2_4) rfl (by decide) (by decide) (by decide) (by decide) (XS.iloadN X1.here hx rfl (hb hby d2_46) rfl k)) ?_
  show G T1 (mkF m 47 #[rv a1, iv i1] [.int i1])
  by_cases hc47 : i1 < (0 : Int32)
  · skip
    refine gb (fun _ k => XS.ifYes X1.here hx rfl (pc0 := 47) (pc' := 54) rfl (hb hby d2_47) rfl ((if0 _ _).trans (tlt hc47).1) (by decide) (by decide) (XS.iconst X1.here hx rfl (hb hby d2_54) (XS.goto X1.here hx rfl (pc0 := 55) (pc' := 91) rfl (hb hby d2_55) (by decide) (by decide) k))) ?_
    show G T1 (mkF m 91 #[rv a1, iv i1] [.int 0])
    exact go X1 (v := (some (.int (0 : Int32)))) (fun h => by rw [Bd.returns] at h; cases h) (fun fs hr => retOut X1 hx Bd.returns rfl (Or.inl ⟨rfl, by simp, _, rfl⟩) (hb hby d2_91) hr) (⟨by simp [hc47], rfl, e1⟩) (by decide) (by decide)
  · skip
    refine gb (fun _ k => XS.ifNo X1.here hx rfl (hb hby d2_47) rfl ((if0 _ _).trans (flt hc47).1) (XS.iconst X1.here hx rfl (hb hby d2_50) (XS.goto X1.here hx rfl (pc0 := 51) (pc' := 91) rfl (hb hby d2_51) (by decide) (by decide) k))) ?_
    show G T1 (mkF m 91 #[rv a1, iv i1] [.int 1])
    exact go X1 (v := (some (.int (1 : Int32)))) (fun h => by rw [Bd.returns] at h; cases h) (fun fs hr => retOut X1 hx Bd.returns rfl (Or.inl ⟨rfl, by simp, _, rfl⟩) (hb hby d2_91) hr) (⟨by simp [hc47], rfl, e1⟩) (by decide) (by decide)
def Q_rm1_1 (Z : State) (h0 : Heap) (n0 : Nat) (w_GREATER_THAN : Addr) : Option Value → Heap → List Loc → Prop := fun v h L => v = some (.ref w_GREATER_THAN) ∧ L = [] ∧ h = h0
set_option maxRecDepth 65536 in
set_option maxHeartbeats 40000000 in
theorem rm1_1 (l : Launch) (Z : State) (a0 : Array Value) (hw : ∀ d ∈ tables_1, d.before a0 Z = true) (ws : List Jvm.Cond) (h0 : Heap) (n0 : Nat) (O : Old Z n0 h0) (w_GREATER_THAN : Addr) (S_GREATER_THAN : Sta Z Z.heap "com/example/wrought_gate/wroughtgate/engine/Comparison" "GREATER_THAN" "Lcom/example/wrought_gate/wroughtgate/engine/Comparison;" (.ref w_GREATER_THAN)) :
    MetFree l (⟨"com/example/wrought_gate/wroughtgate/engine/ComparisonAdmitsPinLaw", "pick", "(I)Lcom/example/wrought_gate/wroughtgate/engine/Comparison;"⟩ : MethodName) (head1 (Jvm.Cond.code (⟨"com/example/wrought_gate/wroughtgate/engine/ComparisonAdmitsPinLaw", "pick", "(I)Lcom/example/wrought_gate/wroughtgate/engine/Comparison;"⟩ : MethodName) method_2_code 1 (some (.object "com/example/wrought_gate/wroughtgate/engine/Comparison")) :: ws) ({ frames := 0, cells := 0, slots := 0, locals := 0 } : Room)) (fun a U => a = #[(.int (1 : Int32))] ∧ Z.Warmed39 U.vm ∧ U.heap = h0) (fun _ _ _ _ _ => True) (fun _ U o U' => ∃ v L, o = .returned v ∧ (Q_rm1_1 Z h0 n0 w_GREATER_THAN) v U'.heap L ∧ FrameEnd U o U' L ({ frames := 0, cells := 0, slots := 0, locals := 0 } : Room).cells ({ frames := 0, cells := 0, slots := 0, locals := 0 } : Room).slots) := by
  refine MetFree.of_bodySF (plainFor_of_name pn_1) hisR ?_
  intro p e s m args below meth c s₁ Bd hml0 hP hK
  obtain ⟨rfl, hZ, hh⟩ := hP
  have hx := Bd.exec
  have hby := Bd.bytes
  have hml : c.maxLocals = 1 := hml0
  have hown : s.vm.findClass "com/example/wrought_gate/wroughtgate/engine/ComparisonAdmitsPinLaw" = some m.cls := findClass_of_methodNamed Bd.named
  have hnm := (name_of_methodNamed Bd.named Bd.method).1
  have hlk := BodyLoose.notSynchronized Bd
  have X0 : Stand p l e ({ frames := 0, cells := 0, slots := 0, locals := 0 } : Room) s m #[(.int (1 : Int32))] below meth c s₁ [] 0 0 := Stand.of_body Bd
  have e0 : s₁.heap = h0 := by rw [← hh, Bd.state]; rfl
  have N := Fr.nil n0
  obtain ⟨G, hG⟩ : ∃ G : State → JFrame → Prop, G = OwnG p e below s ({ frames := 0, cells := 0, slots := 0, locals := 0 } : Room).cells ({ frames := 0, cells := 0, slots := 0, locals := 0 } : Room).slots (Q_rm1_1 Z h0 n0 w_GREATER_THAN) := ⟨_, rfl⟩
  have gb : ∀ {T T' : State} {g g' : JFrame}, (∀ t, Steps p.tables e below (T'.setTop g') t → Steps p.tables e below (T.setTop g) t) → G T' g' → G T g := by subst hG; exact fun k h => own_by k h
  have go : ∀ {T : State} {locs : List Loc} {cells slots : Nat} {g : JFrame} {v : Option Value}, Stand p l e ({ frames := 0, cells := 0, slots := 0, locals := 0 } : Room) s m #[(.int (1 : Int32))] below meth c T locs cells slots → (meth.sig.returnType = none → v = none) → (∀ fs, (∀ (f : JFrame) (acts : List Action), f.method = m → f.locked = none → f.entered = [] → (doReturn e (T.setTop f) acts v).1 = T.setFrames fs) → Steps p.tables e below (T.setTop g) (T.setFrames fs)) → (Q_rm1_1 Z h0 n0 w_GREATER_THAN) v T.heap locs → cells ≤ ({ frames := 0, cells := 0, slots := 0, locals := 0 } : Room).cells → slots ≤ ({ frames := 0, cells := 0, slots := 0, locals := 0 } : Room).slots → G T g := by subst hG; exact fun X h1 h2 h3 h4 h5 => own_out X hlk h1 h2 h3 h4 h5
  show OwnG p e below s ({ frames := 0, cells := 0, slots := 0, locals := 0 } : Room).cells ({ frames := 0, cells := 0, slots := 0, locals := 0 } : Room).slots (Q_rm1_1 Z h0 n0 w_GREATER_THAN) s₁ (entryFrame m #[(.int (1 : Int32))] 1)
  rw [← hG, ef_rm1_1 m (1 : Int32)]
  clear hG
  show G s₁ (mkF m 0 #[.val (.int (1 : Int32))] [])
  refine gb (fun _ k => XS.iloadN X0.here hx rfl (hb hby d1_0) rfl (XS.ifYes X0.here hx rfl (pc0 := 1) (pc' := 8) rfl (hb hby d1_1) rfl ((if0 _ _).trans (feq (by decide : ¬ ((1 : Int32) = (0 : Int32)))).2) (by decide) (by decide) (XS.iloadN X0.here hx rfl (hb hby d1_8) rfl (XS.iconst X0.here hx rfl (hb hby d1_9) (XS.icmpNo X0.here hx rfl (hb hby d1_10) rfl (teq (by decide : (1 : Int32) = (1 : Int32))).2 k))))) ?_
  show G s₁ (mkF m 13 #[iv 1] [])
  obtain ⟨T1, X1, e1, st1⟩ := getS2 X0 hx hZ hown (host := "") (Or.inl (ow hw 24 rfl)) Via.refl e0 (S_GREATER_THAN.ext O.2) (g := (mkF m 13 #[iv 1] [])) rfl (hb hby d1_13)
  refine gb st1 ?_
  show G T1 (mkF m 16 #[iv 1] [.ref w_GREATER_THAN])
  exact go X1 (v := (some (.ref w_GREATER_THAN))) (fun h => by rw [Bd.returns] at h; cases h) (fun fs hr => retOut X1 hx Bd.returns rfl (Or.inr (Or.inr (Or.inr (Or.inr ⟨rfl, rfl, rfl⟩)))) (hb hby d1_16) hr) (⟨rfl, rfl, e1⟩) (by decide) (by decide)
def Q_rm2_1 (Z : State) (a1 : Addr) (i1 : Int32) (h0 : Heap) (n0 : Nat) : Option Value → Heap → List Loc → Prop := fun v h L => v = some (.int (if (0 : Int32) < i1 then 1 else 0)) ∧ L = [] ∧ h = h0
set_option maxRecDepth 65536 in
set_option maxHeartbeats 40000000 in
theorem rm2_1 (l : Launch) (Z : State) (a0 : Array Value) (hw : ∀ d ∈ tables_1, d.before a0 Z = true) (ws : List Jvm.Cond) (a1 : Addr) (i1 : Int32) (h0 : Heap) (n0 : Nat) (O : Old Z n0 h0) (E_a1 : Exa Z h0 a1 "com/example/wrought_gate/wroughtgate/engine/Comparison") (F_o : Fld Z h0 a1 "java/lang/Enum" "ordinal" "I" (.int (1 : Int32))) :
    MetFree l (⟨"com/example/wrought_gate/wroughtgate/engine/Comparison", "admits", "(I)Z"⟩ : MethodName) (head1 (Jvm.Cond.code (⟨"com/example/wrought_gate/wroughtgate/engine/Comparison", "admits", "(I)Z"⟩ : MethodName) prog_10_method_4_code 2 (some .boolean) :: ws) ({ frames := 1, cells := 0, slots := 0, locals := 12 } : Room)) (fun a U => a = #[(.ref a1), (.int i1)] ∧ Z.Warmed39 U.vm ∧ U.heap = h0) (fun _ _ _ _ _ => True) (fun _ U o U' => ∃ v L, o = .returned v ∧ (Q_rm2_1 Z a1 i1 h0 n0) v U'.heap L ∧ FrameEnd U o U' L ({ frames := 1, cells := 0, slots := 0, locals := 12 } : Room).cells ({ frames := 1, cells := 0, slots := 0, locals := 12 } : Room).slots) := by
  refine MetFree.of_bodySF (plainFor_of_name pn_2) hisR ?_
  intro p e s m args below meth c s₁ Bd hml0 hP hK
  obtain ⟨rfl, hZ, hh⟩ := hP
  have hx := Bd.exec
  have hby := Bd.bytes
  have hml : c.maxLocals = 2 := hml0
  have hown : s.vm.findClass "com/example/wrought_gate/wroughtgate/engine/Comparison" = some m.cls := findClass_of_methodNamed Bd.named
  have hnm := (name_of_methodNamed Bd.named Bd.method).1
  have hlk := BodyLoose.notSynchronized Bd
  have X0 : Stand p l e ({ frames := 1, cells := 0, slots := 0, locals := 12 } : Room) s m #[(.ref a1), (.int i1)] below meth c s₁ [] 0 0 := Stand.of_body Bd
  have e0 : s₁.heap = h0 := by rw [← hh, Bd.state]; rfl
  have N := Fr.nil n0
  obtain ⟨G, hG⟩ : ∃ G : State → JFrame → Prop, G = OwnG p e below s ({ frames := 1, cells := 0, slots := 0, locals := 12 } : Room).cells ({ frames := 1, cells := 0, slots := 0, locals := 12 } : Room).slots (Q_rm2_1 Z a1 i1 h0 n0) := ⟨_, rfl⟩
  have gb : ∀ {T T' : State} {g g' : JFrame}, (∀ t, Steps p.tables e below (T'.setTop g') t → Steps p.tables e below (T.setTop g) t) → G T' g' → G T g := by subst hG; exact fun k h => own_by k h
  have go : ∀ {T : State} {locs : List Loc} {cells slots : Nat} {g : JFrame} {v : Option Value}, Stand p l e ({ frames := 1, cells := 0, slots := 0, locals := 12 } : Room) s m #[(.ref a1), (.int i1)] below meth c T locs cells slots → (meth.sig.returnType = none → v = none) → (∀ fs, (∀ (f : JFrame) (acts : List Action), f.method = m → f.locked = none → f.entered = [] → (doReturn e (T.setTop f) acts v).1 = T.setFrames fs) → Steps p.tables e below (T.setTop g) (T.setFrames fs)) → (Q_rm2_1 Z a1 i1 h0 n0) v T.heap locs → cells ≤ ({ frames := 1, cells := 0, slots := 0, locals := 12 } : Room).cells → slots ≤ ({ frames := 1, cells := 0, slots := 0, locals := 12 } : Room).slots → G T g := by subst hG; exact fun X h1 h2 h3 h4 h5 => own_out X hlk h1 h2 h3 h4 h5
  show OwnG p e below s ({ frames := 1, cells := 0, slots := 0, locals := 12 } : Room).cells ({ frames := 1, cells := 0, slots := 0, locals := 12 } : Room).slots (Q_rm2_1 Z a1 i1 h0 n0) s₁ (entryFrame m #[(.ref a1), (.int i1)] 2)
  rw [← hG, ef_rm2_1 m a1 i1]
  clear hG
  show G s₁ (mkF m 0 #[.val (.ref a1), .val (.int i1)] [])
  refine gb (fun _ k => XS.aloadN X0.here hx rfl (hb hby d2_0) rfl rfl k) ?_
  show G s₁ (mkF m 1 #[rv a1, iv i1] [.ref a1])
  obtain ⟨cq1, kq1, q1a, q1b, q1c⟩ := isOf hZ e0 E_a1
  obtain ⟨_, _, ⟨T1, L1, k1, n1⟩, -, X1, ⟨Lc1, hQ1, l1, y1, z1⟩, st1⟩ := X0.virtualBackUp hx (x := (⟨"com/example/wrought_gate/wroughtgate/engine/Comparison", "ordinal", "()I"⟩ : MethodName)) (y := (⟨"java/lang/Enum", "ordinal", "()I"⟩ : MethodName)) (owner := "java/lang/Enum") hown (mvT hZ (ow hw 13 rfl)) (mvT hZ (ow hw 14 rfl)) (mvT hZ (ow hw 15 rfl)) (by decide) (mvT hZ (ow hw 17 rfl)) (mvT hZ (ow hw 16 rfl)) (backOf (W := 0) (rm3 l Z a0 hw [] a1 (1 : Int32) h0 n0 O F_o) hZ (ow hw 19 rfl) (ow hw 18 rfl) (by decide) (by decide)) q1a q1c (g := (mkF m 1 #[rv a1, iv i1] [.ref a1])) rfl (by rw [hml]; rfl) (Steps.refl _) (argsL := []) (rest := []) (lenOf pd_0 rfl) rfl (by show 2 * 0 + _ ≤ _; exact Nat.le_of_eq rfl) (hb hby d2_1) (fun _ _ => ⟨rfl, e0, (by decide : 0 + 0 ≤ _), (by decide : 0 + 0 ≤ _)⟩)
  dsimp only [Pt.U, Pt.locs, Pt.cells, Pt.slots] at X1 l1 y1 z1 st1 hQ1
  subst l1 y1 z1
  obtain ⟨rfl, rfl, e1⟩ := hQ1
  try rw [List.append_nil] at X1
  refine gb (fun _ k => st1.trans k) ?_
  show G T1 (mkF m 4 #[rv a1, iv i1] [.int 1])
  refine gb (fun _ k => XS.tswIn X1.here hx rfl (o := 54) (pc0 := 4) (pc' := 58) rfl (hb hby d2_4) rfl (by decide) (by decide) (by decide) (by decide) (XS.iloadN X1.here hx rfl (hb hby d2_58) rfl k)) ?_
  show G T1 (mkF m 59 #[rv a1, iv i1] [.int i1])
  by_cases hc59 : (0 : Int32) < i1
  · skip
    refine gb (fun _ k => XS.ifNo X1.here hx rfl (hb hby d2_59) rfl ((if0 _ _).trans (tlt hc59).2.2.2) (XS.iconst X1.here hx rfl (hb hby d2_62) (XS.goto X1.here hx rfl (pc0 := 63) (pc' := 91) rfl (hb hby d2_63) (by decide) (by decide) k))) ?_
    show G T1 (mkF m 91 #[rv a1, iv i1] [.int 1])
    exact go X1 (v := (some (.int (1 : Int32)))) (fun h => by rw [Bd.returns] at h; cases h) (fun fs hr => retOut X1 hx Bd.returns rfl (Or.inl ⟨rfl, by simp, _, rfl⟩) (hb hby d2_91) hr) (⟨by simp [hc59], rfl, e1⟩) (by decide) (by decide)
  · skip
    refine gb (fun _ k => XS.ifYes X1.here hx rfl (pc0 := 59) (pc' := 66) rfl (hb hby d2_59) rfl ((if0 _ _).trans (flt hc59).2.2.2) (by decide) (by decide) (XS.iconst X1.here hx rfl (hb hby d2_66) (XS.goto X1.here hx rfl (pc0 := 67) (pc' := 91) rfl (hb hby d2_67) (by decide) (by decide) k))) ?_
    show G T1 (mkF m 91 #[rv a1, iv i1] [.int 0])
    exact go X1 (v := (some (.int (0 : Int32)))) (fun h => by rw [Bd.returns] at h; cases h) (fun fs hr => retOut X1 hx Bd.returns rfl (Or.inl ⟨rfl, by simp, _, rfl⟩) (hb hby d2_91) hr) (⟨by simp [hc59], rfl, e1⟩) (by decide) (by decide)
def Q_rm1_2 (Z : State) (h0 : Heap) (n0 : Nat) (w_AT_MOST : Addr) : Option Value → Heap → List Loc → Prop := fun v h L => v = some (.ref w_AT_MOST) ∧ L = [] ∧ h = h0
set_option maxRecDepth 65536 in
set_option maxHeartbeats 40000000 in
theorem rm1_2 (l : Launch) (Z : State) (a0 : Array Value) (hw : ∀ d ∈ tables_1, d.before a0 Z = true) (ws : List Jvm.Cond) (h0 : Heap) (n0 : Nat) (O : Old Z n0 h0) (w_AT_MOST : Addr) (S_AT_MOST : Sta Z Z.heap "com/example/wrought_gate/wroughtgate/engine/Comparison" "AT_MOST" "Lcom/example/wrought_gate/wroughtgate/engine/Comparison;" (.ref w_AT_MOST)) :
    MetFree l (⟨"com/example/wrought_gate/wroughtgate/engine/ComparisonAdmitsPinLaw", "pick", "(I)Lcom/example/wrought_gate/wroughtgate/engine/Comparison;"⟩ : MethodName) (head1 (Jvm.Cond.code (⟨"com/example/wrought_gate/wroughtgate/engine/ComparisonAdmitsPinLaw", "pick", "(I)Lcom/example/wrought_gate/wroughtgate/engine/Comparison;"⟩ : MethodName) method_2_code 1 (some (.object "com/example/wrought_gate/wroughtgate/engine/Comparison")) :: ws) ({ frames := 0, cells := 0, slots := 0, locals := 0 } : Room)) (fun a U => a = #[(.int (2 : Int32))] ∧ Z.Warmed39 U.vm ∧ U.heap = h0) (fun _ _ _ _ _ => True) (fun _ U o U' => ∃ v L, o = .returned v ∧ (Q_rm1_2 Z h0 n0 w_AT_MOST) v U'.heap L ∧ FrameEnd U o U' L ({ frames := 0, cells := 0, slots := 0, locals := 0 } : Room).cells ({ frames := 0, cells := 0, slots := 0, locals := 0 } : Room).slots) := by
  refine MetFree.of_bodySF (plainFor_of_name pn_1) hisR ?_
  intro p e s m args below meth c s₁ Bd hml0 hP hK
  obtain ⟨rfl, hZ, hh⟩ := hP
  have hx := Bd.exec
  have hby := Bd.bytes
  have hml : c.maxLocals = 1 := hml0
  have hown : s.vm.findClass "com/example/wrought_gate/wroughtgate/engine/ComparisonAdmitsPinLaw" = some m.cls := findClass_of_methodNamed Bd.named
  have hnm := (name_of_methodNamed Bd.named Bd.method).1
  have hlk := BodyLoose.notSynchronized Bd
  have X0 : Stand p l e ({ frames := 0, cells := 0, slots := 0, locals := 0 } : Room) s m #[(.int (2 : Int32))] below meth c s₁ [] 0 0 := Stand.of_body Bd
  have e0 : s₁.heap = h0 := by rw [← hh, Bd.state]; rfl
  have N := Fr.nil n0
  obtain ⟨G, hG⟩ : ∃ G : State → JFrame → Prop, G = OwnG p e below s ({ frames := 0, cells := 0, slots := 0, locals := 0 } : Room).cells ({ frames := 0, cells := 0, slots := 0, locals := 0 } : Room).slots (Q_rm1_2 Z h0 n0 w_AT_MOST) := ⟨_, rfl⟩
  have gb : ∀ {T T' : State} {g g' : JFrame}, (∀ t, Steps p.tables e below (T'.setTop g') t → Steps p.tables e below (T.setTop g) t) → G T' g' → G T g := by subst hG; exact fun k h => own_by k h
  have go : ∀ {T : State} {locs : List Loc} {cells slots : Nat} {g : JFrame} {v : Option Value}, Stand p l e ({ frames := 0, cells := 0, slots := 0, locals := 0 } : Room) s m #[(.int (2 : Int32))] below meth c T locs cells slots → (meth.sig.returnType = none → v = none) → (∀ fs, (∀ (f : JFrame) (acts : List Action), f.method = m → f.locked = none → f.entered = [] → (doReturn e (T.setTop f) acts v).1 = T.setFrames fs) → Steps p.tables e below (T.setTop g) (T.setFrames fs)) → (Q_rm1_2 Z h0 n0 w_AT_MOST) v T.heap locs → cells ≤ ({ frames := 0, cells := 0, slots := 0, locals := 0 } : Room).cells → slots ≤ ({ frames := 0, cells := 0, slots := 0, locals := 0 } : Room).slots → G T g := by subst hG; exact fun X h1 h2 h3 h4 h5 => own_out X hlk h1 h2 h3 h4 h5
  show OwnG p e below s ({ frames := 0, cells := 0, slots := 0, locals := 0 } : Room).cells ({ frames := 0, cells := 0, slots := 0, locals := 0 } : Room).slots (Q_rm1_2 Z h0 n0 w_AT_MOST) s₁ (entryFrame m #[(.int (2 : Int32))] 1)
  rw [← hG, ef_rm1_2 m (2 : Int32)]
  clear hG
  show G s₁ (mkF m 0 #[.val (.int (2 : Int32))] [])
  refine gb (fun _ k => XS.iloadN X0.here hx rfl (hb hby d1_0) rfl (XS.ifYes X0.here hx rfl (pc0 := 1) (pc' := 8) rfl (hb hby d1_1) rfl ((if0 _ _).trans (feq (by decide : ¬ ((2 : Int32) = (0 : Int32)))).2) (by decide) (by decide) (XS.iloadN X0.here hx rfl (hb hby d1_8) rfl (XS.iconst X0.here hx rfl (hb hby d1_9) (XS.icmpYes X0.here hx rfl (pc0 := 10) (pc' := 17) rfl (hb hby d1_10) rfl (feq (by decide : ¬ ((2 : Int32) = (1 : Int32)))).2 (by decide) (by decide) (XS.iloadN X0.here hx rfl (hb hby d1_17) rfl k)))))) ?_
  show G s₁ (mkF m 18 #[iv 2] [.int 2])
  refine gb (fun _ k => XS.iconst X0.here hx rfl (hb hby d1_18) (XS.icmpNo X0.here hx rfl (hb hby d1_19) rfl (teq (by decide : (2 : Int32) = (2 : Int32))).2 k)) ?_
  show G s₁ (mkF m 22 #[iv 2] [])
  obtain ⟨T1, X1, e1, st1⟩ := getS2 X0 hx hZ hown (host := "") (Or.inl (ow hw 22 rfl)) Via.refl e0 (S_AT_MOST.ext O.2) (g := (mkF m 22 #[iv 2] [])) rfl (hb hby d1_22)
  refine gb st1 ?_
  show G T1 (mkF m 25 #[iv 2] [.ref w_AT_MOST])
  exact go X1 (v := (some (.ref w_AT_MOST))) (fun h => by rw [Bd.returns] at h; cases h) (fun fs hr => retOut X1 hx Bd.returns rfl (Or.inr (Or.inr (Or.inr (Or.inr ⟨rfl, rfl, rfl⟩)))) (hb hby d1_25) hr) (⟨rfl, rfl, e1⟩) (by decide) (by decide)
def Q_rm2_2 (Z : State) (a1 : Addr) (i1 : Int32) (h0 : Heap) (n0 : Nat) : Option Value → Heap → List Loc → Prop := fun v h L => v = some (.int (if ¬ ((0 : Int32) < i1) then 1 else 0)) ∧ L = [] ∧ h = h0
set_option maxRecDepth 65536 in
set_option maxHeartbeats 40000000 in
theorem rm2_2 (l : Launch) (Z : State) (a0 : Array Value) (hw : ∀ d ∈ tables_1, d.before a0 Z = true) (ws : List Jvm.Cond) (a1 : Addr) (i1 : Int32) (h0 : Heap) (n0 : Nat) (O : Old Z n0 h0) (E_a1 : Exa Z h0 a1 "com/example/wrought_gate/wroughtgate/engine/Comparison") (F_o : Fld Z h0 a1 "java/lang/Enum" "ordinal" "I" (.int (2 : Int32))) :
    MetFree l (⟨"com/example/wrought_gate/wroughtgate/engine/Comparison", "admits", "(I)Z"⟩ : MethodName) (head1 (Jvm.Cond.code (⟨"com/example/wrought_gate/wroughtgate/engine/Comparison", "admits", "(I)Z"⟩ : MethodName) prog_10_method_4_code 2 (some .boolean) :: ws) ({ frames := 1, cells := 0, slots := 0, locals := 12 } : Room)) (fun a U => a = #[(.ref a1), (.int i1)] ∧ Z.Warmed39 U.vm ∧ U.heap = h0) (fun _ _ _ _ _ => True) (fun _ U o U' => ∃ v L, o = .returned v ∧ (Q_rm2_2 Z a1 i1 h0 n0) v U'.heap L ∧ FrameEnd U o U' L ({ frames := 1, cells := 0, slots := 0, locals := 12 } : Room).cells ({ frames := 1, cells := 0, slots := 0, locals := 12 } : Room).slots) := by
  refine MetFree.of_bodySF (plainFor_of_name pn_2) hisR ?_
  intro p e s m args below meth c s₁ Bd hml0 hP hK
  obtain ⟨rfl, hZ, hh⟩ := hP
  have hx := Bd.exec
  have hby := Bd.bytes
  have hml : c.maxLocals = 2 := hml0
  have hown : s.vm.findClass "com/example/wrought_gate/wroughtgate/engine/Comparison" = some m.cls := findClass_of_methodNamed Bd.named
  have hnm := (name_of_methodNamed Bd.named Bd.method).1
  have hlk := BodyLoose.notSynchronized Bd
  have X0 : Stand p l e ({ frames := 1, cells := 0, slots := 0, locals := 12 } : Room) s m #[(.ref a1), (.int i1)] below meth c s₁ [] 0 0 := Stand.of_body Bd
  have e0 : s₁.heap = h0 := by rw [← hh, Bd.state]; rfl
  have N := Fr.nil n0
  obtain ⟨G, hG⟩ : ∃ G : State → JFrame → Prop, G = OwnG p e below s ({ frames := 1, cells := 0, slots := 0, locals := 12 } : Room).cells ({ frames := 1, cells := 0, slots := 0, locals := 12 } : Room).slots (Q_rm2_2 Z a1 i1 h0 n0) := ⟨_, rfl⟩
  have gb : ∀ {T T' : State} {g g' : JFrame}, (∀ t, Steps p.tables e below (T'.setTop g') t → Steps p.tables e below (T.setTop g) t) → G T' g' → G T g := by subst hG; exact fun k h => own_by k h
  have go : ∀ {T : State} {locs : List Loc} {cells slots : Nat} {g : JFrame} {v : Option Value}, Stand p l e ({ frames := 1, cells := 0, slots := 0, locals := 12 } : Room) s m #[(.ref a1), (.int i1)] below meth c T locs cells slots → (meth.sig.returnType = none → v = none) → (∀ fs, (∀ (f : JFrame) (acts : List Action), f.method = m → f.locked = none → f.entered = [] → (doReturn e (T.setTop f) acts v).1 = T.setFrames fs) → Steps p.tables e below (T.setTop g) (T.setFrames fs)) → (Q_rm2_2 Z a1 i1 h0 n0) v T.heap locs → cells ≤ ({ frames := 1, cells := 0, slots := 0, locals := 12 } : Room).cells → slots ≤ ({ frames := 1, cells := 0, slots := 0, locals := 12 } : Room).slots → G T g := by subst hG; exact fun X h1 h2 h3 h4 h5 => own_out X hlk h1 h2 h3 h4 h5
  show OwnG p e below s ({ frames := 1, cells := 0, slots := 0, locals := 12 } : Room).cells ({ frames := 1, cells := 0, slots := 0, locals := 12 } : Room).slots (Q_rm2_2 Z a1 i1 h0 n0) s₁ (entryFrame m #[(.ref a1), (.int i1)] 2)
  rw [← hG, ef_rm2_2 m a1 i1]
  clear hG
  show G s₁ (mkF m 0 #[.val (.ref a1), .val (.int i1)] [])
  refine gb (fun _ k => XS.aloadN X0.here hx rfl (hb hby d2_0) rfl rfl k) ?_
  show G s₁ (mkF m 1 #[rv a1, iv i1] [.ref a1])
  obtain ⟨cq1, kq1, q1a, q1b, q1c⟩ := isOf hZ e0 E_a1
  obtain ⟨_, _, ⟨T1, L1, k1, n1⟩, -, X1, ⟨Lc1, hQ1, l1, y1, z1⟩, st1⟩ := X0.virtualBackUp hx (x := (⟨"com/example/wrought_gate/wroughtgate/engine/Comparison", "ordinal", "()I"⟩ : MethodName)) (y := (⟨"java/lang/Enum", "ordinal", "()I"⟩ : MethodName)) (owner := "java/lang/Enum") hown (mvT hZ (ow hw 13 rfl)) (mvT hZ (ow hw 14 rfl)) (mvT hZ (ow hw 15 rfl)) (by decide) (mvT hZ (ow hw 17 rfl)) (mvT hZ (ow hw 16 rfl)) (backOf (W := 0) (rm3 l Z a0 hw [] a1 (2 : Int32) h0 n0 O F_o) hZ (ow hw 19 rfl) (ow hw 18 rfl) (by decide) (by decide)) q1a q1c (g := (mkF m 1 #[rv a1, iv i1] [.ref a1])) rfl (by rw [hml]; rfl) (Steps.refl _) (argsL := []) (rest := []) (lenOf pd_0 rfl) rfl (by show 2 * 0 + _ ≤ _; exact Nat.le_of_eq rfl) (hb hby d2_1) (fun _ _ => ⟨rfl, e0, (by decide : 0 + 0 ≤ _), (by decide : 0 + 0 ≤ _)⟩)
  dsimp only [Pt.U, Pt.locs, Pt.cells, Pt.slots] at X1 l1 y1 z1 st1 hQ1
  subst l1 y1 z1
  obtain ⟨rfl, rfl, e1⟩ := hQ1
  try rw [List.append_nil] at X1
  refine gb (fun _ k => st1.trans k) ?_
  show G T1 (mkF m 4 #[rv a1, iv i1] [.int 2])
  refine gb (fun _ k => XS.tswIn X1.here hx rfl (o := 66) (pc0 := 4) (pc' := 70) rfl (hb hby d2_4) rfl (by decide) (by decide) (by decide) (by decide) (XS.iloadN X1.here hx rfl (hb hby d2_70) rfl k)) ?_
  show G T1 (mkF m 71 #[rv a1, iv i1] [.int i1])
  by_cases hc71 : (0 : Int32) < i1
  · skip
    refine gb (fun _ k => XS.ifYes X1.here hx rfl (pc0 := 71) (pc' := 78) rfl (hb hby d2_71) rfl ((if0 _ _).trans (tlt hc71).2.2.1) (by decide) (by decide) (XS.iconst X1.here hx rfl (hb hby d2_78) (XS.goto X1.here hx rfl (pc0 := 79) (pc' := 91) rfl (hb hby d2_79) (by decide) (by decide) k))) ?_
    show G T1 (mkF m 91 #[rv a1, iv i1] [.int 0])
    exact go X1 (v := (some (.int (0 : Int32)))) (fun h => by rw [Bd.returns] at h; cases h) (fun fs hr => retOut X1 hx Bd.returns rfl (Or.inl ⟨rfl, by simp, _, rfl⟩) (hb hby d2_91) hr) (⟨by simp [hc71], rfl, e1⟩) (by decide) (by decide)
  · skip
    refine gb (fun _ k => XS.ifNo X1.here hx rfl (hb hby d2_71) rfl ((if0 _ _).trans (flt hc71).2.2.1) (XS.iconst X1.here hx rfl (hb hby d2_74) (XS.goto X1.here hx rfl (pc0 := 75) (pc' := 91) rfl (hb hby d2_75) (by decide) (by decide) k))) ?_
    show G T1 (mkF m 91 #[rv a1, iv i1] [.int 1])
    exact go X1 (v := (some (.int (1 : Int32)))) (fun h => by rw [Bd.returns] at h; cases h) (fun fs hr => retOut X1 hx Bd.returns rfl (Or.inl ⟨rfl, by simp, _, rfl⟩) (hb hby d2_91) hr) (⟨by simp [hc71], rfl, e1⟩) (by decide) (by decide)
def Q_rm1_3 (Z : State) (h0 : Heap) (n0 : Nat) (w_LESS_THAN : Addr) : Option Value → Heap → List Loc → Prop := fun v h L => v = some (.ref w_LESS_THAN) ∧ L = [] ∧ h = h0
set_option maxRecDepth 65536 in
set_option maxHeartbeats 40000000 in
theorem rm1_3 (l : Launch) (Z : State) (a0 : Array Value) (hw : ∀ d ∈ tables_1, d.before a0 Z = true) (ws : List Jvm.Cond) (h0 : Heap) (n0 : Nat) (O : Old Z n0 h0) (w_LESS_THAN : Addr) (S_LESS_THAN : Sta Z Z.heap "com/example/wrought_gate/wroughtgate/engine/Comparison" "LESS_THAN" "Lcom/example/wrought_gate/wroughtgate/engine/Comparison;" (.ref w_LESS_THAN)) :
    MetFree l (⟨"com/example/wrought_gate/wroughtgate/engine/ComparisonAdmitsPinLaw", "pick", "(I)Lcom/example/wrought_gate/wroughtgate/engine/Comparison;"⟩ : MethodName) (head1 (Jvm.Cond.code (⟨"com/example/wrought_gate/wroughtgate/engine/ComparisonAdmitsPinLaw", "pick", "(I)Lcom/example/wrought_gate/wroughtgate/engine/Comparison;"⟩ : MethodName) method_2_code 1 (some (.object "com/example/wrought_gate/wroughtgate/engine/Comparison")) :: ws) ({ frames := 0, cells := 0, slots := 0, locals := 0 } : Room)) (fun a U => a = #[(.int (3 : Int32))] ∧ Z.Warmed39 U.vm ∧ U.heap = h0) (fun _ _ _ _ _ => True) (fun _ U o U' => ∃ v L, o = .returned v ∧ (Q_rm1_3 Z h0 n0 w_LESS_THAN) v U'.heap L ∧ FrameEnd U o U' L ({ frames := 0, cells := 0, slots := 0, locals := 0 } : Room).cells ({ frames := 0, cells := 0, slots := 0, locals := 0 } : Room).slots) := by
  refine MetFree.of_bodySF (plainFor_of_name pn_1) hisR ?_
  intro p e s m args below meth c s₁ Bd hml0 hP hK
  obtain ⟨rfl, hZ, hh⟩ := hP
  have hx := Bd.exec
  have hby := Bd.bytes
  have hml : c.maxLocals = 1 := hml0
  have hown : s.vm.findClass "com/example/wrought_gate/wroughtgate/engine/ComparisonAdmitsPinLaw" = some m.cls := findClass_of_methodNamed Bd.named
  have hnm := (name_of_methodNamed Bd.named Bd.method).1
  have hlk := BodyLoose.notSynchronized Bd
  have X0 : Stand p l e ({ frames := 0, cells := 0, slots := 0, locals := 0 } : Room) s m #[(.int (3 : Int32))] below meth c s₁ [] 0 0 := Stand.of_body Bd
  have e0 : s₁.heap = h0 := by rw [← hh, Bd.state]; rfl
  have N := Fr.nil n0
  obtain ⟨G, hG⟩ : ∃ G : State → JFrame → Prop, G = OwnG p e below s ({ frames := 0, cells := 0, slots := 0, locals := 0 } : Room).cells ({ frames := 0, cells := 0, slots := 0, locals := 0 } : Room).slots (Q_rm1_3 Z h0 n0 w_LESS_THAN) := ⟨_, rfl⟩
  have gb : ∀ {T T' : State} {g g' : JFrame}, (∀ t, Steps p.tables e below (T'.setTop g') t → Steps p.tables e below (T.setTop g) t) → G T' g' → G T g := by subst hG; exact fun k h => own_by k h
  have go : ∀ {T : State} {locs : List Loc} {cells slots : Nat} {g : JFrame} {v : Option Value}, Stand p l e ({ frames := 0, cells := 0, slots := 0, locals := 0 } : Room) s m #[(.int (3 : Int32))] below meth c T locs cells slots → (meth.sig.returnType = none → v = none) → (∀ fs, (∀ (f : JFrame) (acts : List Action), f.method = m → f.locked = none → f.entered = [] → (doReturn e (T.setTop f) acts v).1 = T.setFrames fs) → Steps p.tables e below (T.setTop g) (T.setFrames fs)) → (Q_rm1_3 Z h0 n0 w_LESS_THAN) v T.heap locs → cells ≤ ({ frames := 0, cells := 0, slots := 0, locals := 0 } : Room).cells → slots ≤ ({ frames := 0, cells := 0, slots := 0, locals := 0 } : Room).slots → G T g := by subst hG; exact fun X h1 h2 h3 h4 h5 => own_out X hlk h1 h2 h3 h4 h5
  show OwnG p e below s ({ frames := 0, cells := 0, slots := 0, locals := 0 } : Room).cells ({ frames := 0, cells := 0, slots := 0, locals := 0 } : Room).slots (Q_rm1_3 Z h0 n0 w_LESS_THAN) s₁ (entryFrame m #[(.int (3 : Int32))] 1)
  rw [← hG, ef_rm1_3 m (3 : Int32)]
  clear hG
  show G s₁ (mkF m 0 #[.val (.int (3 : Int32))] [])
  refine gb (fun _ k => XS.iloadN X0.here hx rfl (hb hby d1_0) rfl (XS.ifYes X0.here hx rfl (pc0 := 1) (pc' := 8) rfl (hb hby d1_1) rfl ((if0 _ _).trans (feq (by decide : ¬ ((3 : Int32) = (0 : Int32)))).2) (by decide) (by decide) (XS.iloadN X0.here hx rfl (hb hby d1_8) rfl (XS.iconst X0.here hx rfl (hb hby d1_9) (XS.icmpYes X0.here hx rfl (pc0 := 10) (pc' := 17) rfl (hb hby d1_10) rfl (feq (by decide : ¬ ((3 : Int32) = (1 : Int32)))).2 (by decide) (by decide) (XS.iloadN X0.here hx rfl (hb hby d1_17) rfl k)))))) ?_
  show G s₁ (mkF m 18 #[iv 3] [.int 3])
  refine gb (fun _ k => XS.iconst X0.here hx rfl (hb hby d1_18) (XS.icmpYes X0.here hx rfl (pc0 := 19) (pc' := 26) rfl (hb hby d1_19) rfl (feq (by decide : ¬ ((3 : Int32) = (2 : Int32)))).2 (by decide) (by decide) k)) ?_
  show G s₁ (mkF m 26 #[iv 3] [])
  obtain ⟨T1, X1, e1, st1⟩ := getS2 X0 hx hZ hown (host := "") (Or.inl (ow hw 26 rfl)) Via.refl e0 (S_LESS_THAN.ext O.2) (g := (mkF m 26 #[iv 3] [])) rfl (hb hby d1_26)
  refine gb st1 ?_
  show G T1 (mkF m 29 #[iv 3] [.ref w_LESS_THAN])
  exact go X1 (v := (some (.ref w_LESS_THAN))) (fun h => by rw [Bd.returns] at h; cases h) (fun fs hr => retOut X1 hx Bd.returns rfl (Or.inr (Or.inr (Or.inr (Or.inr ⟨rfl, rfl, rfl⟩)))) (hb hby d1_29) hr) (⟨rfl, rfl, e1⟩) (by decide) (by decide)
def Q_rm2_3 (Z : State) (a1 : Addr) (i1 : Int32) (h0 : Heap) (n0 : Nat) : Option Value → Heap → List Loc → Prop := fun v h L => v = some (.int (if i1 < (0 : Int32) then 1 else 0)) ∧ L = [] ∧ h = h0
set_option maxRecDepth 65536 in
set_option maxHeartbeats 40000000 in
theorem rm2_3 (l : Launch) (Z : State) (a0 : Array Value) (hw : ∀ d ∈ tables_1, d.before a0 Z = true) (ws : List Jvm.Cond) (a1 : Addr) (i1 : Int32) (h0 : Heap) (n0 : Nat) (O : Old Z n0 h0) (E_a1 : Exa Z h0 a1 "com/example/wrought_gate/wroughtgate/engine/Comparison") (F_o : Fld Z h0 a1 "java/lang/Enum" "ordinal" "I" (.int (3 : Int32))) :
    MetFree l (⟨"com/example/wrought_gate/wroughtgate/engine/Comparison", "admits", "(I)Z"⟩ : MethodName) (head1 (Jvm.Cond.code (⟨"com/example/wrought_gate/wroughtgate/engine/Comparison", "admits", "(I)Z"⟩ : MethodName) prog_10_method_4_code 2 (some .boolean) :: ws) ({ frames := 1, cells := 0, slots := 0, locals := 12 } : Room)) (fun a U => a = #[(.ref a1), (.int i1)] ∧ Z.Warmed39 U.vm ∧ U.heap = h0) (fun _ _ _ _ _ => True) (fun _ U o U' => ∃ v L, o = .returned v ∧ (Q_rm2_3 Z a1 i1 h0 n0) v U'.heap L ∧ FrameEnd U o U' L ({ frames := 1, cells := 0, slots := 0, locals := 12 } : Room).cells ({ frames := 1, cells := 0, slots := 0, locals := 12 } : Room).slots) := by
  refine MetFree.of_bodySF (plainFor_of_name pn_2) hisR ?_
  intro p e s m args below meth c s₁ Bd hml0 hP hK
  obtain ⟨rfl, hZ, hh⟩ := hP
  have hx := Bd.exec
  have hby := Bd.bytes
  have hml : c.maxLocals = 2 := hml0
  have hown : s.vm.findClass "com/example/wrought_gate/wroughtgate/engine/Comparison" = some m.cls := findClass_of_methodNamed Bd.named
  have hnm := (name_of_methodNamed Bd.named Bd.method).1
  have hlk := BodyLoose.notSynchronized Bd
  have X0 : Stand p l e ({ frames := 1, cells := 0, slots := 0, locals := 12 } : Room) s m #[(.ref a1), (.int i1)] below meth c s₁ [] 0 0 := Stand.of_body Bd
  have e0 : s₁.heap = h0 := by rw [← hh, Bd.state]; rfl
  have N := Fr.nil n0
  obtain ⟨G, hG⟩ : ∃ G : State → JFrame → Prop, G = OwnG p e below s ({ frames := 1, cells := 0, slots := 0, locals := 12 } : Room).cells ({ frames := 1, cells := 0, slots := 0, locals := 12 } : Room).slots (Q_rm2_3 Z a1 i1 h0 n0) := ⟨_, rfl⟩
  have gb : ∀ {T T' : State} {g g' : JFrame}, (∀ t, Steps p.tables e below (T'.setTop g') t → Steps p.tables e below (T.setTop g) t) → G T' g' → G T g := by subst hG; exact fun k h => own_by k h
  have go : ∀ {T : State} {locs : List Loc} {cells slots : Nat} {g : JFrame} {v : Option Value}, Stand p l e ({ frames := 1, cells := 0, slots := 0, locals := 12 } : Room) s m #[(.ref a1), (.int i1)] below meth c T locs cells slots → (meth.sig.returnType = none → v = none) → (∀ fs, (∀ (f : JFrame) (acts : List Action), f.method = m → f.locked = none → f.entered = [] → (doReturn e (T.setTop f) acts v).1 = T.setFrames fs) → Steps p.tables e below (T.setTop g) (T.setFrames fs)) → (Q_rm2_3 Z a1 i1 h0 n0) v T.heap locs → cells ≤ ({ frames := 1, cells := 0, slots := 0, locals := 12 } : Room).cells → slots ≤ ({ frames := 1, cells := 0, slots := 0, locals := 12 } : Room).slots → G T g := by subst hG; exact fun X h1 h2 h3 h4 h5 => own_out X hlk h1 h2 h3 h4 h5
  show OwnG p e below s ({ frames := 1, cells := 0, slots := 0, locals := 12 } : Room).cells ({ frames := 1, cells := 0, slots := 0, locals := 12 } : Room).slots (Q_rm2_3 Z a1 i1 h0 n0) s₁ (entryFrame m #[(.ref a1), (.int i1)] 2)
  rw [← hG, ef_rm2_3 m a1 i1]
  clear hG
  show G s₁ (mkF m 0 #[.val (.ref a1), .val (.int i1)] [])
  refine gb (fun _ k => XS.aloadN X0.here hx rfl (hb hby d2_0) rfl rfl k) ?_
  show G s₁ (mkF m 1 #[rv a1, iv i1] [.ref a1])
  obtain ⟨cq1, kq1, q1a, q1b, q1c⟩ := isOf hZ e0 E_a1
  obtain ⟨_, _, ⟨T1, L1, k1, n1⟩, -, X1, ⟨Lc1, hQ1, l1, y1, z1⟩, st1⟩ := X0.virtualBackUp hx (x := (⟨"com/example/wrought_gate/wroughtgate/engine/Comparison", "ordinal", "()I"⟩ : MethodName)) (y := (⟨"java/lang/Enum", "ordinal", "()I"⟩ : MethodName)) (owner := "java/lang/Enum") hown (mvT hZ (ow hw 13 rfl)) (mvT hZ (ow hw 14 rfl)) (mvT hZ (ow hw 15 rfl)) (by decide) (mvT hZ (ow hw 17 rfl)) (mvT hZ (ow hw 16 rfl)) (backOf (W := 0) (rm3 l Z a0 hw [] a1 (3 : Int32) h0 n0 O F_o) hZ (ow hw 19 rfl) (ow hw 18 rfl) (by decide) (by decide)) q1a q1c (g := (mkF m 1 #[rv a1, iv i1] [.ref a1])) rfl (by rw [hml]; rfl) (Steps.refl _) (argsL := []) (rest := []) (lenOf pd_0 rfl) rfl (by show 2 * 0 + _ ≤ _; exact Nat.le_of_eq rfl) (hb hby d2_1) (fun _ _ => ⟨rfl, e0, (by decide : 0 + 0 ≤ _), (by decide : 0 + 0 ≤ _)⟩)
  dsimp only [Pt.U, Pt.locs, Pt.cells, Pt.slots] at X1 l1 y1 z1 st1 hQ1
  subst l1 y1 z1
  obtain ⟨rfl, rfl, e1⟩ := hQ1
  try rw [List.append_nil] at X1
  refine gb (fun _ k => st1.trans k) ?_
  show G T1 (mkF m 4 #[rv a1, iv i1] [.int 3])
  refine gb (fun _ k => XS.tswIn X1.here hx rfl (o := 78) (pc0 := 4) (pc' := 82) rfl (hb hby d2_4) rfl (by decide) (by decide) (by decide) (by decide) (XS.iloadN X1.here hx rfl (hb hby d2_82) rfl k)) ?_
  show G T1 (mkF m 83 #[rv a1, iv i1] [.int i1])
  by_cases hc83 : i1 < (0 : Int32)
  · skip
    refine gb (fun _ k => XS.ifNo X1.here hx rfl (hb hby d2_83) rfl ((if0 _ _).trans (tlt hc83).2.1) (XS.iconst X1.here hx rfl (hb hby d2_86) (XS.goto X1.here hx rfl (pc0 := 87) (pc' := 91) rfl (hb hby d2_87) (by decide) (by decide) k))) ?_
    show G T1 (mkF m 91 #[rv a1, iv i1] [.int 1])
    exact go X1 (v := (some (.int (1 : Int32)))) (fun h => by rw [Bd.returns] at h; cases h) (fun fs hr => retOut X1 hx Bd.returns rfl (Or.inl ⟨rfl, by simp, _, rfl⟩) (hb hby d2_91) hr) (⟨by simp [hc83], rfl, e1⟩) (by decide) (by decide)
  · skip
    refine gb (fun _ k => XS.ifYes X1.here hx rfl (pc0 := 83) (pc' := 90) rfl (hb hby d2_83) rfl ((if0 _ _).trans (flt hc83).2.1) (by decide) (by decide) (XS.iconst X1.here hx rfl (hb hby d2_90) k)) ?_
    show G T1 (mkF m 91 #[rv a1, iv i1] [.int 0])
    exact go X1 (v := (some (.int (0 : Int32)))) (fun h => by rw [Bd.returns] at h; cases h) (fun fs hr => retOut X1 hx Bd.returns rfl (Or.inl ⟨rfl, by simp, _, rfl⟩) (hb hby d2_91) hr) (⟨by simp [hc83], rfl, e1⟩) (by decide) (by decide)
def Q_rm0 (Z : State) (i0 i1 : Int32) (h0 : Heap) (n0 : Nat) (w_AT_LEAST : Addr) (w_GREATER_THAN : Addr) (w_AT_MOST : Addr) (w_LESS_THAN : Addr) : Option Value → Heap → List Loc → Prop := fun v h L => v = some (.int 1) ∧ Fr n0 L
set_option maxRecDepth 65536 in
set_option maxHeartbeats 40000000 in
theorem rm0 (l : Launch) (Z : State) (a0 : Array Value) (hw : ∀ d ∈ tables_1, d.before a0 Z = true) (ws : List Jvm.Cond) (i0 i1 : Int32) (h0 : Heap) (n0 : Nat) (O : Old Z n0 h0) (w_AT_LEAST : Addr) (S_AT_LEAST : Sta Z Z.heap "com/example/wrought_gate/wroughtgate/engine/Comparison" "AT_LEAST" "Lcom/example/wrought_gate/wroughtgate/engine/Comparison;" (.ref w_AT_LEAST)) (E_AT_LEAST : Exa Z Z.heap w_AT_LEAST "com/example/wrought_gate/wroughtgate/engine/Comparison") (F_ordinal_AT_LEAST : Fld Z Z.heap w_AT_LEAST "java/lang/Enum" "ordinal" "I" (.int (0 : Int32))) (w_GREATER_THAN : Addr) (S_GREATER_THAN : Sta Z Z.heap "com/example/wrought_gate/wroughtgate/engine/Comparison" "GREATER_THAN" "Lcom/example/wrought_gate/wroughtgate/engine/Comparison;" (.ref w_GREATER_THAN)) (E_GREATER_THAN : Exa Z Z.heap w_GREATER_THAN "com/example/wrought_gate/wroughtgate/engine/Comparison") (F_ordinal_GREATER_THAN : Fld Z Z.heap w_GREATER_THAN "java/lang/Enum" "ordinal" "I" (.int (1 : Int32))) (w_AT_MOST : Addr) (S_AT_MOST : Sta Z Z.heap "com/example/wrought_gate/wroughtgate/engine/Comparison" "AT_MOST" "Lcom/example/wrought_gate/wroughtgate/engine/Comparison;" (.ref w_AT_MOST)) (E_AT_MOST : Exa Z Z.heap w_AT_MOST "com/example/wrought_gate/wroughtgate/engine/Comparison") (F_ordinal_AT_MOST : Fld Z Z.heap w_AT_MOST "java/lang/Enum" "ordinal" "I" (.int (2 : Int32))) (w_LESS_THAN : Addr) (S_LESS_THAN : Sta Z Z.heap "com/example/wrought_gate/wroughtgate/engine/Comparison" "LESS_THAN" "Lcom/example/wrought_gate/wroughtgate/engine/Comparison;" (.ref w_LESS_THAN)) (E_LESS_THAN : Exa Z Z.heap w_LESS_THAN "com/example/wrought_gate/wroughtgate/engine/Comparison") (F_ordinal_LESS_THAN : Fld Z Z.heap w_LESS_THAN "java/lang/Enum" "ordinal" "I" (.int (3 : Int32))) :
    MetFree l x (head1 (Jvm.Cond.code x code maxLocals ret :: ws) room_1) (fun a U => a = #[(.int i0), (.int i1)] ∧ Z.Warmed39 U.vm ∧ U.heap = h0 ∧ U = Z) (fun _ _ _ _ _ => True) (fun _ U o U' => ∃ v L, o = .returned v ∧ (Q_rm0 Z i0 i1 h0 n0 w_AT_LEAST w_GREATER_THAN w_AT_MOST w_LESS_THAN) v U'.heap L ∧ FrameEnd U o U' L 1 12) := by
  refine MetFree.of_bodySF (plainFor_of_name pn_1) hisR ?_
  intro p e s m args below meth c s₁ Bd hml0 hP hK
  obtain ⟨rfl, hZ, hh, hUZ⟩ := hP
  have hx := Bd.exec
  have hby := Bd.bytes
  have hml : c.maxLocals = 7 := hml0
  have hown : s.vm.findClass "com/example/wrought_gate/wroughtgate/engine/ComparisonAdmitsPinLaw" = some m.cls := findClass_of_methodNamed Bd.named
  have hnm := (name_of_methodNamed Bd.named Bd.method).1
  have hlk := BodyLoose.notSynchronized Bd
  have X0 : Stand p l e room_1 s m #[(.int i0), (.int i1)] below meth c s₁ [] 0 0 := Stand.of_body Bd
  have e0 : s₁.heap = h0 := by rw [← hh, Bd.state]; rfl
  have N := Fr.nil n0
  have O0 := O
  obtain ⟨G, hG⟩ : ∃ G : State → JFrame → Prop, G = OwnG p e below s 1 12 (Q_rm0 Z i0 i1 h0 n0 w_AT_LEAST w_GREATER_THAN w_AT_MOST w_LESS_THAN) := ⟨_, rfl⟩
  have gb : ∀ {T T' : State} {g g' : JFrame}, (∀ t, Steps p.tables e below (T'.setTop g') t → Steps p.tables e below (T.setTop g) t) → G T' g' → G T g := by subst hG; exact fun k h => own_by k h
  have go : ∀ {T : State} {locs : List Loc} {cells slots : Nat} {g : JFrame} {v : Option Value}, Stand p l e room_1 s m #[(.int i0), (.int i1)] below meth c T locs cells slots → (meth.sig.returnType = none → v = none) → (∀ fs, (∀ (f : JFrame) (acts : List Action), f.method = m → f.locked = none → f.entered = [] → (doReturn e (T.setTop f) acts v).1 = T.setFrames fs) → Steps p.tables e below (T.setTop g) (T.setFrames fs)) → (Q_rm0 Z i0 i1 h0 n0 w_AT_LEAST w_GREATER_THAN w_AT_MOST w_LESS_THAN) v T.heap locs → cells ≤ 1 → slots ≤ 12 → G T g := by subst hG; exact fun X h1 h2 h3 h4 h5 => own_out X hlk h1 h2 h3 h4 h5
  show OwnG p e below s 1 12 (Q_rm0 Z i0 i1 h0 n0 w_AT_LEAST w_GREATER_THAN w_AT_MOST w_LESS_THAN) s₁ (entryFrame m #[(.int i0), (.int i1)] maxLocals)
  rw [← hG, ef_rm0 m i0 i1]
  clear hG
  show G s₁ (mkF m 0 #[.val (.int i0), .val (.int i1), .unset, .unset, .unset, .unset, .unset] [])
  refine gb (fun _ k => XS.iloadN X0.here hx rfl (hb hby at_0) rfl (XS.iconst X0.here hx rfl (hb hby at_1) (XS.iand X0.here hx rfl (hb hby at_2) rfl (XS.istoreN X0.here hx rfl (hb hby at_3) rfl (l' := #[iv i0, iv i1, iv (i0 &&& (3 : Int32)), .unset, .unset, .unset, .unset]) rfl k)))) ?_
  show G s₁ (mkF m 4 #[iv i0, iv i1, iv (i0 &&& (3 : Int32)), .unset, .unset, .unset, .unset] [])
  rcases own_and3 i0 with hk | hk | hk | hk
  · skip
    rw [hk]
    show G s₁ (mkF m 4 #[iv i0, iv i1, iv 0, .unset, .unset, .unset, .unset] [])
    refine gb (fun _ k => XS.iloadN X0.here hx rfl (hb hby at_4) rfl k) ?_
    show G s₁ (mkF m 5 #[iv i0, iv i1, iv 0, .unset, .unset, .unset, .unset] [.int 0])
    obtain ⟨_, _, ⟨T1, L1, k1, n1⟩, -, X1, ⟨Lc1, hQ1, l1, y1, z1⟩, st1⟩ := Jvm.LawKit.callS X0 hx (y := (⟨"com/example/wrought_gate/wroughtgate/engine/ComparisonAdmitsPinLaw", "pick", "(I)Lcom/example/wrought_gate/wroughtgate/engine/Comparison;"⟩ : MethodName)) hown (mvT hZ (ow hw 0 rfl)) (mvT hZ (ow hw 1 rfl)) (mvT hZ (ow hw 2 rfl)) (mvT hZ (ow hw 3 rfl)) (by decide) (backOf (W := 0) (rm1_0 l Z a0 hw [] h0 n0 O w_AT_LEAST S_AT_LEAST) hZ (ow hw 3 rfl) (ow hw 2 rfl) (by decide) (by decide)) (g := (mkF m 5 #[iv i0, iv i1, iv 0, .unset, .unset, .unset, .unset] [.int 0])) rfl (by rw [hml]; rfl) (argsL := [(.int (0 : Int32))]) (rest := []) (lenOf pd_1 rfl) rfl (by show 2 * 0 + _ ≤ _; exact Nat.le_of_eq rfl) (hb hby at_5) (fun _ _ => ⟨rfl, e0, (by decide : 0 + 0 ≤ _), (by decide : 0 + 0 ≤ _)⟩)
    dsimp only [Pt.U, Pt.locs, Pt.cells, Pt.slots] at X1 l1 y1 z1 st1 hQ1
    subst l1 y1 z1
    obtain ⟨rfl, rfl, e1⟩ := hQ1
    try rw [List.append_nil] at X1
    refine gb st1 ?_
    show G T1 (mkF m 8 #[iv i0, iv i1, iv 0, .unset, .unset, .unset, .unset] [.ref w_AT_LEAST])
    refine gb (fun _ k => XS.astoreN X1.here hx rfl (hb hby at_8) rfl rfl (l' := #[iv i0, iv i1, iv 0, rv w_AT_LEAST, .unset, .unset, .unset]) rfl (XS.iloadN X1.here hx rfl (hb hby at_9) rfl k)) ?_
    show G T1 (mkF m 10 #[iv i0, iv i1, iv 0, rv w_AT_LEAST, .unset, .unset, .unset] [.int i1])
    by_cases hc10 : (0 : Int32) < i1
    · skip
      refine gb (fun _ k => XS.ifNo X1.here hx rfl (hb hby at_10) rfl ((if0 _ _).trans (tlt hc10).2.2.2) (XS.iconst X1.here hx rfl (hb hby at_13) (XS.goto X1.here hx rfl (pc0 := 14) (pc' := 26) rfl (hb hby at_14) (by decide) (by decide) k))) ?_
      show G T1 (mkF m 26 #[iv i0, iv i1, iv 0, rv w_AT_LEAST, .unset, .unset, .unset] [.int 1])
      have hB : (0 : Int32) < i1 := hc10
      have hA : ¬ (i1 < (0 : Int32)) := own_asym hB
      refine gb (fun _ k => XS.istore X1.here hx rfl (hb hby at_26) rfl (l' := #[iv i0, iv i1, iv 0, rv w_AT_LEAST, iv 1, .unset, .unset]) rfl (XS.bipush X1.here hx rfl (hb hby at_28) k)) ?_
      show G T1 (mkF m 30 #[iv i0, iv i1, iv 0, rv w_AT_LEAST, iv 1, .unset, .unset] [.int 12])
      obtain ⟨T2, h2, k2, X2, e2, E2, A2, st2⟩ := newP X1 hx hZ (ow hw 7 rfl) e1 (g := (mkF m 30 #[iv i0, iv i1, iv 0, rv w_AT_LEAST, iv 1, .unset, .unset] [.int 12])) rfl (hb hby at_30) rfl (by decide) (cap := 12) (by decide) (by decide) (by decide) (by decide)
      obtain ⟨b2, g2⟩ : ∃ z, z = h0.size := ⟨_, rfl⟩
      rw [← g2] at A2 st2
      have g_b2 : n0 ≤ b2 := Nat.le_trans (by have := O.2.1; rw [O.1] at this; exact this) (Nat.le_of_eq g2.symm)
      have O := O.ext E2
      have V_b2 : Arv Z h2 b2 k2 .boolean (12 : Int32) [(.int (0 : Int32)), (.int (0 : Int32)), (.int (0 : Int32)), (.int (0 : Int32)), (.int (0 : Int32)), (.int (0 : Int32)), (.int (0 : Int32)), (.int (0 : Int32)), (.int (0 : Int32)), (.int (0 : Int32)), (.int (0 : Int32)), (.int (0 : Int32))] (.int (0 : Int32)) := (Arv.new A2 (by decide)).pad (pad_rep [] (.int (0 : Int32)) 12)
      refine gb st2 ?_
      show G T2 (mkF m 32 #[iv i0, iv i1, iv 0, rv w_AT_LEAST, iv 1, .unset, .unset] [.ref b2])
      refine gb (fun _ k => XS.dup X2.here hx rfl (hb hby at_32) rfl rfl (XS.iconst X2.here hx rfl (hb hby at_33) (XS.iconst X2.here hx rfl (hb hby at_34) k))) ?_
      show G T2 (mkF m 35 #[iv i0, iv i1, iv 0, rv w_AT_LEAST, iv 1, .unset, .unset] [.int 0, .int 0, .ref b2, .ref b2])
      have V'3 := V_b2
      obtain ⟨cl3, Ar3, qk3, sz3, nn3, hs3, ft3⟩ := V'3
      have hin3 : ¬ ((0 : Int32) < 0 ∨ cl3.slots.size ≤ ((0 : Int32)).toNatClampNeg) := inb_of sz3 ⟨by decide, by decide⟩
      obtain ⟨T4, h4, X4, e4, W4, st4⟩ := stZ X2 hx hZ e2 Ar3 (j := (0 : Int32)) hin3 (g := (mkF m 35 #[iv i0, iv i1, iv 0, rv w_AT_LEAST, iv 1, .unset, .unset] [.int 0, .int 0, .ref b2, .ref b2])) rfl rfl (hb hby at_35)
      have V_b2 : Arv Z h4 b2 k2 .boolean (12 : Int32) [(.int (nar .boolean (0 : Int32))), (.int (0 : Int32)), (.int (0 : Int32)), (.int (0 : Int32)), (.int (0 : Int32)), (.int (0 : Int32)), (.int (0 : Int32)), (.int (0 : Int32)), (.int (0 : Int32)), (.int (0 : Int32)), (.int (0 : Int32)), (.int (0 : Int32))] (.int (0 : Int32)) := Arv.set Ar3 qk3 sz3 nn3 hs3 ft3 (fits_nar_bool _) W4 0 rfl (Nat.le_of_ble_eq_true rfl)
      have O := O.wr W4 g_b2
      have N := Fr.snoc X4 N g_b2
      refine gb st4 ?_
      show G T4 (mkF m 36 #[iv i0, iv i1, iv 0, rv w_AT_LEAST, iv 1, .unset, .unset] [.ref b2])
      refine gb (fun _ k => XS.dup X4.here hx rfl (hb hby at_36) rfl rfl (XS.iconst X4.here hx rfl (hb hby at_37) (XS.iconst X4.here hx rfl (hb hby at_38) k))) ?_
      show G T4 (mkF m 39 #[iv i0, iv i1, iv 0, rv w_AT_LEAST, iv 1, .unset, .unset] [.int 1, .int 1, .ref b2, .ref b2])
      have V'5 := V_b2
      obtain ⟨cl5, Ar5, qk5, sz5, nn5, hs5, ft5⟩ := V'5
      have hin5 : ¬ ((1 : Int32) < 0 ∨ cl5.slots.size ≤ ((1 : Int32)).toNatClampNeg) := inb_of sz5 ⟨by decide, by decide⟩
      obtain ⟨T6, h6, X6, e6, W6, st6⟩ := stZ X4 hx hZ e4 Ar5 (j := (1 : Int32)) hin5 (g := (mkF m 39 #[iv i0, iv i1, iv 0, rv w_AT_LEAST, iv 1, .unset, .unset] [.int 1, .int 1, .ref b2, .ref b2])) rfl rfl (hb hby at_39)
      have V_b2 : Arv Z h6 b2 k2 .boolean (12 : Int32) [(.int (nar .boolean (0 : Int32))), (.int (nar .boolean (1 : Int32))), (.int (0 : Int32)), (.int (0 : Int32)), (.int (0 : Int32)), (.int (0 : Int32)), (.int (0 : Int32)), (.int (0 : Int32)), (.int (0 : Int32)), (.int (0 : Int32)), (.int (0 : Int32)), (.int (0 : Int32))] (.int (0 : Int32)) := Arv.set Ar5 qk5 sz5 nn5 hs5 ft5 (fits_nar_bool _) W6 1 rfl (Nat.le_of_ble_eq_true rfl)
      have O := O.wr W6 g_b2
      have N := Fr.snoc X6 N g_b2
      refine gb st6 ?_
      show G T6 (mkF m 40 #[iv i0, iv i1, iv 0, rv w_AT_LEAST, iv 1, .unset, .unset] [.ref b2])
      refine gb (fun _ k => XS.dup X6.here hx rfl (hb hby at_40) rfl rfl (XS.iconst X6.here hx rfl (hb hby at_41) (XS.iconst X6.here hx rfl (hb hby at_42) k))) ?_
      show G T6 (mkF m 43 #[iv i0, iv i1, iv 0, rv w_AT_LEAST, iv 1, .unset, .unset] [.int 1, .int 2, .ref b2, .ref b2])
      have V'7 := V_b2
      obtain ⟨cl7, Ar7, qk7, sz7, nn7, hs7, ft7⟩ := V'7
      have hin7 : ¬ ((2 : Int32) < 0 ∨ cl7.slots.size ≤ ((2 : Int32)).toNatClampNeg) := inb_of sz7 ⟨by decide, by decide⟩
      obtain ⟨T8, h8, X8, e8, W8, st8⟩ := stZ X6 hx hZ e6 Ar7 (j := (2 : Int32)) hin7 (g := (mkF m 43 #[iv i0, iv i1, iv 0, rv w_AT_LEAST, iv 1, .unset, .unset] [.int 1, .int 2, .ref b2, .ref b2])) rfl rfl (hb hby at_43)
      have V_b2 : Arv Z h8 b2 k2 .boolean (12 : Int32) [(.int (nar .boolean (0 : Int32))), (.int (nar .boolean (1 : Int32))), (.int (nar .boolean (1 : Int32))), (.int (0 : Int32)), (.int (0 : Int32)), (.int (0 : Int32)), (.int (0 : Int32)), (.int (0 : Int32)), (.int (0 : Int32)), (.int (0 : Int32)), (.int (0 : Int32)), (.int (0 : Int32))] (.int (0 : Int32)) := Arv.set Ar7 qk7 sz7 nn7 hs7 ft7 (fits_nar_bool _) W8 2 rfl (Nat.le_of_ble_eq_true rfl)
      have O := O.wr W8 g_b2
      have N := Fr.snoc X8 N g_b2
      refine gb st8 ?_
      show G T8 (mkF m 44 #[iv i0, iv i1, iv 0, rv w_AT_LEAST, iv 1, .unset, .unset] [.ref b2])
      refine gb (fun _ k => XS.dup X8.here hx rfl (hb hby at_44) rfl rfl (XS.iconst X8.here hx rfl (hb hby at_45) (XS.iconst X8.here hx rfl (hb hby at_46) k))) ?_
      show G T8 (mkF m 47 #[iv i0, iv i1, iv 0, rv w_AT_LEAST, iv 1, .unset, .unset] [.int 0, .int 3, .ref b2, .ref b2])
      have V'9 := V_b2
      obtain ⟨cl9, Ar9, qk9, sz9, nn9, hs9, ft9⟩ := V'9
      have hin9 : ¬ ((3 : Int32) < 0 ∨ cl9.slots.size ≤ ((3 : Int32)).toNatClampNeg) := inb_of sz9 ⟨by decide, by decide⟩
      obtain ⟨T10, h10, X10, e10, W10, st10⟩ := stZ X8 hx hZ e8 Ar9 (j := (3 : Int32)) hin9 (g := (mkF m 47 #[iv i0, iv i1, iv 0, rv w_AT_LEAST, iv 1, .unset, .unset] [.int 0, .int 3, .ref b2, .ref b2])) rfl rfl (hb hby at_47)
      have V_b2 : Arv Z h10 b2 k2 .boolean (12 : Int32) [(.int (nar .boolean (0 : Int32))), (.int (nar .boolean (1 : Int32))), (.int (nar .boolean (1 : Int32))), (.int (nar .boolean (0 : Int32))), (.int (0 : Int32)), (.int (0 : Int32)), (.int (0 : Int32)), (.int (0 : Int32)), (.int (0 : Int32)), (.int (0 : Int32)), (.int (0 : Int32)), (.int (0 : Int32))] (.int (0 : Int32)) := Arv.set Ar9 qk9 sz9 nn9 hs9 ft9 (fits_nar_bool _) W10 3 rfl (Nat.le_of_ble_eq_true rfl)
      have O := O.wr W10 g_b2
      have N := Fr.snoc X10 N g_b2
      refine gb st10 ?_
      show G T10 (mkF m 48 #[iv i0, iv i1, iv 0, rv w_AT_LEAST, iv 1, .unset, .unset] [.ref b2])
      refine gb (fun _ k => XS.dup X10.here hx rfl (hb hby at_48) rfl rfl (XS.iconst X10.here hx rfl (hb hby at_49) (XS.iconst X10.here hx rfl (hb hby at_50) k))) ?_
      show G T10 (mkF m 51 #[iv i0, iv i1, iv 0, rv w_AT_LEAST, iv 1, .unset, .unset] [.int 0, .int 4, .ref b2, .ref b2])
      have V'11 := V_b2
      obtain ⟨cl11, Ar11, qk11, sz11, nn11, hs11, ft11⟩ := V'11
      have hin11 : ¬ ((4 : Int32) < 0 ∨ cl11.slots.size ≤ ((4 : Int32)).toNatClampNeg) := inb_of sz11 ⟨by decide, by decide⟩
      obtain ⟨T12, h12, X12, e12, W12, st12⟩ := stZ X10 hx hZ e10 Ar11 (j := (4 : Int32)) hin11 (g := (mkF m 51 #[iv i0, iv i1, iv 0, rv w_AT_LEAST, iv 1, .unset, .unset] [.int 0, .int 4, .ref b2, .ref b2])) rfl rfl (hb hby at_51)
      have V_b2 : Arv Z h12 b2 k2 .boolean (12 : Int32) [(.int (nar .boolean (0 : Int32))), (.int (nar .boolean (1 : Int32))), (.int (nar .boolean (1 : Int32))), (.int (nar .boolean (0 : Int32))), (.int (nar .boolean (0 : Int32))), (.int (0 : Int32)), (.int (0 : Int32)), (.int (0 : Int32)), (.int (0 : Int32)), (.int (0 : Int32)), (.int (0 : Int32)), (.int (0 : Int32))] (.int (0 : Int32)) := Arv.set Ar11 qk11 sz11 nn11 hs11 ft11 (fits_nar_bool _) W12 4 rfl (Nat.le_of_ble_eq_true rfl)
      have O := O.wr W12 g_b2
      have N := Fr.snoc X12 N g_b2
      refine gb st12 ?_
      show G T12 (mkF m 52 #[iv i0, iv i1, iv 0, rv w_AT_LEAST, iv 1, .unset, .unset] [.ref b2])
      refine gb (fun _ k => XS.dup X12.here hx rfl (hb hby at_52) rfl rfl (XS.iconst X12.here hx rfl (hb hby at_53) (XS.iconst X12.here hx rfl (hb hby at_54) k))) ?_
      show G T12 (mkF m 55 #[iv i0, iv i1, iv 0, rv w_AT_LEAST, iv 1, .unset, .unset] [.int 1, .int 5, .ref b2, .ref b2])
      have V'13 := V_b2
      obtain ⟨cl13, Ar13, qk13, sz13, nn13, hs13, ft13⟩ := V'13
      have hin13 : ¬ ((5 : Int32) < 0 ∨ cl13.slots.size ≤ ((5 : Int32)).toNatClampNeg) := inb_of sz13 ⟨by decide, by decide⟩
      obtain ⟨T14, h14, X14, e14, W14, st14⟩ := stZ X12 hx hZ e12 Ar13 (j := (5 : Int32)) hin13 (g := (mkF m 55 #[iv i0, iv i1, iv 0, rv w_AT_LEAST, iv 1, .unset, .unset] [.int 1, .int 5, .ref b2, .ref b2])) rfl rfl (hb hby at_55)
      have V_b2 : Arv Z h14 b2 k2 .boolean (12 : Int32) [(.int (nar .boolean (0 : Int32))), (.int (nar .boolean (1 : Int32))), (.int (nar .boolean (1 : Int32))), (.int (nar .boolean (0 : Int32))), (.int (nar .boolean (0 : Int32))), (.int (nar .boolean (1 : Int32))), (.int (0 : Int32)), (.int (0 : Int32)), (.int (0 : Int32)), (.int (0 : Int32)), (.int (0 : Int32)), (.int (0 : Int32))] (.int (0 : Int32)) := Arv.set Ar13 qk13 sz13 nn13 hs13 ft13 (fits_nar_bool _) W14 5 rfl (Nat.le_of_ble_eq_true rfl)
      have O := O.wr W14 g_b2
      have N := Fr.snoc X14 N g_b2
      refine gb st14 ?_
      show G T14 (mkF m 56 #[iv i0, iv i1, iv 0, rv w_AT_LEAST, iv 1, .unset, .unset] [.ref b2])
      refine gb (fun _ k => XS.dup X14.here hx rfl (hb hby at_56) rfl rfl (XS.bipush X14.here hx rfl (hb hby at_57) (XS.iconst X14.here hx rfl (hb hby at_59) k))) ?_
      show G T14 (mkF m 60 #[iv i0, iv i1, iv 0, rv w_AT_LEAST, iv 1, .unset, .unset] [.int 1, .int 6, .ref b2, .ref b2])
      have V'15 := V_b2
      obtain ⟨cl15, Ar15, qk15, sz15, nn15, hs15, ft15⟩ := V'15
      have hin15 : ¬ ((6 : Int32) < 0 ∨ cl15.slots.size ≤ ((6 : Int32)).toNatClampNeg) := inb_of sz15 ⟨by decide, by decide⟩
      obtain ⟨T16, h16, X16, e16, W16, st16⟩ := stZ X14 hx hZ e14 Ar15 (j := (6 : Int32)) hin15 (g := (mkF m 60 #[iv i0, iv i1, iv 0, rv w_AT_LEAST, iv 1, .unset, .unset] [.int 1, .int 6, .ref b2, .ref b2])) rfl rfl (hb hby at_60)
      have V_b2 : Arv Z h16 b2 k2 .boolean (12 : Int32) [(.int (nar .boolean (0 : Int32))), (.int (nar .boolean (1 : Int32))), (.int (nar .boolean (1 : Int32))), (.int (nar .boolean (0 : Int32))), (.int (nar .boolean (0 : Int32))), (.int (nar .boolean (1 : Int32))), (.int (nar .boolean (1 : Int32))), (.int (0 : Int32)), (.int (0 : Int32)), (.int (0 : Int32)), (.int (0 : Int32)), (.int (0 : Int32))] (.int (0 : Int32)) := Arv.set Ar15 qk15 sz15 nn15 hs15 ft15 (fits_nar_bool _) W16 6 rfl (Nat.le_of_ble_eq_true rfl)
      have O := O.wr W16 g_b2
      have N := Fr.snoc X16 N g_b2
      refine gb st16 ?_
      show G T16 (mkF m 61 #[iv i0, iv i1, iv 0, rv w_AT_LEAST, iv 1, .unset, .unset] [.ref b2])
      refine gb (fun _ k => XS.dup X16.here hx rfl (hb hby at_61) rfl rfl (XS.bipush X16.here hx rfl (hb hby at_62) (XS.iconst X16.here hx rfl (hb hby at_64) k))) ?_
      show G T16 (mkF m 65 #[iv i0, iv i1, iv 0, rv w_AT_LEAST, iv 1, .unset, .unset] [.int 1, .int 7, .ref b2, .ref b2])
      have V'17 := V_b2
      obtain ⟨cl17, Ar17, qk17, sz17, nn17, hs17, ft17⟩ := V'17
      have hin17 : ¬ ((7 : Int32) < 0 ∨ cl17.slots.size ≤ ((7 : Int32)).toNatClampNeg) := inb_of sz17 ⟨by decide, by decide⟩
      obtain ⟨T18, h18, X18, e18, W18, st18⟩ := stZ X16 hx hZ e16 Ar17 (j := (7 : Int32)) hin17 (g := (mkF m 65 #[iv i0, iv i1, iv 0, rv w_AT_LEAST, iv 1, .unset, .unset] [.int 1, .int 7, .ref b2, .ref b2])) rfl rfl (hb hby at_65)
      have V_b2 : Arv Z h18 b2 k2 .boolean (12 : Int32) [(.int (nar .boolean (0 : Int32))), (.int (nar .boolean (1 : Int32))), (.int (nar .boolean (1 : Int32))), (.int (nar .boolean (0 : Int32))), (.int (nar .boolean (0 : Int32))), (.int (nar .boolean (1 : Int32))), (.int (nar .boolean (1 : Int32))), (.int (nar .boolean (1 : Int32))), (.int (0 : Int32)), (.int (0 : Int32)), (.int (0 : Int32)), (.int (0 : Int32))] (.int (0 : Int32)) := Arv.set Ar17 qk17 sz17 nn17 hs17 ft17 (fits_nar_bool _) W18 7 rfl (Nat.le_of_ble_eq_true rfl)
      have O := O.wr W18 g_b2
      have N := Fr.snoc X18 N g_b2
      refine gb st18 ?_
      show G T18 (mkF m 66 #[iv i0, iv i1, iv 0, rv w_AT_LEAST, iv 1, .unset, .unset] [.ref b2])
      refine gb (fun _ k => XS.dup X18.here hx rfl (hb hby at_66) rfl rfl (XS.bipush X18.here hx rfl (hb hby at_67) (XS.iconst X18.here hx rfl (hb hby at_69) k))) ?_
      show G T18 (mkF m 70 #[iv i0, iv i1, iv 0, rv w_AT_LEAST, iv 1, .unset, .unset] [.int 0, .int 8, .ref b2, .ref b2])
      have V'19 := V_b2
      obtain ⟨cl19, Ar19, qk19, sz19, nn19, hs19, ft19⟩ := V'19
      have hin19 : ¬ ((8 : Int32) < 0 ∨ cl19.slots.size ≤ ((8 : Int32)).toNatClampNeg) := inb_of sz19 ⟨by decide, by decide⟩
      obtain ⟨T20, h20, X20, e20, W20, st20⟩ := stZ X18 hx hZ e18 Ar19 (j := (8 : Int32)) hin19 (g := (mkF m 70 #[iv i0, iv i1, iv 0, rv w_AT_LEAST, iv 1, .unset, .unset] [.int 0, .int 8, .ref b2, .ref b2])) rfl rfl (hb hby at_70)
      have V_b2 : Arv Z h20 b2 k2 .boolean (12 : Int32) [(.int (nar .boolean (0 : Int32))), (.int (nar .boolean (1 : Int32))), (.int (nar .boolean (1 : Int32))), (.int (nar .boolean (0 : Int32))), (.int (nar .boolean (0 : Int32))), (.int (nar .boolean (1 : Int32))), (.int (nar .boolean (1 : Int32))), (.int (nar .boolean (1 : Int32))), (.int (nar .boolean (0 : Int32))), (.int (0 : Int32)), (.int (0 : Int32)), (.int (0 : Int32))] (.int (0 : Int32)) := Arv.set Ar19 qk19 sz19 nn19 hs19 ft19 (fits_nar_bool _) W20 8 rfl (Nat.le_of_ble_eq_true rfl)
      have O := O.wr W20 g_b2
      have N := Fr.snoc X20 N g_b2
      refine gb st20 ?_
      show G T20 (mkF m 71 #[iv i0, iv i1, iv 0, rv w_AT_LEAST, iv 1, .unset, .unset] [.ref b2])
      refine gb (fun _ k => XS.dup X20.here hx rfl (hb hby at_71) rfl rfl (XS.bipush X20.here hx rfl (hb hby at_72) (XS.iconst X20.here hx rfl (hb hby at_74) k))) ?_
      show G T20 (mkF m 75 #[iv i0, iv i1, iv 0, rv w_AT_LEAST, iv 1, .unset, .unset] [.int 1, .int 9, .ref b2, .ref b2])
      have V'21 := V_b2
      obtain ⟨cl21, Ar21, qk21, sz21, nn21, hs21, ft21⟩ := V'21
      have hin21 : ¬ ((9 : Int32) < 0 ∨ cl21.slots.size ≤ ((9 : Int32)).toNatClampNeg) := inb_of sz21 ⟨by decide, by decide⟩
      obtain ⟨T22, h22, X22, e22, W22, st22⟩ := stZ X20 hx hZ e20 Ar21 (j := (9 : Int32)) hin21 (g := (mkF m 75 #[iv i0, iv i1, iv 0, rv w_AT_LEAST, iv 1, .unset, .unset] [.int 1, .int 9, .ref b2, .ref b2])) rfl rfl (hb hby at_75)
      have V_b2 : Arv Z h22 b2 k2 .boolean (12 : Int32) [(.int (nar .boolean (0 : Int32))), (.int (nar .boolean (1 : Int32))), (.int (nar .boolean (1 : Int32))), (.int (nar .boolean (0 : Int32))), (.int (nar .boolean (0 : Int32))), (.int (nar .boolean (1 : Int32))), (.int (nar .boolean (1 : Int32))), (.int (nar .boolean (1 : Int32))), (.int (nar .boolean (0 : Int32))), (.int (nar .boolean (1 : Int32))), (.int (0 : Int32)), (.int (0 : Int32))] (.int (0 : Int32)) := Arv.set Ar21 qk21 sz21 nn21 hs21 ft21 (fits_nar_bool _) W22 9 rfl (Nat.le_of_ble_eq_true rfl)
      have O := O.wr W22 g_b2
      have N := Fr.snoc X22 N g_b2
      refine gb st22 ?_
      show G T22 (mkF m 76 #[iv i0, iv i1, iv 0, rv w_AT_LEAST, iv 1, .unset, .unset] [.ref b2])
      refine gb (fun _ k => XS.dup X22.here hx rfl (hb hby at_76) rfl rfl (XS.bipush X22.here hx rfl (hb hby at_77) (XS.iconst X22.here hx rfl (hb hby at_79) k))) ?_
      show G T22 (mkF m 80 #[iv i0, iv i1, iv 0, rv w_AT_LEAST, iv 1, .unset, .unset] [.int 0, .int 10, .ref b2, .ref b2])
      have V'23 := V_b2
      obtain ⟨cl23, Ar23, qk23, sz23, nn23, hs23, ft23⟩ := V'23
      have hin23 : ¬ ((10 : Int32) < 0 ∨ cl23.slots.size ≤ ((10 : Int32)).toNatClampNeg) := inb_of sz23 ⟨by decide, by decide⟩
      obtain ⟨T24, h24, X24, e24, W24, st24⟩ := stZ X22 hx hZ e22 Ar23 (j := (10 : Int32)) hin23 (g := (mkF m 80 #[iv i0, iv i1, iv 0, rv w_AT_LEAST, iv 1, .unset, .unset] [.int 0, .int 10, .ref b2, .ref b2])) rfl rfl (hb hby at_80)
      have V_b2 : Arv Z h24 b2 k2 .boolean (12 : Int32) [(.int (nar .boolean (0 : Int32))), (.int (nar .boolean (1 : Int32))), (.int (nar .boolean (1 : Int32))), (.int (nar .boolean (0 : Int32))), (.int (nar .boolean (0 : Int32))), (.int (nar .boolean (1 : Int32))), (.int (nar .boolean (1 : Int32))), (.int (nar .boolean (1 : Int32))), (.int (nar .boolean (0 : Int32))), (.int (nar .boolean (1 : Int32))), (.int (nar .boolean (0 : Int32))), (.int (0 : Int32))] (.int (0 : Int32)) := Arv.set Ar23 qk23 sz23 nn23 hs23 ft23 (fits_nar_bool _) W24 10 rfl (Nat.le_of_ble_eq_true rfl)
      have O := O.wr W24 g_b2
      have N := Fr.snoc X24 N g_b2
      refine gb st24 ?_
      show G T24 (mkF m 81 #[iv i0, iv i1, iv 0, rv w_AT_LEAST, iv 1, .unset, .unset] [.ref b2])
      refine gb (fun _ k => XS.dup X24.here hx rfl (hb hby at_81) rfl rfl (XS.bipush X24.here hx rfl (hb hby at_82) (XS.iconst X24.here hx rfl (hb hby at_84) k))) ?_
      show G T24 (mkF m 85 #[iv i0, iv i1, iv 0, rv w_AT_LEAST, iv 1, .unset, .unset] [.int 0, .int 11, .ref b2, .ref b2])
      have V'25 := V_b2
      obtain ⟨cl25, Ar25, qk25, sz25, nn25, hs25, ft25⟩ := V'25
      have hin25 : ¬ ((11 : Int32) < 0 ∨ cl25.slots.size ≤ ((11 : Int32)).toNatClampNeg) := inb_of sz25 ⟨by decide, by decide⟩
      obtain ⟨T26, h26, X26, e26, W26, st26⟩ := stZ X24 hx hZ e24 Ar25 (j := (11 : Int32)) hin25 (g := (mkF m 85 #[iv i0, iv i1, iv 0, rv w_AT_LEAST, iv 1, .unset, .unset] [.int 0, .int 11, .ref b2, .ref b2])) rfl rfl (hb hby at_85)
      have V_b2 : Arv Z h26 b2 k2 .boolean (12 : Int32) [(.int (nar .boolean (0 : Int32))), (.int (nar .boolean (1 : Int32))), (.int (nar .boolean (1 : Int32))), (.int (nar .boolean (0 : Int32))), (.int (nar .boolean (0 : Int32))), (.int (nar .boolean (1 : Int32))), (.int (nar .boolean (1 : Int32))), (.int (nar .boolean (1 : Int32))), (.int (nar .boolean (0 : Int32))), (.int (nar .boolean (1 : Int32))), (.int (nar .boolean (0 : Int32))), (.int (nar .boolean (0 : Int32)))] (.int (0 : Int32)) := Arv.set Ar25 qk25 sz25 nn25 hs25 ft25 (fits_nar_bool _) W26 11 rfl (Nat.le_of_ble_eq_true rfl)
      have O := O.wr W26 g_b2
      have N := Fr.snoc X26 N g_b2
      refine gb st26 ?_
      show G T26 (mkF m 86 #[iv i0, iv i1, iv 0, rv w_AT_LEAST, iv 1, .unset, .unset] [.ref b2])
      refine gb (fun _ k => XS.astore X26.here hx rfl (hb hby at_86) rfl rfl (l' := #[iv i0, iv i1, iv 0, rv w_AT_LEAST, iv 1, rv b2, .unset]) rfl (XS.aload X26.here hx rfl (hb hby at_88) rfl rfl (XS.iloadN X26.here hx rfl (hb hby at_90) rfl (XS.iconst X26.here hx rfl (hb hby at_91) (XS.imul X26.here hx rfl (hb hby at_92) rfl (XS.iload X26.here hx rfl (hb hby at_93) rfl k)))))) ?_
      show G T26 (mkF m 95 #[iv i0, iv i1, iv 0, rv w_AT_LEAST, iv 1, rv b2, .unset] [.int 1, .int 0, .ref b2])
      refine gb (fun _ k => XS.iadd X26.here hx rfl (hb hby at_95) rfl (XS.iconst X26.here hx rfl (hb hby at_96) (XS.iadd X26.here hx rfl (hb hby at_97) rfl k))) ?_
      show G T26 (mkF m 98 #[iv i0, iv i1, iv 0, rv w_AT_LEAST, iv 1, rv b2, .unset] [.int 2, .ref b2])
      have V'27 := V_b2
      obtain ⟨cl27, Ar27, qk27, sz27, nn27, hs27, ft27⟩ := V'27
      have hin27 : ¬ ((2 : Int32) < 0 ∨ cl27.slots.size ≤ ((2 : Int32)).toNatClampNeg) := inb_of sz27 ⟨by decide, by decide⟩
      have hat27 : cl27.slots[((2 : Int32)).toNatClampNeg]? = some (.int (nar .boolean (1 : Int32))) := hs27.at hin27 rfl
      refine gb (X26.baloadBooleans hx (j := (2 : Int32)) (v := (.int (nar .boolean (1 : Int32)))) (by rw [e26]; exact Ar27.1) (State.isArrayOf_alike hZ.alike Ar27.2.1) Ar27.2.2 hin27 hat27 (g := (mkF m 98 #[iv i0, iv i1, iv 0, rv w_AT_LEAST, iv 1, rv b2, .unset] [.int 2, .ref b2])) rfl rfl (hb hby at_98)) ?_
      show G T26 (mkF m 99 #[iv i0, iv i1, iv 0, rv w_AT_LEAST, iv 1, rv b2, .unset] [.int (nar .boolean (1 : Int32))])
      refine gb (fun _ k => XS.istore X26.here hx rfl (hb hby at_99) rfl (l' := #[iv i0, iv i1, iv 0, rv w_AT_LEAST, iv 1, rv b2, iv (nar .boolean (1 : Int32))]) rfl (XS.aloadN X26.here hx rfl (hb hby at_101) rfl rfl (XS.iloadN X26.here hx rfl (hb hby at_102) rfl k))) ?_
      show G T26 (mkF m 103 #[iv i0, iv i1, iv 0, rv w_AT_LEAST, iv 1, rv b2, iv (nar .boolean (1 : Int32))] [.int i1, .ref w_AT_LEAST])
      obtain ⟨cq28, kq28, q28a, q28b, q28c⟩ := isOf hZ e26 (E_AT_LEAST.ext O.2)
      obtain ⟨_, _, ⟨T28, L28, k28, n28⟩, -, X28, ⟨Lc28, hQ28, l28, y28, z28⟩, st28⟩ := X26.virtualBack hx (y := (⟨"com/example/wrought_gate/wroughtgate/engine/Comparison", "admits", "(I)Z"⟩ : MethodName)) (z := (⟨"com/example/wrought_gate/wroughtgate/engine/Comparison", "admits", "(I)Z"⟩ : MethodName)) hown (mvT hZ (ow hw 8 rfl)) (mvT hZ (ow hw 9 rfl)) (notFace_of_selects (args := #[]) (mvT hZ (ow hw 11 rfl))) (mvT hZ (ow hw 11 rfl)) (mvT hZ (ow hw 10 rfl)) (by decide) (backOf (W := 0) (rm2_0 l Z a0 hw [] w_AT_LEAST i1 h26 n0 O (E_AT_LEAST.ext O.2) (F_ordinal_AT_LEAST.ext O.2)) hZ (ow hw 12 rfl) (ow hw 5 rfl) (by decide) (by decide)) q28a q28c (g := (mkF m 103 #[iv i0, iv i1, iv 0, rv w_AT_LEAST, iv 1, rv b2, iv (nar .boolean (1 : Int32))] [.int i1, .ref w_AT_LEAST])) rfl (by rw [hml]; rfl) (Steps.refl _) (argsL := [(.int i1)]) (rest := []) (lenOf pd_2 rfl) rfl (by show 2 * 0 + _ ≤ _; exact Nat.le_of_eq rfl) (hb hby at_103) (fun _ _ => ⟨rfl, e26, (by decide : 1 + 0 ≤ _), (by decide : 12 + 0 ≤ _)⟩)
      dsimp only [Pt.U, Pt.locs, Pt.cells, Pt.slots] at X28 l28 y28 z28 st28 hQ28
      subst l28 y28 z28
      obtain ⟨rfl, rfl, e28⟩ := hQ28
      try rw [List.append_nil] at X28
      refine gb (fun _ k => st28.trans k) ?_
      show G T28 (mkF m 106 #[iv i0, iv i1, iv 0, rv w_AT_LEAST, iv 1, rv b2, iv (nar .boolean (1 : Int32))] [.int (if ¬ (i1 < (0 : Int32)) then (1 : Int32) else (0 : Int32))])
      refine gb (fun _ k => XS.iload X28.here hx rfl (hb hby at_106) rfl (XS.icmpNo X28.here hx rfl (hb hby at_108) rfl (teq (show (if ¬ (i1 < (0 : Int32)) then (1 : Int32) else (0 : Int32)) = (nar .boolean (1 : Int32)) by simp only [hA, hB, not_true_eq_false, not_false_eq_true, if_true, if_false]; rfl)).2 (XS.iconst X28.here hx rfl (hb hby at_111) (XS.goto X28.here hx rfl (pc0 := 112) (pc' := 116) rfl (hb hby at_112) (by decide) (by decide) k)))) ?_
      show G T28 (mkF m 116 #[iv i0, iv i1, iv 0, rv w_AT_LEAST, iv 1, rv b2, iv (nar .boolean (1 : Int32))] [.int 1])
      exact go X28 (v := (some (.int (1 : Int32)))) (fun h => by rw [Bd.returns] at h; cases h) (fun fs hr => retOut X28 hx Bd.returns rfl (Or.inl ⟨rfl, by simp, _, rfl⟩) (hb hby at_116) hr) (⟨rfl, N⟩) (by decide) (by decide)
    · skip
      refine gb (fun _ k => XS.ifYes X1.here hx rfl (pc0 := 10) (pc' := 17) rfl (hb hby at_10) rfl ((if0 _ _).trans (flt hc10).2.2.2) (by decide) (by decide) (XS.iloadN X1.here hx rfl (hb hby at_17) rfl k)) ?_
      show G T1 (mkF m 18 #[iv i0, iv i1, iv 0, rv w_AT_LEAST, .unset, .unset, .unset] [.int i1])
      by_cases hc18 : i1 < (0 : Int32)
      · skip
        refine gb (fun _ k => XS.ifNo X1.here hx rfl (hb hby at_18) rfl ((if0 _ _).trans (tlt hc18).2.1) (XS.iconst X1.here hx rfl (hb hby at_21) (XS.goto X1.here hx rfl (pc0 := 22) (pc' := 26) rfl (hb hby at_22) (by decide) (by decide) k))) ?_
        show G T1 (mkF m 26 #[iv i0, iv i1, iv 0, rv w_AT_LEAST, .unset, .unset, .unset] [.int (-1)])
        have hA : i1 < (0 : Int32) := hc18
        have hB : ¬ ((0 : Int32) < i1) := own_asym hA
        refine gb (fun _ k => XS.istore X1.here hx rfl (hb hby at_26) rfl (l' := #[iv i0, iv i1, iv 0, rv w_AT_LEAST, iv (-1), .unset, .unset]) rfl (XS.bipush X1.here hx rfl (hb hby at_28) k)) ?_
        show G T1 (mkF m 30 #[iv i0, iv i1, iv 0, rv w_AT_LEAST, iv (-1), .unset, .unset] [.int 12])
        obtain ⟨T29, h29, k29, X29, e29, E29, A29, st29⟩ := newP X1 hx hZ (ow hw 7 rfl) e1 (g := (mkF m 30 #[iv i0, iv i1, iv 0, rv w_AT_LEAST, iv (-1), .unset, .unset] [.int 12])) rfl (hb hby at_30) rfl (by decide) (cap := 12) (by decide) (by decide) (by decide) (by decide)
        obtain ⟨b29, g29⟩ : ∃ z, z = h0.size := ⟨_, rfl⟩
        rw [← g29] at A29 st29
        have g_b29 : n0 ≤ b29 := Nat.le_trans (by have := O.2.1; rw [O.1] at this; exact this) (Nat.le_of_eq g29.symm)
        have O := O.ext E29
        have V_b29 : Arv Z h29 b29 k29 .boolean (12 : Int32) [(.int (0 : Int32)), (.int (0 : Int32)), (.int (0 : Int32)), (.int (0 : Int32)), (.int (0 : Int32)), (.int (0 : Int32)), (.int (0 : Int32)), (.int (0 : Int32)), (.int (0 : Int32)), (.int (0 : Int32)), (.int (0 : Int32)), (.int (0 : Int32))] (.int (0 : Int32)) := (Arv.new A29 (by decide)).pad (pad_rep [] (.int (0 : Int32)) 12)
        refine gb st29 ?_
        show G T29 (mkF m 32 #[iv i0, iv i1, iv 0, rv w_AT_LEAST, iv (-1), .unset, .unset] [.ref b29])
        refine gb (fun _ k => XS.dup X29.here hx rfl (hb hby at_32) rfl rfl (XS.iconst X29.here hx rfl (hb hby at_33) (XS.iconst X29.here hx rfl (hb hby at_34) k))) ?_
        show G T29 (mkF m 35 #[iv i0, iv i1, iv 0, rv w_AT_LEAST, iv (-1), .unset, .unset] [.int 0, .int 0, .ref b29, .ref b29])
        have V'30 := V_b29
        obtain ⟨cl30, Ar30, qk30, sz30, nn30, hs30, ft30⟩ := V'30
        have hin30 : ¬ ((0 : Int32) < 0 ∨ cl30.slots.size ≤ ((0 : Int32)).toNatClampNeg) := inb_of sz30 ⟨by decide, by decide⟩
        obtain ⟨T31, h31, X31, e31, W31, st31⟩ := stZ X29 hx hZ e29 Ar30 (j := (0 : Int32)) hin30 (g := (mkF m 35 #[iv i0, iv i1, iv 0, rv w_AT_LEAST, iv (-1), .unset, .unset] [.int 0, .int 0, .ref b29, .ref b29])) rfl rfl (hb hby at_35)
        have V_b29 : Arv Z h31 b29 k29 .boolean (12 : Int32) [(.int (nar .boolean (0 : Int32))), (.int (0 : Int32)), (.int (0 : Int32)), (.int (0 : Int32)), (.int (0 : Int32)), (.int (0 : Int32)), (.int (0 : Int32)), (.int (0 : Int32)), (.int (0 : Int32)), (.int (0 : Int32)), (.int (0 : Int32)), (.int (0 : Int32))] (.int (0 : Int32)) := Arv.set Ar30 qk30 sz30 nn30 hs30 ft30 (fits_nar_bool _) W31 0 rfl (Nat.le_of_ble_eq_true rfl)
        have O := O.wr W31 g_b29
        have N := Fr.snoc X31 N g_b29
        refine gb st31 ?_
        show G T31 (mkF m 36 #[iv i0, iv i1, iv 0, rv w_AT_LEAST, iv (-1), .unset, .unset] [.ref b29])
        refine gb (fun _ k => XS.dup X31.here hx rfl (hb hby at_36) rfl rfl (XS.iconst X31.here hx rfl (hb hby at_37) (XS.iconst X31.here hx rfl (hb hby at_38) k))) ?_
        show G T31 (mkF m 39 #[iv i0, iv i1, iv 0, rv w_AT_LEAST, iv (-1), .unset, .unset] [.int 1, .int 1, .ref b29, .ref b29])
        have V'32 := V_b29
        obtain ⟨cl32, Ar32, qk32, sz32, nn32, hs32, ft32⟩ := V'32
        have hin32 : ¬ ((1 : Int32) < 0 ∨ cl32.slots.size ≤ ((1 : Int32)).toNatClampNeg) := inb_of sz32 ⟨by decide, by decide⟩
        obtain ⟨T33, h33, X33, e33, W33, st33⟩ := stZ X31 hx hZ e31 Ar32 (j := (1 : Int32)) hin32 (g := (mkF m 39 #[iv i0, iv i1, iv 0, rv w_AT_LEAST, iv (-1), .unset, .unset] [.int 1, .int 1, .ref b29, .ref b29])) rfl rfl (hb hby at_39)
        have V_b29 : Arv Z h33 b29 k29 .boolean (12 : Int32) [(.int (nar .boolean (0 : Int32))), (.int (nar .boolean (1 : Int32))), (.int (0 : Int32)), (.int (0 : Int32)), (.int (0 : Int32)), (.int (0 : Int32)), (.int (0 : Int32)), (.int (0 : Int32)), (.int (0 : Int32)), (.int (0 : Int32)), (.int (0 : Int32)), (.int (0 : Int32))] (.int (0 : Int32)) := Arv.set Ar32 qk32 sz32 nn32 hs32 ft32 (fits_nar_bool _) W33 1 rfl (Nat.le_of_ble_eq_true rfl)
        have O := O.wr W33 g_b29
        have N := Fr.snoc X33 N g_b29
        refine gb st33 ?_
        show G T33 (mkF m 40 #[iv i0, iv i1, iv 0, rv w_AT_LEAST, iv (-1), .unset, .unset] [.ref b29])
        refine gb (fun _ k => XS.dup X33.here hx rfl (hb hby at_40) rfl rfl (XS.iconst X33.here hx rfl (hb hby at_41) (XS.iconst X33.here hx rfl (hb hby at_42) k))) ?_
        show G T33 (mkF m 43 #[iv i0, iv i1, iv 0, rv w_AT_LEAST, iv (-1), .unset, .unset] [.int 1, .int 2, .ref b29, .ref b29])
        have V'34 := V_b29
        obtain ⟨cl34, Ar34, qk34, sz34, nn34, hs34, ft34⟩ := V'34
        have hin34 : ¬ ((2 : Int32) < 0 ∨ cl34.slots.size ≤ ((2 : Int32)).toNatClampNeg) := inb_of sz34 ⟨by decide, by decide⟩
        obtain ⟨T35, h35, X35, e35, W35, st35⟩ := stZ X33 hx hZ e33 Ar34 (j := (2 : Int32)) hin34 (g := (mkF m 43 #[iv i0, iv i1, iv 0, rv w_AT_LEAST, iv (-1), .unset, .unset] [.int 1, .int 2, .ref b29, .ref b29])) rfl rfl (hb hby at_43)
        have V_b29 : Arv Z h35 b29 k29 .boolean (12 : Int32) [(.int (nar .boolean (0 : Int32))), (.int (nar .boolean (1 : Int32))), (.int (nar .boolean (1 : Int32))), (.int (0 : Int32)), (.int (0 : Int32)), (.int (0 : Int32)), (.int (0 : Int32)), (.int (0 : Int32)), (.int (0 : Int32)), (.int (0 : Int32)), (.int (0 : Int32)), (.int (0 : Int32))] (.int (0 : Int32)) := Arv.set Ar34 qk34 sz34 nn34 hs34 ft34 (fits_nar_bool _) W35 2 rfl (Nat.le_of_ble_eq_true rfl)
        have O := O.wr W35 g_b29
        have N := Fr.snoc X35 N g_b29
        refine gb st35 ?_
        show G T35 (mkF m 44 #[iv i0, iv i1, iv 0, rv w_AT_LEAST, iv (-1), .unset, .unset] [.ref b29])
        refine gb (fun _ k => XS.dup X35.here hx rfl (hb hby at_44) rfl rfl (XS.iconst X35.here hx rfl (hb hby at_45) (XS.iconst X35.here hx rfl (hb hby at_46) k))) ?_
        show G T35 (mkF m 47 #[iv i0, iv i1, iv 0, rv w_AT_LEAST, iv (-1), .unset, .unset] [.int 0, .int 3, .ref b29, .ref b29])
        have V'36 := V_b29
        obtain ⟨cl36, Ar36, qk36, sz36, nn36, hs36, ft36⟩ := V'36
        have hin36 : ¬ ((3 : Int32) < 0 ∨ cl36.slots.size ≤ ((3 : Int32)).toNatClampNeg) := inb_of sz36 ⟨by decide, by decide⟩
        obtain ⟨T37, h37, X37, e37, W37, st37⟩ := stZ X35 hx hZ e35 Ar36 (j := (3 : Int32)) hin36 (g := (mkF m 47 #[iv i0, iv i1, iv 0, rv w_AT_LEAST, iv (-1), .unset, .unset] [.int 0, .int 3, .ref b29, .ref b29])) rfl rfl (hb hby at_47)
        have V_b29 : Arv Z h37 b29 k29 .boolean (12 : Int32) [(.int (nar .boolean (0 : Int32))), (.int (nar .boolean (1 : Int32))), (.int (nar .boolean (1 : Int32))), (.int (nar .boolean (0 : Int32))), (.int (0 : Int32)), (.int (0 : Int32)), (.int (0 : Int32)), (.int (0 : Int32)), (.int (0 : Int32)), (.int (0 : Int32)), (.int (0 : Int32)), (.int (0 : Int32))] (.int (0 : Int32)) := Arv.set Ar36 qk36 sz36 nn36 hs36 ft36 (fits_nar_bool _) W37 3 rfl (Nat.le_of_ble_eq_true rfl)
        have O := O.wr W37 g_b29
        have N := Fr.snoc X37 N g_b29
        refine gb st37 ?_
        show G T37 (mkF m 48 #[iv i0, iv i1, iv 0, rv w_AT_LEAST, iv (-1), .unset, .unset] [.ref b29])
        refine gb (fun _ k => XS.dup X37.here hx rfl (hb hby at_48) rfl rfl (XS.iconst X37.here hx rfl (hb hby at_49) (XS.iconst X37.here hx rfl (hb hby at_50) k))) ?_
        show G T37 (mkF m 51 #[iv i0, iv i1, iv 0, rv w_AT_LEAST, iv (-1), .unset, .unset] [.int 0, .int 4, .ref b29, .ref b29])
        have V'38 := V_b29
        obtain ⟨cl38, Ar38, qk38, sz38, nn38, hs38, ft38⟩ := V'38
        have hin38 : ¬ ((4 : Int32) < 0 ∨ cl38.slots.size ≤ ((4 : Int32)).toNatClampNeg) := inb_of sz38 ⟨by decide, by decide⟩
        obtain ⟨T39, h39, X39, e39, W39, st39⟩ := stZ X37 hx hZ e37 Ar38 (j := (4 : Int32)) hin38 (g := (mkF m 51 #[iv i0, iv i1, iv 0, rv w_AT_LEAST, iv (-1), .unset, .unset] [.int 0, .int 4, .ref b29, .ref b29])) rfl rfl (hb hby at_51)
        have V_b29 : Arv Z h39 b29 k29 .boolean (12 : Int32) [(.int (nar .boolean (0 : Int32))), (.int (nar .boolean (1 : Int32))), (.int (nar .boolean (1 : Int32))), (.int (nar .boolean (0 : Int32))), (.int (nar .boolean (0 : Int32))), (.int (0 : Int32)), (.int (0 : Int32)), (.int (0 : Int32)), (.int (0 : Int32)), (.int (0 : Int32)), (.int (0 : Int32)), (.int (0 : Int32))] (.int (0 : Int32)) := Arv.set Ar38 qk38 sz38 nn38 hs38 ft38 (fits_nar_bool _) W39 4 rfl (Nat.le_of_ble_eq_true rfl)
        have O := O.wr W39 g_b29
        have N := Fr.snoc X39 N g_b29
        refine gb st39 ?_
        show G T39 (mkF m 52 #[iv i0, iv i1, iv 0, rv w_AT_LEAST, iv (-1), .unset, .unset] [.ref b29])
        refine gb (fun _ k => XS.dup X39.here hx rfl (hb hby at_52) rfl rfl (XS.iconst X39.here hx rfl (hb hby at_53) (XS.iconst X39.here hx rfl (hb hby at_54) k))) ?_
        show G T39 (mkF m 55 #[iv i0, iv i1, iv 0, rv w_AT_LEAST, iv (-1), .unset, .unset] [.int 1, .int 5, .ref b29, .ref b29])
        have V'40 := V_b29
        obtain ⟨cl40, Ar40, qk40, sz40, nn40, hs40, ft40⟩ := V'40
        have hin40 : ¬ ((5 : Int32) < 0 ∨ cl40.slots.size ≤ ((5 : Int32)).toNatClampNeg) := inb_of sz40 ⟨by decide, by decide⟩
        obtain ⟨T41, h41, X41, e41, W41, st41⟩ := stZ X39 hx hZ e39 Ar40 (j := (5 : Int32)) hin40 (g := (mkF m 55 #[iv i0, iv i1, iv 0, rv w_AT_LEAST, iv (-1), .unset, .unset] [.int 1, .int 5, .ref b29, .ref b29])) rfl rfl (hb hby at_55)
        have V_b29 : Arv Z h41 b29 k29 .boolean (12 : Int32) [(.int (nar .boolean (0 : Int32))), (.int (nar .boolean (1 : Int32))), (.int (nar .boolean (1 : Int32))), (.int (nar .boolean (0 : Int32))), (.int (nar .boolean (0 : Int32))), (.int (nar .boolean (1 : Int32))), (.int (0 : Int32)), (.int (0 : Int32)), (.int (0 : Int32)), (.int (0 : Int32)), (.int (0 : Int32)), (.int (0 : Int32))] (.int (0 : Int32)) := Arv.set Ar40 qk40 sz40 nn40 hs40 ft40 (fits_nar_bool _) W41 5 rfl (Nat.le_of_ble_eq_true rfl)
        have O := O.wr W41 g_b29
        have N := Fr.snoc X41 N g_b29
        refine gb st41 ?_
        show G T41 (mkF m 56 #[iv i0, iv i1, iv 0, rv w_AT_LEAST, iv (-1), .unset, .unset] [.ref b29])
        refine gb (fun _ k => XS.dup X41.here hx rfl (hb hby at_56) rfl rfl (XS.bipush X41.here hx rfl (hb hby at_57) (XS.iconst X41.here hx rfl (hb hby at_59) k))) ?_
        show G T41 (mkF m 60 #[iv i0, iv i1, iv 0, rv w_AT_LEAST, iv (-1), .unset, .unset] [.int 1, .int 6, .ref b29, .ref b29])
        have V'42 := V_b29
        obtain ⟨cl42, Ar42, qk42, sz42, nn42, hs42, ft42⟩ := V'42
        have hin42 : ¬ ((6 : Int32) < 0 ∨ cl42.slots.size ≤ ((6 : Int32)).toNatClampNeg) := inb_of sz42 ⟨by decide, by decide⟩
        obtain ⟨T43, h43, X43, e43, W43, st43⟩ := stZ X41 hx hZ e41 Ar42 (j := (6 : Int32)) hin42 (g := (mkF m 60 #[iv i0, iv i1, iv 0, rv w_AT_LEAST, iv (-1), .unset, .unset] [.int 1, .int 6, .ref b29, .ref b29])) rfl rfl (hb hby at_60)
        have V_b29 : Arv Z h43 b29 k29 .boolean (12 : Int32) [(.int (nar .boolean (0 : Int32))), (.int (nar .boolean (1 : Int32))), (.int (nar .boolean (1 : Int32))), (.int (nar .boolean (0 : Int32))), (.int (nar .boolean (0 : Int32))), (.int (nar .boolean (1 : Int32))), (.int (nar .boolean (1 : Int32))), (.int (0 : Int32)), (.int (0 : Int32)), (.int (0 : Int32)), (.int (0 : Int32)), (.int (0 : Int32))] (.int (0 : Int32)) := Arv.set Ar42 qk42 sz42 nn42 hs42 ft42 (fits_nar_bool _) W43 6 rfl (Nat.le_of_ble_eq_true rfl)
        have O := O.wr W43 g_b29
        have N := Fr.snoc X43 N g_b29
        refine gb st43 ?_
        show G T43 (mkF m 61 #[iv i0, iv i1, iv 0, rv w_AT_LEAST, iv (-1), .unset, .unset] [.ref b29])
        refine gb (fun _ k => XS.dup X43.here hx rfl (hb hby at_61) rfl rfl (XS.bipush X43.here hx rfl (hb hby at_62) (XS.iconst X43.here hx rfl (hb hby at_64) k))) ?_
        show G T43 (mkF m 65 #[iv i0, iv i1, iv 0, rv w_AT_LEAST, iv (-1), .unset, .unset] [.int 1, .int 7, .ref b29, .ref b29])
        have V'44 := V_b29
        obtain ⟨cl44, Ar44, qk44, sz44, nn44, hs44, ft44⟩ := V'44
        have hin44 : ¬ ((7 : Int32) < 0 ∨ cl44.slots.size ≤ ((7 : Int32)).toNatClampNeg) := inb_of sz44 ⟨by decide, by decide⟩
        obtain ⟨T45, h45, X45, e45, W45, st45⟩ := stZ X43 hx hZ e43 Ar44 (j := (7 : Int32)) hin44 (g := (mkF m 65 #[iv i0, iv i1, iv 0, rv w_AT_LEAST, iv (-1), .unset, .unset] [.int 1, .int 7, .ref b29, .ref b29])) rfl rfl (hb hby at_65)
        have V_b29 : Arv Z h45 b29 k29 .boolean (12 : Int32) [(.int (nar .boolean (0 : Int32))), (.int (nar .boolean (1 : Int32))), (.int (nar .boolean (1 : Int32))), (.int (nar .boolean (0 : Int32))), (.int (nar .boolean (0 : Int32))), (.int (nar .boolean (1 : Int32))), (.int (nar .boolean (1 : Int32))), (.int (nar .boolean (1 : Int32))), (.int (0 : Int32)), (.int (0 : Int32)), (.int (0 : Int32)), (.int (0 : Int32))] (.int (0 : Int32)) := Arv.set Ar44 qk44 sz44 nn44 hs44 ft44 (fits_nar_bool _) W45 7 rfl (Nat.le_of_ble_eq_true rfl)
        have O := O.wr W45 g_b29
        have N := Fr.snoc X45 N g_b29
        refine gb st45 ?_
        show G T45 (mkF m 66 #[iv i0, iv i1, iv 0, rv w_AT_LEAST, iv (-1), .unset, .unset] [.ref b29])
        refine gb (fun _ k => XS.dup X45.here hx rfl (hb hby at_66) rfl rfl (XS.bipush X45.here hx rfl (hb hby at_67) (XS.iconst X45.here hx rfl (hb hby at_69) k))) ?_
        show G T45 (mkF m 70 #[iv i0, iv i1, iv 0, rv w_AT_LEAST, iv (-1), .unset, .unset] [.int 0, .int 8, .ref b29, .ref b29])
        have V'46 := V_b29
        obtain ⟨cl46, Ar46, qk46, sz46, nn46, hs46, ft46⟩ := V'46
        have hin46 : ¬ ((8 : Int32) < 0 ∨ cl46.slots.size ≤ ((8 : Int32)).toNatClampNeg) := inb_of sz46 ⟨by decide, by decide⟩
        obtain ⟨T47, h47, X47, e47, W47, st47⟩ := stZ X45 hx hZ e45 Ar46 (j := (8 : Int32)) hin46 (g := (mkF m 70 #[iv i0, iv i1, iv 0, rv w_AT_LEAST, iv (-1), .unset, .unset] [.int 0, .int 8, .ref b29, .ref b29])) rfl rfl (hb hby at_70)
        have V_b29 : Arv Z h47 b29 k29 .boolean (12 : Int32) [(.int (nar .boolean (0 : Int32))), (.int (nar .boolean (1 : Int32))), (.int (nar .boolean (1 : Int32))), (.int (nar .boolean (0 : Int32))), (.int (nar .boolean (0 : Int32))), (.int (nar .boolean (1 : Int32))), (.int (nar .boolean (1 : Int32))), (.int (nar .boolean (1 : Int32))), (.int (nar .boolean (0 : Int32))), (.int (0 : Int32)), (.int (0 : Int32)), (.int (0 : Int32))] (.int (0 : Int32)) := Arv.set Ar46 qk46 sz46 nn46 hs46 ft46 (fits_nar_bool _) W47 8 rfl (Nat.le_of_ble_eq_true rfl)
        have O := O.wr W47 g_b29
        have N := Fr.snoc X47 N g_b29
        refine gb st47 ?_
        show G T47 (mkF m 71 #[iv i0, iv i1, iv 0, rv w_AT_LEAST, iv (-1), .unset, .unset] [.ref b29])
        refine gb (fun _ k => XS.dup X47.here hx rfl (hb hby at_71) rfl rfl (XS.bipush X47.here hx rfl (hb hby at_72) (XS.iconst X47.here hx rfl (hb hby at_74) k))) ?_
        show G T47 (mkF m 75 #[iv i0, iv i1, iv 0, rv w_AT_LEAST, iv (-1), .unset, .unset] [.int 1, .int 9, .ref b29, .ref b29])
        have V'48 := V_b29
        obtain ⟨cl48, Ar48, qk48, sz48, nn48, hs48, ft48⟩ := V'48
        have hin48 : ¬ ((9 : Int32) < 0 ∨ cl48.slots.size ≤ ((9 : Int32)).toNatClampNeg) := inb_of sz48 ⟨by decide, by decide⟩
        obtain ⟨T49, h49, X49, e49, W49, st49⟩ := stZ X47 hx hZ e47 Ar48 (j := (9 : Int32)) hin48 (g := (mkF m 75 #[iv i0, iv i1, iv 0, rv w_AT_LEAST, iv (-1), .unset, .unset] [.int 1, .int 9, .ref b29, .ref b29])) rfl rfl (hb hby at_75)
        have V_b29 : Arv Z h49 b29 k29 .boolean (12 : Int32) [(.int (nar .boolean (0 : Int32))), (.int (nar .boolean (1 : Int32))), (.int (nar .boolean (1 : Int32))), (.int (nar .boolean (0 : Int32))), (.int (nar .boolean (0 : Int32))), (.int (nar .boolean (1 : Int32))), (.int (nar .boolean (1 : Int32))), (.int (nar .boolean (1 : Int32))), (.int (nar .boolean (0 : Int32))), (.int (nar .boolean (1 : Int32))), (.int (0 : Int32)), (.int (0 : Int32))] (.int (0 : Int32)) := Arv.set Ar48 qk48 sz48 nn48 hs48 ft48 (fits_nar_bool _) W49 9 rfl (Nat.le_of_ble_eq_true rfl)
        have O := O.wr W49 g_b29
        have N := Fr.snoc X49 N g_b29
        refine gb st49 ?_
        show G T49 (mkF m 76 #[iv i0, iv i1, iv 0, rv w_AT_LEAST, iv (-1), .unset, .unset] [.ref b29])
        refine gb (fun _ k => XS.dup X49.here hx rfl (hb hby at_76) rfl rfl (XS.bipush X49.here hx rfl (hb hby at_77) (XS.iconst X49.here hx rfl (hb hby at_79) k))) ?_
        show G T49 (mkF m 80 #[iv i0, iv i1, iv 0, rv w_AT_LEAST, iv (-1), .unset, .unset] [.int 0, .int 10, .ref b29, .ref b29])
        have V'50 := V_b29
        obtain ⟨cl50, Ar50, qk50, sz50, nn50, hs50, ft50⟩ := V'50
        have hin50 : ¬ ((10 : Int32) < 0 ∨ cl50.slots.size ≤ ((10 : Int32)).toNatClampNeg) := inb_of sz50 ⟨by decide, by decide⟩
        obtain ⟨T51, h51, X51, e51, W51, st51⟩ := stZ X49 hx hZ e49 Ar50 (j := (10 : Int32)) hin50 (g := (mkF m 80 #[iv i0, iv i1, iv 0, rv w_AT_LEAST, iv (-1), .unset, .unset] [.int 0, .int 10, .ref b29, .ref b29])) rfl rfl (hb hby at_80)
        have V_b29 : Arv Z h51 b29 k29 .boolean (12 : Int32) [(.int (nar .boolean (0 : Int32))), (.int (nar .boolean (1 : Int32))), (.int (nar .boolean (1 : Int32))), (.int (nar .boolean (0 : Int32))), (.int (nar .boolean (0 : Int32))), (.int (nar .boolean (1 : Int32))), (.int (nar .boolean (1 : Int32))), (.int (nar .boolean (1 : Int32))), (.int (nar .boolean (0 : Int32))), (.int (nar .boolean (1 : Int32))), (.int (nar .boolean (0 : Int32))), (.int (0 : Int32))] (.int (0 : Int32)) := Arv.set Ar50 qk50 sz50 nn50 hs50 ft50 (fits_nar_bool _) W51 10 rfl (Nat.le_of_ble_eq_true rfl)
        have O := O.wr W51 g_b29
        have N := Fr.snoc X51 N g_b29
        refine gb st51 ?_
        show G T51 (mkF m 81 #[iv i0, iv i1, iv 0, rv w_AT_LEAST, iv (-1), .unset, .unset] [.ref b29])
        refine gb (fun _ k => XS.dup X51.here hx rfl (hb hby at_81) rfl rfl (XS.bipush X51.here hx rfl (hb hby at_82) (XS.iconst X51.here hx rfl (hb hby at_84) k))) ?_
        show G T51 (mkF m 85 #[iv i0, iv i1, iv 0, rv w_AT_LEAST, iv (-1), .unset, .unset] [.int 0, .int 11, .ref b29, .ref b29])
        have V'52 := V_b29
        obtain ⟨cl52, Ar52, qk52, sz52, nn52, hs52, ft52⟩ := V'52
        have hin52 : ¬ ((11 : Int32) < 0 ∨ cl52.slots.size ≤ ((11 : Int32)).toNatClampNeg) := inb_of sz52 ⟨by decide, by decide⟩
        obtain ⟨T53, h53, X53, e53, W53, st53⟩ := stZ X51 hx hZ e51 Ar52 (j := (11 : Int32)) hin52 (g := (mkF m 85 #[iv i0, iv i1, iv 0, rv w_AT_LEAST, iv (-1), .unset, .unset] [.int 0, .int 11, .ref b29, .ref b29])) rfl rfl (hb hby at_85)
        have V_b29 : Arv Z h53 b29 k29 .boolean (12 : Int32) [(.int (nar .boolean (0 : Int32))), (.int (nar .boolean (1 : Int32))), (.int (nar .boolean (1 : Int32))), (.int (nar .boolean (0 : Int32))), (.int (nar .boolean (0 : Int32))), (.int (nar .boolean (1 : Int32))), (.int (nar .boolean (1 : Int32))), (.int (nar .boolean (1 : Int32))), (.int (nar .boolean (0 : Int32))), (.int (nar .boolean (1 : Int32))), (.int (nar .boolean (0 : Int32))), (.int (nar .boolean (0 : Int32)))] (.int (0 : Int32)) := Arv.set Ar52 qk52 sz52 nn52 hs52 ft52 (fits_nar_bool _) W53 11 rfl (Nat.le_of_ble_eq_true rfl)
        have O := O.wr W53 g_b29
        have N := Fr.snoc X53 N g_b29
        refine gb st53 ?_
        show G T53 (mkF m 86 #[iv i0, iv i1, iv 0, rv w_AT_LEAST, iv (-1), .unset, .unset] [.ref b29])
        refine gb (fun _ k => XS.astore X53.here hx rfl (hb hby at_86) rfl rfl (l' := #[iv i0, iv i1, iv 0, rv w_AT_LEAST, iv (-1), rv b29, .unset]) rfl (XS.aload X53.here hx rfl (hb hby at_88) rfl rfl (XS.iloadN X53.here hx rfl (hb hby at_90) rfl (XS.iconst X53.here hx rfl (hb hby at_91) (XS.imul X53.here hx rfl (hb hby at_92) rfl (XS.iload X53.here hx rfl (hb hby at_93) rfl k)))))) ?_
        show G T53 (mkF m 95 #[iv i0, iv i1, iv 0, rv w_AT_LEAST, iv (-1), rv b29, .unset] [.int (-1), .int 0, .ref b29])
        refine gb (fun _ k => XS.iadd X53.here hx rfl (hb hby at_95) rfl (XS.iconst X53.here hx rfl (hb hby at_96) (XS.iadd X53.here hx rfl (hb hby at_97) rfl k))) ?_
        show G T53 (mkF m 98 #[iv i0, iv i1, iv 0, rv w_AT_LEAST, iv (-1), rv b29, .unset] [.int 0, .ref b29])
        have V'54 := V_b29
        obtain ⟨cl54, Ar54, qk54, sz54, nn54, hs54, ft54⟩ := V'54
        have hin54 : ¬ ((0 : Int32) < 0 ∨ cl54.slots.size ≤ ((0 : Int32)).toNatClampNeg) := inb_of sz54 ⟨by decide, by decide⟩
        have hat54 : cl54.slots[((0 : Int32)).toNatClampNeg]? = some (.int (nar .boolean (0 : Int32))) := hs54.at hin54 rfl
        refine gb (X53.baloadBooleans hx (j := (0 : Int32)) (v := (.int (nar .boolean (0 : Int32)))) (by rw [e53]; exact Ar54.1) (State.isArrayOf_alike hZ.alike Ar54.2.1) Ar54.2.2 hin54 hat54 (g := (mkF m 98 #[iv i0, iv i1, iv 0, rv w_AT_LEAST, iv (-1), rv b29, .unset] [.int 0, .ref b29])) rfl rfl (hb hby at_98)) ?_
        show G T53 (mkF m 99 #[iv i0, iv i1, iv 0, rv w_AT_LEAST, iv (-1), rv b29, .unset] [.int (nar .boolean (0 : Int32))])
        refine gb (fun _ k => XS.istore X53.here hx rfl (hb hby at_99) rfl (l' := #[iv i0, iv i1, iv 0, rv w_AT_LEAST, iv (-1), rv b29, iv (nar .boolean (0 : Int32))]) rfl (XS.aloadN X53.here hx rfl (hb hby at_101) rfl rfl (XS.iloadN X53.here hx rfl (hb hby at_102) rfl k))) ?_
        show G T53 (mkF m 103 #[iv i0, iv i1, iv 0, rv w_AT_LEAST, iv (-1), rv b29, iv (nar .boolean (0 : Int32))] [.int i1, .ref w_AT_LEAST])
        obtain ⟨cq55, kq55, q55a, q55b, q55c⟩ := isOf hZ e53 (E_AT_LEAST.ext O.2)
        obtain ⟨_, _, ⟨T55, L55, k55, n55⟩, -, X55, ⟨Lc55, hQ55, l55, y55, z55⟩, st55⟩ := X53.virtualBack hx (y := (⟨"com/example/wrought_gate/wroughtgate/engine/Comparison", "admits", "(I)Z"⟩ : MethodName)) (z := (⟨"com/example/wrought_gate/wroughtgate/engine/Comparison", "admits", "(I)Z"⟩ : MethodName)) hown (mvT hZ (ow hw 8 rfl)) (mvT hZ (ow hw 9 rfl)) (notFace_of_selects (args := #[]) (mvT hZ (ow hw 11 rfl))) (mvT hZ (ow hw 11 rfl)) (mvT hZ (ow hw 10 rfl)) (by decide) (backOf (W := 0) (rm2_0 l Z a0 hw [] w_AT_LEAST i1 h53 n0 O (E_AT_LEAST.ext O.2) (F_ordinal_AT_LEAST.ext O.2)) hZ (ow hw 12 rfl) (ow hw 5 rfl) (by decide) (by decide)) q55a q55c (g := (mkF m 103 #[iv i0, iv i1, iv 0, rv w_AT_LEAST, iv (-1), rv b29, iv (nar .boolean (0 : Int32))] [.int i1, .ref w_AT_LEAST])) rfl (by rw [hml]; rfl) (Steps.refl _) (argsL := [(.int i1)]) (rest := []) (lenOf pd_2 rfl) rfl (by show 2 * 0 + _ ≤ _; exact Nat.le_of_eq rfl) (hb hby at_103) (fun _ _ => ⟨rfl, e53, (by decide : 1 + 0 ≤ _), (by decide : 12 + 0 ≤ _)⟩)
        dsimp only [Pt.U, Pt.locs, Pt.cells, Pt.slots] at X55 l55 y55 z55 st55 hQ55
        subst l55 y55 z55
        obtain ⟨rfl, rfl, e55⟩ := hQ55
        try rw [List.append_nil] at X55
        refine gb (fun _ k => st55.trans k) ?_
        show G T55 (mkF m 106 #[iv i0, iv i1, iv 0, rv w_AT_LEAST, iv (-1), rv b29, iv (nar .boolean (0 : Int32))] [.int (if ¬ (i1 < (0 : Int32)) then (1 : Int32) else (0 : Int32))])
        refine gb (fun _ k => XS.iload X55.here hx rfl (hb hby at_106) rfl (XS.icmpNo X55.here hx rfl (hb hby at_108) rfl (teq (show (if ¬ (i1 < (0 : Int32)) then (1 : Int32) else (0 : Int32)) = (nar .boolean (0 : Int32)) by simp only [hA, hB, not_true_eq_false, not_false_eq_true, if_true, if_false]; rfl)).2 (XS.iconst X55.here hx rfl (hb hby at_111) (XS.goto X55.here hx rfl (pc0 := 112) (pc' := 116) rfl (hb hby at_112) (by decide) (by decide) k)))) ?_
        show G T55 (mkF m 116 #[iv i0, iv i1, iv 0, rv w_AT_LEAST, iv (-1), rv b29, iv (nar .boolean (0 : Int32))] [.int 1])
        exact go X55 (v := (some (.int (1 : Int32)))) (fun h => by rw [Bd.returns] at h; cases h) (fun fs hr => retOut X55 hx Bd.returns rfl (Or.inl ⟨rfl, by simp, _, rfl⟩) (hb hby at_116) hr) (⟨rfl, N⟩) (by decide) (by decide)
      · skip
        refine gb (fun _ k => XS.ifYes X1.here hx rfl (pc0 := 18) (pc' := 25) rfl (hb hby at_18) rfl ((if0 _ _).trans (flt hc18).2.1) (by decide) (by decide) (XS.iconst X1.here hx rfl (hb hby at_25) k)) ?_
        show G T1 (mkF m 26 #[iv i0, iv i1, iv 0, rv w_AT_LEAST, .unset, .unset, .unset] [.int 0])
        have hA : ¬ (i1 < (0 : Int32)) := hc18
        have hB : ¬ ((0 : Int32) < i1) := hc10
        refine gb (fun _ k => XS.istore X1.here hx rfl (hb hby at_26) rfl (l' := #[iv i0, iv i1, iv 0, rv w_AT_LEAST, iv 0, .unset, .unset]) rfl (XS.bipush X1.here hx rfl (hb hby at_28) k)) ?_
        show G T1 (mkF m 30 #[iv i0, iv i1, iv 0, rv w_AT_LEAST, iv 0, .unset, .unset] [.int 12])
        obtain ⟨T56, h56, k56, X56, e56, E56, A56, st56⟩ := newP X1 hx hZ (ow hw 7 rfl) e1 (g := (mkF m 30 #[iv i0, iv i1, iv 0, rv w_AT_LEAST, iv 0, .unset, .unset] [.int 12])) rfl (hb hby at_30) rfl (by decide) (cap := 12) (by decide) (by decide) (by decide) (by decide)
        obtain ⟨b56, g56⟩ : ∃ z, z = h0.size := ⟨_, rfl⟩
        rw [← g56] at A56 st56
        have g_b56 : n0 ≤ b56 := Nat.le_trans (by have := O.2.1; rw [O.1] at this; exact this) (Nat.le_of_eq g56.symm)
        have O := O.ext E56
        have V_b56 : Arv Z h56 b56 k56 .boolean (12 : Int32) [(.int (0 : Int32)), (.int (0 : Int32)), (.int (0 : Int32)), (.int (0 : Int32)), (.int (0 : Int32)), (.int (0 : Int32)), (.int (0 : Int32)), (.int (0 : Int32)), (.int (0 : Int32)), (.int (0 : Int32)), (.int (0 : Int32)), (.int (0 : Int32))] (.int (0 : Int32)) := (Arv.new A56 (by decide)).pad (pad_rep [] (.int (0 : Int32)) 12)
        refine gb st56 ?_
        show G T56 (mkF m 32 #[iv i0, iv i1, iv 0, rv w_AT_LEAST, iv 0, .unset, .unset] [.ref b56])
        refine gb (fun _ k => XS.dup X56.here hx rfl (hb hby at_32) rfl rfl (XS.iconst X56.here hx rfl (hb hby at_33) (XS.iconst X56.here hx rfl (hb hby at_34) k))) ?_
        show G T56 (mkF m 35 #[iv i0, iv i1, iv 0, rv w_AT_LEAST, iv 0, .unset, .unset] [.int 0, .int 0, .ref b56, .ref b56])
        have V'57 := V_b56
        obtain ⟨cl57, Ar57, qk57, sz57, nn57, hs57, ft57⟩ := V'57
        have hin57 : ¬ ((0 : Int32) < 0 ∨ cl57.slots.size ≤ ((0 : Int32)).toNatClampNeg) := inb_of sz57 ⟨by decide, by decide⟩
        obtain ⟨T58, h58, X58, e58, W58, st58⟩ := stZ X56 hx hZ e56 Ar57 (j := (0 : Int32)) hin57 (g := (mkF m 35 #[iv i0, iv i1, iv 0, rv w_AT_LEAST, iv 0, .unset, .unset] [.int 0, .int 0, .ref b56, .ref b56])) rfl rfl (hb hby at_35)
        have V_b56 : Arv Z h58 b56 k56 .boolean (12 : Int32) [(.int (nar .boolean (0 : Int32))), (.int (0 : Int32)), (.int (0 : Int32)), (.int (0 : Int32)), (.int (0 : Int32)), (.int (0 : Int32)), (.int (0 : Int32)), (.int (0 : Int32)), (.int (0 : Int32)), (.int (0 : Int32)), (.int (0 : Int32)), (.int (0 : Int32))] (.int (0 : Int32)) := Arv.set Ar57 qk57 sz57 nn57 hs57 ft57 (fits_nar_bool _) W58 0 rfl (Nat.le_of_ble_eq_true rfl)
        have O := O.wr W58 g_b56
        have N := Fr.snoc X58 N g_b56
        refine gb st58 ?_
        show G T58 (mkF m 36 #[iv i0, iv i1, iv 0, rv w_AT_LEAST, iv 0, .unset, .unset] [.ref b56])
        refine gb (fun _ k => XS.dup X58.here hx rfl (hb hby at_36) rfl rfl (XS.iconst X58.here hx rfl (hb hby at_37) (XS.iconst X58.here hx rfl (hb hby at_38) k))) ?_
        show G T58 (mkF m 39 #[iv i0, iv i1, iv 0, rv w_AT_LEAST, iv 0, .unset, .unset] [.int 1, .int 1, .ref b56, .ref b56])
        have V'59 := V_b56
        obtain ⟨cl59, Ar59, qk59, sz59, nn59, hs59, ft59⟩ := V'59
        have hin59 : ¬ ((1 : Int32) < 0 ∨ cl59.slots.size ≤ ((1 : Int32)).toNatClampNeg) := inb_of sz59 ⟨by decide, by decide⟩
        obtain ⟨T60, h60, X60, e60, W60, st60⟩ := stZ X58 hx hZ e58 Ar59 (j := (1 : Int32)) hin59 (g := (mkF m 39 #[iv i0, iv i1, iv 0, rv w_AT_LEAST, iv 0, .unset, .unset] [.int 1, .int 1, .ref b56, .ref b56])) rfl rfl (hb hby at_39)
        have V_b56 : Arv Z h60 b56 k56 .boolean (12 : Int32) [(.int (nar .boolean (0 : Int32))), (.int (nar .boolean (1 : Int32))), (.int (0 : Int32)), (.int (0 : Int32)), (.int (0 : Int32)), (.int (0 : Int32)), (.int (0 : Int32)), (.int (0 : Int32)), (.int (0 : Int32)), (.int (0 : Int32)), (.int (0 : Int32)), (.int (0 : Int32))] (.int (0 : Int32)) := Arv.set Ar59 qk59 sz59 nn59 hs59 ft59 (fits_nar_bool _) W60 1 rfl (Nat.le_of_ble_eq_true rfl)
        have O := O.wr W60 g_b56
        have N := Fr.snoc X60 N g_b56
        refine gb st60 ?_
        show G T60 (mkF m 40 #[iv i0, iv i1, iv 0, rv w_AT_LEAST, iv 0, .unset, .unset] [.ref b56])
        refine gb (fun _ k => XS.dup X60.here hx rfl (hb hby at_40) rfl rfl (XS.iconst X60.here hx rfl (hb hby at_41) (XS.iconst X60.here hx rfl (hb hby at_42) k))) ?_
        show G T60 (mkF m 43 #[iv i0, iv i1, iv 0, rv w_AT_LEAST, iv 0, .unset, .unset] [.int 1, .int 2, .ref b56, .ref b56])
        have V'61 := V_b56
        obtain ⟨cl61, Ar61, qk61, sz61, nn61, hs61, ft61⟩ := V'61
        have hin61 : ¬ ((2 : Int32) < 0 ∨ cl61.slots.size ≤ ((2 : Int32)).toNatClampNeg) := inb_of sz61 ⟨by decide, by decide⟩
        obtain ⟨T62, h62, X62, e62, W62, st62⟩ := stZ X60 hx hZ e60 Ar61 (j := (2 : Int32)) hin61 (g := (mkF m 43 #[iv i0, iv i1, iv 0, rv w_AT_LEAST, iv 0, .unset, .unset] [.int 1, .int 2, .ref b56, .ref b56])) rfl rfl (hb hby at_43)
        have V_b56 : Arv Z h62 b56 k56 .boolean (12 : Int32) [(.int (nar .boolean (0 : Int32))), (.int (nar .boolean (1 : Int32))), (.int (nar .boolean (1 : Int32))), (.int (0 : Int32)), (.int (0 : Int32)), (.int (0 : Int32)), (.int (0 : Int32)), (.int (0 : Int32)), (.int (0 : Int32)), (.int (0 : Int32)), (.int (0 : Int32)), (.int (0 : Int32))] (.int (0 : Int32)) := Arv.set Ar61 qk61 sz61 nn61 hs61 ft61 (fits_nar_bool _) W62 2 rfl (Nat.le_of_ble_eq_true rfl)
        have O := O.wr W62 g_b56
        have N := Fr.snoc X62 N g_b56
        refine gb st62 ?_
        show G T62 (mkF m 44 #[iv i0, iv i1, iv 0, rv w_AT_LEAST, iv 0, .unset, .unset] [.ref b56])
        refine gb (fun _ k => XS.dup X62.here hx rfl (hb hby at_44) rfl rfl (XS.iconst X62.here hx rfl (hb hby at_45) (XS.iconst X62.here hx rfl (hb hby at_46) k))) ?_
        show G T62 (mkF m 47 #[iv i0, iv i1, iv 0, rv w_AT_LEAST, iv 0, .unset, .unset] [.int 0, .int 3, .ref b56, .ref b56])
        have V'63 := V_b56
        obtain ⟨cl63, Ar63, qk63, sz63, nn63, hs63, ft63⟩ := V'63
        have hin63 : ¬ ((3 : Int32) < 0 ∨ cl63.slots.size ≤ ((3 : Int32)).toNatClampNeg) := inb_of sz63 ⟨by decide, by decide⟩
        obtain ⟨T64, h64, X64, e64, W64, st64⟩ := stZ X62 hx hZ e62 Ar63 (j := (3 : Int32)) hin63 (g := (mkF m 47 #[iv i0, iv i1, iv 0, rv w_AT_LEAST, iv 0, .unset, .unset] [.int 0, .int 3, .ref b56, .ref b56])) rfl rfl (hb hby at_47)
        have V_b56 : Arv Z h64 b56 k56 .boolean (12 : Int32) [(.int (nar .boolean (0 : Int32))), (.int (nar .boolean (1 : Int32))), (.int (nar .boolean (1 : Int32))), (.int (nar .boolean (0 : Int32))), (.int (0 : Int32)), (.int (0 : Int32)), (.int (0 : Int32)), (.int (0 : Int32)), (.int (0 : Int32)), (.int (0 : Int32)), (.int (0 : Int32)), (.int (0 : Int32))] (.int (0 : Int32)) := Arv.set Ar63 qk63 sz63 nn63 hs63 ft63 (fits_nar_bool _) W64 3 rfl (Nat.le_of_ble_eq_true rfl)
        have O := O.wr W64 g_b56
        have N := Fr.snoc X64 N g_b56
        refine gb st64 ?_
        show G T64 (mkF m 48 #[iv i0, iv i1, iv 0, rv w_AT_LEAST, iv 0, .unset, .unset] [.ref b56])
        refine gb (fun _ k => XS.dup X64.here hx rfl (hb hby at_48) rfl rfl (XS.iconst X64.here hx rfl (hb hby at_49) (XS.iconst X64.here hx rfl (hb hby at_50) k))) ?_
        show G T64 (mkF m 51 #[iv i0, iv i1, iv 0, rv w_AT_LEAST, iv 0, .unset, .unset] [.int 0, .int 4, .ref b56, .ref b56])
        have V'65 := V_b56
        obtain ⟨cl65, Ar65, qk65, sz65, nn65, hs65, ft65⟩ := V'65
        have hin65 : ¬ ((4 : Int32) < 0 ∨ cl65.slots.size ≤ ((4 : Int32)).toNatClampNeg) := inb_of sz65 ⟨by decide, by decide⟩
        obtain ⟨T66, h66, X66, e66, W66, st66⟩ := stZ X64 hx hZ e64 Ar65 (j := (4 : Int32)) hin65 (g := (mkF m 51 #[iv i0, iv i1, iv 0, rv w_AT_LEAST, iv 0, .unset, .unset] [.int 0, .int 4, .ref b56, .ref b56])) rfl rfl (hb hby at_51)
        have V_b56 : Arv Z h66 b56 k56 .boolean (12 : Int32) [(.int (nar .boolean (0 : Int32))), (.int (nar .boolean (1 : Int32))), (.int (nar .boolean (1 : Int32))), (.int (nar .boolean (0 : Int32))), (.int (nar .boolean (0 : Int32))), (.int (0 : Int32)), (.int (0 : Int32)), (.int (0 : Int32)), (.int (0 : Int32)), (.int (0 : Int32)), (.int (0 : Int32)), (.int (0 : Int32))] (.int (0 : Int32)) := Arv.set Ar65 qk65 sz65 nn65 hs65 ft65 (fits_nar_bool _) W66 4 rfl (Nat.le_of_ble_eq_true rfl)
        have O := O.wr W66 g_b56
        have N := Fr.snoc X66 N g_b56
        refine gb st66 ?_
        show G T66 (mkF m 52 #[iv i0, iv i1, iv 0, rv w_AT_LEAST, iv 0, .unset, .unset] [.ref b56])
        refine gb (fun _ k => XS.dup X66.here hx rfl (hb hby at_52) rfl rfl (XS.iconst X66.here hx rfl (hb hby at_53) (XS.iconst X66.here hx rfl (hb hby at_54) k))) ?_
        show G T66 (mkF m 55 #[iv i0, iv i1, iv 0, rv w_AT_LEAST, iv 0, .unset, .unset] [.int 1, .int 5, .ref b56, .ref b56])
        have V'67 := V_b56
        obtain ⟨cl67, Ar67, qk67, sz67, nn67, hs67, ft67⟩ := V'67
        have hin67 : ¬ ((5 : Int32) < 0 ∨ cl67.slots.size ≤ ((5 : Int32)).toNatClampNeg) := inb_of sz67 ⟨by decide, by decide⟩
        obtain ⟨T68, h68, X68, e68, W68, st68⟩ := stZ X66 hx hZ e66 Ar67 (j := (5 : Int32)) hin67 (g := (mkF m 55 #[iv i0, iv i1, iv 0, rv w_AT_LEAST, iv 0, .unset, .unset] [.int 1, .int 5, .ref b56, .ref b56])) rfl rfl (hb hby at_55)
        have V_b56 : Arv Z h68 b56 k56 .boolean (12 : Int32) [(.int (nar .boolean (0 : Int32))), (.int (nar .boolean (1 : Int32))), (.int (nar .boolean (1 : Int32))), (.int (nar .boolean (0 : Int32))), (.int (nar .boolean (0 : Int32))), (.int (nar .boolean (1 : Int32))), (.int (0 : Int32)), (.int (0 : Int32)), (.int (0 : Int32)), (.int (0 : Int32)), (.int (0 : Int32)), (.int (0 : Int32))] (.int (0 : Int32)) := Arv.set Ar67 qk67 sz67 nn67 hs67 ft67 (fits_nar_bool _) W68 5 rfl (Nat.le_of_ble_eq_true rfl)
        have O := O.wr W68 g_b56
        have N := Fr.snoc X68 N g_b56
        refine gb st68 ?_
        show G T68 (mkF m 56 #[iv i0, iv i1, iv 0, rv w_AT_LEAST, iv 0, .unset, .unset] [.ref b56])
        refine gb (fun _ k => XS.dup X68.here hx rfl (hb hby at_56) rfl rfl (XS.bipush X68.here hx rfl (hb hby at_57) (XS.iconst X68.here hx rfl (hb hby at_59) k))) ?_
        show G T68 (mkF m 60 #[iv i0, iv i1, iv 0, rv w_AT_LEAST, iv 0, .unset, .unset] [.int 1, .int 6, .ref b56, .ref b56])
        have V'69 := V_b56
        obtain ⟨cl69, Ar69, qk69, sz69, nn69, hs69, ft69⟩ := V'69
        have hin69 : ¬ ((6 : Int32) < 0 ∨ cl69.slots.size ≤ ((6 : Int32)).toNatClampNeg) := inb_of sz69 ⟨by decide, by decide⟩
        obtain ⟨T70, h70, X70, e70, W70, st70⟩ := stZ X68 hx hZ e68 Ar69 (j := (6 : Int32)) hin69 (g := (mkF m 60 #[iv i0, iv i1, iv 0, rv w_AT_LEAST, iv 0, .unset, .unset] [.int 1, .int 6, .ref b56, .ref b56])) rfl rfl (hb hby at_60)
        have V_b56 : Arv Z h70 b56 k56 .boolean (12 : Int32) [(.int (nar .boolean (0 : Int32))), (.int (nar .boolean (1 : Int32))), (.int (nar .boolean (1 : Int32))), (.int (nar .boolean (0 : Int32))), (.int (nar .boolean (0 : Int32))), (.int (nar .boolean (1 : Int32))), (.int (nar .boolean (1 : Int32))), (.int (0 : Int32)), (.int (0 : Int32)), (.int (0 : Int32)), (.int (0 : Int32)), (.int (0 : Int32))] (.int (0 : Int32)) := Arv.set Ar69 qk69 sz69 nn69 hs69 ft69 (fits_nar_bool _) W70 6 rfl (Nat.le_of_ble_eq_true rfl)
        have O := O.wr W70 g_b56
        have N := Fr.snoc X70 N g_b56
        refine gb st70 ?_
        show G T70 (mkF m 61 #[iv i0, iv i1, iv 0, rv w_AT_LEAST, iv 0, .unset, .unset] [.ref b56])
        refine gb (fun _ k => XS.dup X70.here hx rfl (hb hby at_61) rfl rfl (XS.bipush X70.here hx rfl (hb hby at_62) (XS.iconst X70.here hx rfl (hb hby at_64) k))) ?_
        show G T70 (mkF m 65 #[iv i0, iv i1, iv 0, rv w_AT_LEAST, iv 0, .unset, .unset] [.int 1, .int 7, .ref b56, .ref b56])
        have V'71 := V_b56
        obtain ⟨cl71, Ar71, qk71, sz71, nn71, hs71, ft71⟩ := V'71
        have hin71 : ¬ ((7 : Int32) < 0 ∨ cl71.slots.size ≤ ((7 : Int32)).toNatClampNeg) := inb_of sz71 ⟨by decide, by decide⟩
        obtain ⟨T72, h72, X72, e72, W72, st72⟩ := stZ X70 hx hZ e70 Ar71 (j := (7 : Int32)) hin71 (g := (mkF m 65 #[iv i0, iv i1, iv 0, rv w_AT_LEAST, iv 0, .unset, .unset] [.int 1, .int 7, .ref b56, .ref b56])) rfl rfl (hb hby at_65)
        have V_b56 : Arv Z h72 b56 k56 .boolean (12 : Int32) [(.int (nar .boolean (0 : Int32))), (.int (nar .boolean (1 : Int32))), (.int (nar .boolean (1 : Int32))), (.int (nar .boolean (0 : Int32))), (.int (nar .boolean (0 : Int32))), (.int (nar .boolean (1 : Int32))), (.int (nar .boolean (1 : Int32))), (.int (nar .boolean (1 : Int32))), (.int (0 : Int32)), (.int (0 : Int32)), (.int (0 : Int32)), (.int (0 : Int32))] (.int (0 : Int32)) := Arv.set Ar71 qk71 sz71 nn71 hs71 ft71 (fits_nar_bool _) W72 7 rfl (Nat.le_of_ble_eq_true rfl)
        have O := O.wr W72 g_b56
        have N := Fr.snoc X72 N g_b56
        refine gb st72 ?_
        show G T72 (mkF m 66 #[iv i0, iv i1, iv 0, rv w_AT_LEAST, iv 0, .unset, .unset] [.ref b56])
        refine gb (fun _ k => XS.dup X72.here hx rfl (hb hby at_66) rfl rfl (XS.bipush X72.here hx rfl (hb hby at_67) (XS.iconst X72.here hx rfl (hb hby at_69) k))) ?_
        show G T72 (mkF m 70 #[iv i0, iv i1, iv 0, rv w_AT_LEAST, iv 0, .unset, .unset] [.int 0, .int 8, .ref b56, .ref b56])
        have V'73 := V_b56
        obtain ⟨cl73, Ar73, qk73, sz73, nn73, hs73, ft73⟩ := V'73
        have hin73 : ¬ ((8 : Int32) < 0 ∨ cl73.slots.size ≤ ((8 : Int32)).toNatClampNeg) := inb_of sz73 ⟨by decide, by decide⟩
        obtain ⟨T74, h74, X74, e74, W74, st74⟩ := stZ X72 hx hZ e72 Ar73 (j := (8 : Int32)) hin73 (g := (mkF m 70 #[iv i0, iv i1, iv 0, rv w_AT_LEAST, iv 0, .unset, .unset] [.int 0, .int 8, .ref b56, .ref b56])) rfl rfl (hb hby at_70)
        have V_b56 : Arv Z h74 b56 k56 .boolean (12 : Int32) [(.int (nar .boolean (0 : Int32))), (.int (nar .boolean (1 : Int32))), (.int (nar .boolean (1 : Int32))), (.int (nar .boolean (0 : Int32))), (.int (nar .boolean (0 : Int32))), (.int (nar .boolean (1 : Int32))), (.int (nar .boolean (1 : Int32))), (.int (nar .boolean (1 : Int32))), (.int (nar .boolean (0 : Int32))), (.int (0 : Int32)), (.int (0 : Int32)), (.int (0 : Int32))] (.int (0 : Int32)) := Arv.set Ar73 qk73 sz73 nn73 hs73 ft73 (fits_nar_bool _) W74 8 rfl (Nat.le_of_ble_eq_true rfl)
        have O := O.wr W74 g_b56
        have N := Fr.snoc X74 N g_b56
        refine gb st74 ?_
        show G T74 (mkF m 71 #[iv i0, iv i1, iv 0, rv w_AT_LEAST, iv 0, .unset, .unset] [.ref b56])
        refine gb (fun _ k => XS.dup X74.here hx rfl (hb hby at_71) rfl rfl (XS.bipush X74.here hx rfl (hb hby at_72) (XS.iconst X74.here hx rfl (hb hby at_74) k))) ?_
        show G T74 (mkF m 75 #[iv i0, iv i1, iv 0, rv w_AT_LEAST, iv 0, .unset, .unset] [.int 1, .int 9, .ref b56, .ref b56])
        have V'75 := V_b56
        obtain ⟨cl75, Ar75, qk75, sz75, nn75, hs75, ft75⟩ := V'75
        have hin75 : ¬ ((9 : Int32) < 0 ∨ cl75.slots.size ≤ ((9 : Int32)).toNatClampNeg) := inb_of sz75 ⟨by decide, by decide⟩
        obtain ⟨T76, h76, X76, e76, W76, st76⟩ := stZ X74 hx hZ e74 Ar75 (j := (9 : Int32)) hin75 (g := (mkF m 75 #[iv i0, iv i1, iv 0, rv w_AT_LEAST, iv 0, .unset, .unset] [.int 1, .int 9, .ref b56, .ref b56])) rfl rfl (hb hby at_75)
        have V_b56 : Arv Z h76 b56 k56 .boolean (12 : Int32) [(.int (nar .boolean (0 : Int32))), (.int (nar .boolean (1 : Int32))), (.int (nar .boolean (1 : Int32))), (.int (nar .boolean (0 : Int32))), (.int (nar .boolean (0 : Int32))), (.int (nar .boolean (1 : Int32))), (.int (nar .boolean (1 : Int32))), (.int (nar .boolean (1 : Int32))), (.int (nar .boolean (0 : Int32))), (.int (nar .boolean (1 : Int32))), (.int (0 : Int32)), (.int (0 : Int32))] (.int (0 : Int32)) := Arv.set Ar75 qk75 sz75 nn75 hs75 ft75 (fits_nar_bool _) W76 9 rfl (Nat.le_of_ble_eq_true rfl)
        have O := O.wr W76 g_b56
        have N := Fr.snoc X76 N g_b56
        refine gb st76 ?_
        show G T76 (mkF m 76 #[iv i0, iv i1, iv 0, rv w_AT_LEAST, iv 0, .unset, .unset] [.ref b56])
        refine gb (fun _ k => XS.dup X76.here hx rfl (hb hby at_76) rfl rfl (XS.bipush X76.here hx rfl (hb hby at_77) (XS.iconst X76.here hx rfl (hb hby at_79) k))) ?_
        show G T76 (mkF m 80 #[iv i0, iv i1, iv 0, rv w_AT_LEAST, iv 0, .unset, .unset] [.int 0, .int 10, .ref b56, .ref b56])
        have V'77 := V_b56
        obtain ⟨cl77, Ar77, qk77, sz77, nn77, hs77, ft77⟩ := V'77
        have hin77 : ¬ ((10 : Int32) < 0 ∨ cl77.slots.size ≤ ((10 : Int32)).toNatClampNeg) := inb_of sz77 ⟨by decide, by decide⟩
        obtain ⟨T78, h78, X78, e78, W78, st78⟩ := stZ X76 hx hZ e76 Ar77 (j := (10 : Int32)) hin77 (g := (mkF m 80 #[iv i0, iv i1, iv 0, rv w_AT_LEAST, iv 0, .unset, .unset] [.int 0, .int 10, .ref b56, .ref b56])) rfl rfl (hb hby at_80)
        have V_b56 : Arv Z h78 b56 k56 .boolean (12 : Int32) [(.int (nar .boolean (0 : Int32))), (.int (nar .boolean (1 : Int32))), (.int (nar .boolean (1 : Int32))), (.int (nar .boolean (0 : Int32))), (.int (nar .boolean (0 : Int32))), (.int (nar .boolean (1 : Int32))), (.int (nar .boolean (1 : Int32))), (.int (nar .boolean (1 : Int32))), (.int (nar .boolean (0 : Int32))), (.int (nar .boolean (1 : Int32))), (.int (nar .boolean (0 : Int32))), (.int (0 : Int32))] (.int (0 : Int32)) := Arv.set Ar77 qk77 sz77 nn77 hs77 ft77 (fits_nar_bool _) W78 10 rfl (Nat.le_of_ble_eq_true rfl)
        have O := O.wr W78 g_b56
        have N := Fr.snoc X78 N g_b56
        refine gb st78 ?_
        show G T78 (mkF m 81 #[iv i0, iv i1, iv 0, rv w_AT_LEAST, iv 0, .unset, .unset] [.ref b56])
        refine gb (fun _ k => XS.dup X78.here hx rfl (hb hby at_81) rfl rfl (XS.bipush X78.here hx rfl (hb hby at_82) (XS.iconst X78.here hx rfl (hb hby at_84) k))) ?_
        show G T78 (mkF m 85 #[iv i0, iv i1, iv 0, rv w_AT_LEAST, iv 0, .unset, .unset] [.int 0, .int 11, .ref b56, .ref b56])
        have V'79 := V_b56
        obtain ⟨cl79, Ar79, qk79, sz79, nn79, hs79, ft79⟩ := V'79
        have hin79 : ¬ ((11 : Int32) < 0 ∨ cl79.slots.size ≤ ((11 : Int32)).toNatClampNeg) := inb_of sz79 ⟨by decide, by decide⟩
        obtain ⟨T80, h80, X80, e80, W80, st80⟩ := stZ X78 hx hZ e78 Ar79 (j := (11 : Int32)) hin79 (g := (mkF m 85 #[iv i0, iv i1, iv 0, rv w_AT_LEAST, iv 0, .unset, .unset] [.int 0, .int 11, .ref b56, .ref b56])) rfl rfl (hb hby at_85)
        have V_b56 : Arv Z h80 b56 k56 .boolean (12 : Int32) [(.int (nar .boolean (0 : Int32))), (.int (nar .boolean (1 : Int32))), (.int (nar .boolean (1 : Int32))), (.int (nar .boolean (0 : Int32))), (.int (nar .boolean (0 : Int32))), (.int (nar .boolean (1 : Int32))), (.int (nar .boolean (1 : Int32))), (.int (nar .boolean (1 : Int32))), (.int (nar .boolean (0 : Int32))), (.int (nar .boolean (1 : Int32))), (.int (nar .boolean (0 : Int32))), (.int (nar .boolean (0 : Int32)))] (.int (0 : Int32)) := Arv.set Ar79 qk79 sz79 nn79 hs79 ft79 (fits_nar_bool _) W80 11 rfl (Nat.le_of_ble_eq_true rfl)
        have O := O.wr W80 g_b56
        have N := Fr.snoc X80 N g_b56
        refine gb st80 ?_
        show G T80 (mkF m 86 #[iv i0, iv i1, iv 0, rv w_AT_LEAST, iv 0, .unset, .unset] [.ref b56])
        refine gb (fun _ k => XS.astore X80.here hx rfl (hb hby at_86) rfl rfl (l' := #[iv i0, iv i1, iv 0, rv w_AT_LEAST, iv 0, rv b56, .unset]) rfl (XS.aload X80.here hx rfl (hb hby at_88) rfl rfl (XS.iloadN X80.here hx rfl (hb hby at_90) rfl (XS.iconst X80.here hx rfl (hb hby at_91) (XS.imul X80.here hx rfl (hb hby at_92) rfl (XS.iload X80.here hx rfl (hb hby at_93) rfl k)))))) ?_
        show G T80 (mkF m 95 #[iv i0, iv i1, iv 0, rv w_AT_LEAST, iv 0, rv b56, .unset] [.int 0, .int 0, .ref b56])
        refine gb (fun _ k => XS.iadd X80.here hx rfl (hb hby at_95) rfl (XS.iconst X80.here hx rfl (hb hby at_96) (XS.iadd X80.here hx rfl (hb hby at_97) rfl k))) ?_
        show G T80 (mkF m 98 #[iv i0, iv i1, iv 0, rv w_AT_LEAST, iv 0, rv b56, .unset] [.int 1, .ref b56])
        have V'81 := V_b56
        obtain ⟨cl81, Ar81, qk81, sz81, nn81, hs81, ft81⟩ := V'81
        have hin81 : ¬ ((1 : Int32) < 0 ∨ cl81.slots.size ≤ ((1 : Int32)).toNatClampNeg) := inb_of sz81 ⟨by decide, by decide⟩
        have hat81 : cl81.slots[((1 : Int32)).toNatClampNeg]? = some (.int (nar .boolean (1 : Int32))) := hs81.at hin81 rfl
        refine gb (X80.baloadBooleans hx (j := (1 : Int32)) (v := (.int (nar .boolean (1 : Int32)))) (by rw [e80]; exact Ar81.1) (State.isArrayOf_alike hZ.alike Ar81.2.1) Ar81.2.2 hin81 hat81 (g := (mkF m 98 #[iv i0, iv i1, iv 0, rv w_AT_LEAST, iv 0, rv b56, .unset] [.int 1, .ref b56])) rfl rfl (hb hby at_98)) ?_
        show G T80 (mkF m 99 #[iv i0, iv i1, iv 0, rv w_AT_LEAST, iv 0, rv b56, .unset] [.int (nar .boolean (1 : Int32))])
        refine gb (fun _ k => XS.istore X80.here hx rfl (hb hby at_99) rfl (l' := #[iv i0, iv i1, iv 0, rv w_AT_LEAST, iv 0, rv b56, iv (nar .boolean (1 : Int32))]) rfl (XS.aloadN X80.here hx rfl (hb hby at_101) rfl rfl (XS.iloadN X80.here hx rfl (hb hby at_102) rfl k))) ?_
        show G T80 (mkF m 103 #[iv i0, iv i1, iv 0, rv w_AT_LEAST, iv 0, rv b56, iv (nar .boolean (1 : Int32))] [.int i1, .ref w_AT_LEAST])
        obtain ⟨cq82, kq82, q82a, q82b, q82c⟩ := isOf hZ e80 (E_AT_LEAST.ext O.2)
        obtain ⟨_, _, ⟨T82, L82, k82, n82⟩, -, X82, ⟨Lc82, hQ82, l82, y82, z82⟩, st82⟩ := X80.virtualBack hx (y := (⟨"com/example/wrought_gate/wroughtgate/engine/Comparison", "admits", "(I)Z"⟩ : MethodName)) (z := (⟨"com/example/wrought_gate/wroughtgate/engine/Comparison", "admits", "(I)Z"⟩ : MethodName)) hown (mvT hZ (ow hw 8 rfl)) (mvT hZ (ow hw 9 rfl)) (notFace_of_selects (args := #[]) (mvT hZ (ow hw 11 rfl))) (mvT hZ (ow hw 11 rfl)) (mvT hZ (ow hw 10 rfl)) (by decide) (backOf (W := 0) (rm2_0 l Z a0 hw [] w_AT_LEAST i1 h80 n0 O (E_AT_LEAST.ext O.2) (F_ordinal_AT_LEAST.ext O.2)) hZ (ow hw 12 rfl) (ow hw 5 rfl) (by decide) (by decide)) q82a q82c (g := (mkF m 103 #[iv i0, iv i1, iv 0, rv w_AT_LEAST, iv 0, rv b56, iv (nar .boolean (1 : Int32))] [.int i1, .ref w_AT_LEAST])) rfl (by rw [hml]; rfl) (Steps.refl _) (argsL := [(.int i1)]) (rest := []) (lenOf pd_2 rfl) rfl (by show 2 * 0 + _ ≤ _; exact Nat.le_of_eq rfl) (hb hby at_103) (fun _ _ => ⟨rfl, e80, (by decide : 1 + 0 ≤ _), (by decide : 12 + 0 ≤ _)⟩)
        dsimp only [Pt.U, Pt.locs, Pt.cells, Pt.slots] at X82 l82 y82 z82 st82 hQ82
        subst l82 y82 z82
        obtain ⟨rfl, rfl, e82⟩ := hQ82
        try rw [List.append_nil] at X82
        refine gb (fun _ k => st82.trans k) ?_
        show G T82 (mkF m 106 #[iv i0, iv i1, iv 0, rv w_AT_LEAST, iv 0, rv b56, iv (nar .boolean (1 : Int32))] [.int (if ¬ (i1 < (0 : Int32)) then (1 : Int32) else (0 : Int32))])
        refine gb (fun _ k => XS.iload X82.here hx rfl (hb hby at_106) rfl (XS.icmpNo X82.here hx rfl (hb hby at_108) rfl (teq (show (if ¬ (i1 < (0 : Int32)) then (1 : Int32) else (0 : Int32)) = (nar .boolean (1 : Int32)) by simp only [hA, hB, not_true_eq_false, not_false_eq_true, if_true, if_false]; rfl)).2 (XS.iconst X82.here hx rfl (hb hby at_111) (XS.goto X82.here hx rfl (pc0 := 112) (pc' := 116) rfl (hb hby at_112) (by decide) (by decide) k)))) ?_
        show G T82 (mkF m 116 #[iv i0, iv i1, iv 0, rv w_AT_LEAST, iv 0, rv b56, iv (nar .boolean (1 : Int32))] [.int 1])
        exact go X82 (v := (some (.int (1 : Int32)))) (fun h => by rw [Bd.returns] at h; cases h) (fun fs hr => retOut X82 hx Bd.returns rfl (Or.inl ⟨rfl, by simp, _, rfl⟩) (hb hby at_116) hr) (⟨rfl, N⟩) (by decide) (by decide)
  · skip
    rw [hk]
    show G s₁ (mkF m 4 #[iv i0, iv i1, iv 1, .unset, .unset, .unset, .unset] [])
    refine gb (fun _ k => XS.iloadN X0.here hx rfl (hb hby at_4) rfl k) ?_
    show G s₁ (mkF m 5 #[iv i0, iv i1, iv 1, .unset, .unset, .unset, .unset] [.int 1])
    obtain ⟨_, _, ⟨T83, L83, k83, n83⟩, -, X83, ⟨Lc83, hQ83, l83, y83, z83⟩, st83⟩ := Jvm.LawKit.callS X0 hx (y := (⟨"com/example/wrought_gate/wroughtgate/engine/ComparisonAdmitsPinLaw", "pick", "(I)Lcom/example/wrought_gate/wroughtgate/engine/Comparison;"⟩ : MethodName)) hown (mvT hZ (ow hw 0 rfl)) (mvT hZ (ow hw 1 rfl)) (mvT hZ (ow hw 2 rfl)) (mvT hZ (ow hw 3 rfl)) (by decide) (backOf (W := 0) (rm1_1 l Z a0 hw [] h0 n0 O w_GREATER_THAN S_GREATER_THAN) hZ (ow hw 3 rfl) (ow hw 2 rfl) (by decide) (by decide)) (g := (mkF m 5 #[iv i0, iv i1, iv 1, .unset, .unset, .unset, .unset] [.int 1])) rfl (by rw [hml]; rfl) (argsL := [(.int (1 : Int32))]) (rest := []) (lenOf pd_1 rfl) rfl (by show 2 * 0 + _ ≤ _; exact Nat.le_of_eq rfl) (hb hby at_5) (fun _ _ => ⟨rfl, e0, (by decide : 0 + 0 ≤ _), (by decide : 0 + 0 ≤ _)⟩)
    dsimp only [Pt.U, Pt.locs, Pt.cells, Pt.slots] at X83 l83 y83 z83 st83 hQ83
    subst l83 y83 z83
    obtain ⟨rfl, rfl, e83⟩ := hQ83
    try rw [List.append_nil] at X83
    refine gb st83 ?_
    show G T83 (mkF m 8 #[iv i0, iv i1, iv 1, .unset, .unset, .unset, .unset] [.ref w_GREATER_THAN])
    refine gb (fun _ k => XS.astoreN X83.here hx rfl (hb hby at_8) rfl rfl (l' := #[iv i0, iv i1, iv 1, rv w_GREATER_THAN, .unset, .unset, .unset]) rfl (XS.iloadN X83.here hx rfl (hb hby at_9) rfl k)) ?_
    show G T83 (mkF m 10 #[iv i0, iv i1, iv 1, rv w_GREATER_THAN, .unset, .unset, .unset] [.int i1])
    by_cases hc10 : (0 : Int32) < i1
    · skip
      refine gb (fun _ k => XS.ifNo X83.here hx rfl (hb hby at_10) rfl ((if0 _ _).trans (tlt hc10).2.2.2) (XS.iconst X83.here hx rfl (hb hby at_13) (XS.goto X83.here hx rfl (pc0 := 14) (pc' := 26) rfl (hb hby at_14) (by decide) (by decide) k))) ?_
      show G T83 (mkF m 26 #[iv i0, iv i1, iv 1, rv w_GREATER_THAN, .unset, .unset, .unset] [.int 1])
      have hB : (0 : Int32) < i1 := hc10
      have hA : ¬ (i1 < (0 : Int32)) := own_asym hB
      refine gb (fun _ k => XS.istore X83.here hx rfl (hb hby at_26) rfl (l' := #[iv i0, iv i1, iv 1, rv w_GREATER_THAN, iv 1, .unset, .unset]) rfl (XS.bipush X83.here hx rfl (hb hby at_28) k)) ?_
      show G T83 (mkF m 30 #[iv i0, iv i1, iv 1, rv w_GREATER_THAN, iv 1, .unset, .unset] [.int 12])
      obtain ⟨T84, h84, k84, X84, e84, E84, A84, st84⟩ := newP X83 hx hZ (ow hw 7 rfl) e83 (g := (mkF m 30 #[iv i0, iv i1, iv 1, rv w_GREATER_THAN, iv 1, .unset, .unset] [.int 12])) rfl (hb hby at_30) rfl (by decide) (cap := 12) (by decide) (by decide) (by decide) (by decide)
      obtain ⟨b84, g84⟩ : ∃ z, z = h0.size := ⟨_, rfl⟩
      rw [← g84] at A84 st84
      have g_b84 : n0 ≤ b84 := Nat.le_trans (by have := O.2.1; rw [O.1] at this; exact this) (Nat.le_of_eq g84.symm)
      have O := O.ext E84
      have V_b84 : Arv Z h84 b84 k84 .boolean (12 : Int32) [(.int (0 : Int32)), (.int (0 : Int32)), (.int (0 : Int32)), (.int (0 : Int32)), (.int (0 : Int32)), (.int (0 : Int32)), (.int (0 : Int32)), (.int (0 : Int32)), (.int (0 : Int32)), (.int (0 : Int32)), (.int (0 : Int32)), (.int (0 : Int32))] (.int (0 : Int32)) := (Arv.new A84 (by decide)).pad (pad_rep [] (.int (0 : Int32)) 12)
      refine gb st84 ?_
      show G T84 (mkF m 32 #[iv i0, iv i1, iv 1, rv w_GREATER_THAN, iv 1, .unset, .unset] [.ref b84])
      refine gb (fun _ k => XS.dup X84.here hx rfl (hb hby at_32) rfl rfl (XS.iconst X84.here hx rfl (hb hby at_33) (XS.iconst X84.here hx rfl (hb hby at_34) k))) ?_
      show G T84 (mkF m 35 #[iv i0, iv i1, iv 1, rv w_GREATER_THAN, iv 1, .unset, .unset] [.int 0, .int 0, .ref b84, .ref b84])
      have V'85 := V_b84
      obtain ⟨cl85, Ar85, qk85, sz85, nn85, hs85, ft85⟩ := V'85
      have hin85 : ¬ ((0 : Int32) < 0 ∨ cl85.slots.size ≤ ((0 : Int32)).toNatClampNeg) := inb_of sz85 ⟨by decide, by decide⟩
      obtain ⟨T86, h86, X86, e86, W86, st86⟩ := stZ X84 hx hZ e84 Ar85 (j := (0 : Int32)) hin85 (g := (mkF m 35 #[iv i0, iv i1, iv 1, rv w_GREATER_THAN, iv 1, .unset, .unset] [.int 0, .int 0, .ref b84, .ref b84])) rfl rfl (hb hby at_35)
      have V_b84 : Arv Z h86 b84 k84 .boolean (12 : Int32) [(.int (nar .boolean (0 : Int32))), (.int (0 : Int32)), (.int (0 : Int32)), (.int (0 : Int32)), (.int (0 : Int32)), (.int (0 : Int32)), (.int (0 : Int32)), (.int (0 : Int32)), (.int (0 : Int32)), (.int (0 : Int32)), (.int (0 : Int32)), (.int (0 : Int32))] (.int (0 : Int32)) := Arv.set Ar85 qk85 sz85 nn85 hs85 ft85 (fits_nar_bool _) W86 0 rfl (Nat.le_of_ble_eq_true rfl)
      have O := O.wr W86 g_b84
      have N := Fr.snoc X86 N g_b84
      refine gb st86 ?_
      show G T86 (mkF m 36 #[iv i0, iv i1, iv 1, rv w_GREATER_THAN, iv 1, .unset, .unset] [.ref b84])
      refine gb (fun _ k => XS.dup X86.here hx rfl (hb hby at_36) rfl rfl (XS.iconst X86.here hx rfl (hb hby at_37) (XS.iconst X86.here hx rfl (hb hby at_38) k))) ?_
      show G T86 (mkF m 39 #[iv i0, iv i1, iv 1, rv w_GREATER_THAN, iv 1, .unset, .unset] [.int 1, .int 1, .ref b84, .ref b84])
      have V'87 := V_b84
      obtain ⟨cl87, Ar87, qk87, sz87, nn87, hs87, ft87⟩ := V'87
      have hin87 : ¬ ((1 : Int32) < 0 ∨ cl87.slots.size ≤ ((1 : Int32)).toNatClampNeg) := inb_of sz87 ⟨by decide, by decide⟩
      obtain ⟨T88, h88, X88, e88, W88, st88⟩ := stZ X86 hx hZ e86 Ar87 (j := (1 : Int32)) hin87 (g := (mkF m 39 #[iv i0, iv i1, iv 1, rv w_GREATER_THAN, iv 1, .unset, .unset] [.int 1, .int 1, .ref b84, .ref b84])) rfl rfl (hb hby at_39)
      have V_b84 : Arv Z h88 b84 k84 .boolean (12 : Int32) [(.int (nar .boolean (0 : Int32))), (.int (nar .boolean (1 : Int32))), (.int (0 : Int32)), (.int (0 : Int32)), (.int (0 : Int32)), (.int (0 : Int32)), (.int (0 : Int32)), (.int (0 : Int32)), (.int (0 : Int32)), (.int (0 : Int32)), (.int (0 : Int32)), (.int (0 : Int32))] (.int (0 : Int32)) := Arv.set Ar87 qk87 sz87 nn87 hs87 ft87 (fits_nar_bool _) W88 1 rfl (Nat.le_of_ble_eq_true rfl)
      have O := O.wr W88 g_b84
      have N := Fr.snoc X88 N g_b84
      refine gb st88 ?_
      show G T88 (mkF m 40 #[iv i0, iv i1, iv 1, rv w_GREATER_THAN, iv 1, .unset, .unset] [.ref b84])
      refine gb (fun _ k => XS.dup X88.here hx rfl (hb hby at_40) rfl rfl (XS.iconst X88.here hx rfl (hb hby at_41) (XS.iconst X88.here hx rfl (hb hby at_42) k))) ?_
      show G T88 (mkF m 43 #[iv i0, iv i1, iv 1, rv w_GREATER_THAN, iv 1, .unset, .unset] [.int 1, .int 2, .ref b84, .ref b84])
      have V'89 := V_b84
      obtain ⟨cl89, Ar89, qk89, sz89, nn89, hs89, ft89⟩ := V'89
      have hin89 : ¬ ((2 : Int32) < 0 ∨ cl89.slots.size ≤ ((2 : Int32)).toNatClampNeg) := inb_of sz89 ⟨by decide, by decide⟩
      obtain ⟨T90, h90, X90, e90, W90, st90⟩ := stZ X88 hx hZ e88 Ar89 (j := (2 : Int32)) hin89 (g := (mkF m 43 #[iv i0, iv i1, iv 1, rv w_GREATER_THAN, iv 1, .unset, .unset] [.int 1, .int 2, .ref b84, .ref b84])) rfl rfl (hb hby at_43)
      have V_b84 : Arv Z h90 b84 k84 .boolean (12 : Int32) [(.int (nar .boolean (0 : Int32))), (.int (nar .boolean (1 : Int32))), (.int (nar .boolean (1 : Int32))), (.int (0 : Int32)), (.int (0 : Int32)), (.int (0 : Int32)), (.int (0 : Int32)), (.int (0 : Int32)), (.int (0 : Int32)), (.int (0 : Int32)), (.int (0 : Int32)), (.int (0 : Int32))] (.int (0 : Int32)) := Arv.set Ar89 qk89 sz89 nn89 hs89 ft89 (fits_nar_bool _) W90 2 rfl (Nat.le_of_ble_eq_true rfl)
      have O := O.wr W90 g_b84
      have N := Fr.snoc X90 N g_b84
      refine gb st90 ?_
      show G T90 (mkF m 44 #[iv i0, iv i1, iv 1, rv w_GREATER_THAN, iv 1, .unset, .unset] [.ref b84])
      refine gb (fun _ k => XS.dup X90.here hx rfl (hb hby at_44) rfl rfl (XS.iconst X90.here hx rfl (hb hby at_45) (XS.iconst X90.here hx rfl (hb hby at_46) k))) ?_
      show G T90 (mkF m 47 #[iv i0, iv i1, iv 1, rv w_GREATER_THAN, iv 1, .unset, .unset] [.int 0, .int 3, .ref b84, .ref b84])
      have V'91 := V_b84
      obtain ⟨cl91, Ar91, qk91, sz91, nn91, hs91, ft91⟩ := V'91
      have hin91 : ¬ ((3 : Int32) < 0 ∨ cl91.slots.size ≤ ((3 : Int32)).toNatClampNeg) := inb_of sz91 ⟨by decide, by decide⟩
      obtain ⟨T92, h92, X92, e92, W92, st92⟩ := stZ X90 hx hZ e90 Ar91 (j := (3 : Int32)) hin91 (g := (mkF m 47 #[iv i0, iv i1, iv 1, rv w_GREATER_THAN, iv 1, .unset, .unset] [.int 0, .int 3, .ref b84, .ref b84])) rfl rfl (hb hby at_47)
      have V_b84 : Arv Z h92 b84 k84 .boolean (12 : Int32) [(.int (nar .boolean (0 : Int32))), (.int (nar .boolean (1 : Int32))), (.int (nar .boolean (1 : Int32))), (.int (nar .boolean (0 : Int32))), (.int (0 : Int32)), (.int (0 : Int32)), (.int (0 : Int32)), (.int (0 : Int32)), (.int (0 : Int32)), (.int (0 : Int32)), (.int (0 : Int32)), (.int (0 : Int32))] (.int (0 : Int32)) := Arv.set Ar91 qk91 sz91 nn91 hs91 ft91 (fits_nar_bool _) W92 3 rfl (Nat.le_of_ble_eq_true rfl)
      have O := O.wr W92 g_b84
      have N := Fr.snoc X92 N g_b84
      refine gb st92 ?_
      show G T92 (mkF m 48 #[iv i0, iv i1, iv 1, rv w_GREATER_THAN, iv 1, .unset, .unset] [.ref b84])
      refine gb (fun _ k => XS.dup X92.here hx rfl (hb hby at_48) rfl rfl (XS.iconst X92.here hx rfl (hb hby at_49) (XS.iconst X92.here hx rfl (hb hby at_50) k))) ?_
      show G T92 (mkF m 51 #[iv i0, iv i1, iv 1, rv w_GREATER_THAN, iv 1, .unset, .unset] [.int 0, .int 4, .ref b84, .ref b84])
      have V'93 := V_b84
      obtain ⟨cl93, Ar93, qk93, sz93, nn93, hs93, ft93⟩ := V'93
      have hin93 : ¬ ((4 : Int32) < 0 ∨ cl93.slots.size ≤ ((4 : Int32)).toNatClampNeg) := inb_of sz93 ⟨by decide, by decide⟩
      obtain ⟨T94, h94, X94, e94, W94, st94⟩ := stZ X92 hx hZ e92 Ar93 (j := (4 : Int32)) hin93 (g := (mkF m 51 #[iv i0, iv i1, iv 1, rv w_GREATER_THAN, iv 1, .unset, .unset] [.int 0, .int 4, .ref b84, .ref b84])) rfl rfl (hb hby at_51)
      have V_b84 : Arv Z h94 b84 k84 .boolean (12 : Int32) [(.int (nar .boolean (0 : Int32))), (.int (nar .boolean (1 : Int32))), (.int (nar .boolean (1 : Int32))), (.int (nar .boolean (0 : Int32))), (.int (nar .boolean (0 : Int32))), (.int (0 : Int32)), (.int (0 : Int32)), (.int (0 : Int32)), (.int (0 : Int32)), (.int (0 : Int32)), (.int (0 : Int32)), (.int (0 : Int32))] (.int (0 : Int32)) := Arv.set Ar93 qk93 sz93 nn93 hs93 ft93 (fits_nar_bool _) W94 4 rfl (Nat.le_of_ble_eq_true rfl)
      have O := O.wr W94 g_b84
      have N := Fr.snoc X94 N g_b84
      refine gb st94 ?_
      show G T94 (mkF m 52 #[iv i0, iv i1, iv 1, rv w_GREATER_THAN, iv 1, .unset, .unset] [.ref b84])
      refine gb (fun _ k => XS.dup X94.here hx rfl (hb hby at_52) rfl rfl (XS.iconst X94.here hx rfl (hb hby at_53) (XS.iconst X94.here hx rfl (hb hby at_54) k))) ?_
      show G T94 (mkF m 55 #[iv i0, iv i1, iv 1, rv w_GREATER_THAN, iv 1, .unset, .unset] [.int 1, .int 5, .ref b84, .ref b84])
      have V'95 := V_b84
      obtain ⟨cl95, Ar95, qk95, sz95, nn95, hs95, ft95⟩ := V'95
      have hin95 : ¬ ((5 : Int32) < 0 ∨ cl95.slots.size ≤ ((5 : Int32)).toNatClampNeg) := inb_of sz95 ⟨by decide, by decide⟩
      obtain ⟨T96, h96, X96, e96, W96, st96⟩ := stZ X94 hx hZ e94 Ar95 (j := (5 : Int32)) hin95 (g := (mkF m 55 #[iv i0, iv i1, iv 1, rv w_GREATER_THAN, iv 1, .unset, .unset] [.int 1, .int 5, .ref b84, .ref b84])) rfl rfl (hb hby at_55)
      have V_b84 : Arv Z h96 b84 k84 .boolean (12 : Int32) [(.int (nar .boolean (0 : Int32))), (.int (nar .boolean (1 : Int32))), (.int (nar .boolean (1 : Int32))), (.int (nar .boolean (0 : Int32))), (.int (nar .boolean (0 : Int32))), (.int (nar .boolean (1 : Int32))), (.int (0 : Int32)), (.int (0 : Int32)), (.int (0 : Int32)), (.int (0 : Int32)), (.int (0 : Int32)), (.int (0 : Int32))] (.int (0 : Int32)) := Arv.set Ar95 qk95 sz95 nn95 hs95 ft95 (fits_nar_bool _) W96 5 rfl (Nat.le_of_ble_eq_true rfl)
      have O := O.wr W96 g_b84
      have N := Fr.snoc X96 N g_b84
      refine gb st96 ?_
      show G T96 (mkF m 56 #[iv i0, iv i1, iv 1, rv w_GREATER_THAN, iv 1, .unset, .unset] [.ref b84])
      refine gb (fun _ k => XS.dup X96.here hx rfl (hb hby at_56) rfl rfl (XS.bipush X96.here hx rfl (hb hby at_57) (XS.iconst X96.here hx rfl (hb hby at_59) k))) ?_
      show G T96 (mkF m 60 #[iv i0, iv i1, iv 1, rv w_GREATER_THAN, iv 1, .unset, .unset] [.int 1, .int 6, .ref b84, .ref b84])
      have V'97 := V_b84
      obtain ⟨cl97, Ar97, qk97, sz97, nn97, hs97, ft97⟩ := V'97
      have hin97 : ¬ ((6 : Int32) < 0 ∨ cl97.slots.size ≤ ((6 : Int32)).toNatClampNeg) := inb_of sz97 ⟨by decide, by decide⟩
      obtain ⟨T98, h98, X98, e98, W98, st98⟩ := stZ X96 hx hZ e96 Ar97 (j := (6 : Int32)) hin97 (g := (mkF m 60 #[iv i0, iv i1, iv 1, rv w_GREATER_THAN, iv 1, .unset, .unset] [.int 1, .int 6, .ref b84, .ref b84])) rfl rfl (hb hby at_60)
      have V_b84 : Arv Z h98 b84 k84 .boolean (12 : Int32) [(.int (nar .boolean (0 : Int32))), (.int (nar .boolean (1 : Int32))), (.int (nar .boolean (1 : Int32))), (.int (nar .boolean (0 : Int32))), (.int (nar .boolean (0 : Int32))), (.int (nar .boolean (1 : Int32))), (.int (nar .boolean (1 : Int32))), (.int (0 : Int32)), (.int (0 : Int32)), (.int (0 : Int32)), (.int (0 : Int32)), (.int (0 : Int32))] (.int (0 : Int32)) := Arv.set Ar97 qk97 sz97 nn97 hs97 ft97 (fits_nar_bool _) W98 6 rfl (Nat.le_of_ble_eq_true rfl)
      have O := O.wr W98 g_b84
      have N := Fr.snoc X98 N g_b84
      refine gb st98 ?_
      show G T98 (mkF m 61 #[iv i0, iv i1, iv 1, rv w_GREATER_THAN, iv 1, .unset, .unset] [.ref b84])
      refine gb (fun _ k => XS.dup X98.here hx rfl (hb hby at_61) rfl rfl (XS.bipush X98.here hx rfl (hb hby at_62) (XS.iconst X98.here hx rfl (hb hby at_64) k))) ?_
      show G T98 (mkF m 65 #[iv i0, iv i1, iv 1, rv w_GREATER_THAN, iv 1, .unset, .unset] [.int 1, .int 7, .ref b84, .ref b84])
      have V'99 := V_b84
      obtain ⟨cl99, Ar99, qk99, sz99, nn99, hs99, ft99⟩ := V'99
      have hin99 : ¬ ((7 : Int32) < 0 ∨ cl99.slots.size ≤ ((7 : Int32)).toNatClampNeg) := inb_of sz99 ⟨by decide, by decide⟩
      obtain ⟨T100, h100, X100, e100, W100, st100⟩ := stZ X98 hx hZ e98 Ar99 (j := (7 : Int32)) hin99 (g := (mkF m 65 #[iv i0, iv i1, iv 1, rv w_GREATER_THAN, iv 1, .unset, .unset] [.int 1, .int 7, .ref b84, .ref b84])) rfl rfl (hb hby at_65)
      have V_b84 : Arv Z h100 b84 k84 .boolean (12 : Int32) [(.int (nar .boolean (0 : Int32))), (.int (nar .boolean (1 : Int32))), (.int (nar .boolean (1 : Int32))), (.int (nar .boolean (0 : Int32))), (.int (nar .boolean (0 : Int32))), (.int (nar .boolean (1 : Int32))), (.int (nar .boolean (1 : Int32))), (.int (nar .boolean (1 : Int32))), (.int (0 : Int32)), (.int (0 : Int32)), (.int (0 : Int32)), (.int (0 : Int32))] (.int (0 : Int32)) := Arv.set Ar99 qk99 sz99 nn99 hs99 ft99 (fits_nar_bool _) W100 7 rfl (Nat.le_of_ble_eq_true rfl)
      have O := O.wr W100 g_b84
      have N := Fr.snoc X100 N g_b84
      refine gb st100 ?_
      show G T100 (mkF m 66 #[iv i0, iv i1, iv 1, rv w_GREATER_THAN, iv 1, .unset, .unset] [.ref b84])
      refine gb (fun _ k => XS.dup X100.here hx rfl (hb hby at_66) rfl rfl (XS.bipush X100.here hx rfl (hb hby at_67) (XS.iconst X100.here hx rfl (hb hby at_69) k))) ?_
      show G T100 (mkF m 70 #[iv i0, iv i1, iv 1, rv w_GREATER_THAN, iv 1, .unset, .unset] [.int 0, .int 8, .ref b84, .ref b84])
      have V'101 := V_b84
      obtain ⟨cl101, Ar101, qk101, sz101, nn101, hs101, ft101⟩ := V'101
      have hin101 : ¬ ((8 : Int32) < 0 ∨ cl101.slots.size ≤ ((8 : Int32)).toNatClampNeg) := inb_of sz101 ⟨by decide, by decide⟩
      obtain ⟨T102, h102, X102, e102, W102, st102⟩ := stZ X100 hx hZ e100 Ar101 (j := (8 : Int32)) hin101 (g := (mkF m 70 #[iv i0, iv i1, iv 1, rv w_GREATER_THAN, iv 1, .unset, .unset] [.int 0, .int 8, .ref b84, .ref b84])) rfl rfl (hb hby at_70)
      have V_b84 : Arv Z h102 b84 k84 .boolean (12 : Int32) [(.int (nar .boolean (0 : Int32))), (.int (nar .boolean (1 : Int32))), (.int (nar .boolean (1 : Int32))), (.int (nar .boolean (0 : Int32))), (.int (nar .boolean (0 : Int32))), (.int (nar .boolean (1 : Int32))), (.int (nar .boolean (1 : Int32))), (.int (nar .boolean (1 : Int32))), (.int (nar .boolean (0 : Int32))), (.int (0 : Int32)), (.int (0 : Int32)), (.int (0 : Int32))] (.int (0 : Int32)) := Arv.set Ar101 qk101 sz101 nn101 hs101 ft101 (fits_nar_bool _) W102 8 rfl (Nat.le_of_ble_eq_true rfl)
      have O := O.wr W102 g_b84
      have N := Fr.snoc X102 N g_b84
      refine gb st102 ?_
      show G T102 (mkF m 71 #[iv i0, iv i1, iv 1, rv w_GREATER_THAN, iv 1, .unset, .unset] [.ref b84])
      refine gb (fun _ k => XS.dup X102.here hx rfl (hb hby at_71) rfl rfl (XS.bipush X102.here hx rfl (hb hby at_72) (XS.iconst X102.here hx rfl (hb hby at_74) k))) ?_
      show G T102 (mkF m 75 #[iv i0, iv i1, iv 1, rv w_GREATER_THAN, iv 1, .unset, .unset] [.int 1, .int 9, .ref b84, .ref b84])
      have V'103 := V_b84
      obtain ⟨cl103, Ar103, qk103, sz103, nn103, hs103, ft103⟩ := V'103
      have hin103 : ¬ ((9 : Int32) < 0 ∨ cl103.slots.size ≤ ((9 : Int32)).toNatClampNeg) := inb_of sz103 ⟨by decide, by decide⟩
      obtain ⟨T104, h104, X104, e104, W104, st104⟩ := stZ X102 hx hZ e102 Ar103 (j := (9 : Int32)) hin103 (g := (mkF m 75 #[iv i0, iv i1, iv 1, rv w_GREATER_THAN, iv 1, .unset, .unset] [.int 1, .int 9, .ref b84, .ref b84])) rfl rfl (hb hby at_75)
      have V_b84 : Arv Z h104 b84 k84 .boolean (12 : Int32) [(.int (nar .boolean (0 : Int32))), (.int (nar .boolean (1 : Int32))), (.int (nar .boolean (1 : Int32))), (.int (nar .boolean (0 : Int32))), (.int (nar .boolean (0 : Int32))), (.int (nar .boolean (1 : Int32))), (.int (nar .boolean (1 : Int32))), (.int (nar .boolean (1 : Int32))), (.int (nar .boolean (0 : Int32))), (.int (nar .boolean (1 : Int32))), (.int (0 : Int32)), (.int (0 : Int32))] (.int (0 : Int32)) := Arv.set Ar103 qk103 sz103 nn103 hs103 ft103 (fits_nar_bool _) W104 9 rfl (Nat.le_of_ble_eq_true rfl)
      have O := O.wr W104 g_b84
      have N := Fr.snoc X104 N g_b84
      refine gb st104 ?_
      show G T104 (mkF m 76 #[iv i0, iv i1, iv 1, rv w_GREATER_THAN, iv 1, .unset, .unset] [.ref b84])
      refine gb (fun _ k => XS.dup X104.here hx rfl (hb hby at_76) rfl rfl (XS.bipush X104.here hx rfl (hb hby at_77) (XS.iconst X104.here hx rfl (hb hby at_79) k))) ?_
      show G T104 (mkF m 80 #[iv i0, iv i1, iv 1, rv w_GREATER_THAN, iv 1, .unset, .unset] [.int 0, .int 10, .ref b84, .ref b84])
      have V'105 := V_b84
      obtain ⟨cl105, Ar105, qk105, sz105, nn105, hs105, ft105⟩ := V'105
      have hin105 : ¬ ((10 : Int32) < 0 ∨ cl105.slots.size ≤ ((10 : Int32)).toNatClampNeg) := inb_of sz105 ⟨by decide, by decide⟩
      obtain ⟨T106, h106, X106, e106, W106, st106⟩ := stZ X104 hx hZ e104 Ar105 (j := (10 : Int32)) hin105 (g := (mkF m 80 #[iv i0, iv i1, iv 1, rv w_GREATER_THAN, iv 1, .unset, .unset] [.int 0, .int 10, .ref b84, .ref b84])) rfl rfl (hb hby at_80)
      have V_b84 : Arv Z h106 b84 k84 .boolean (12 : Int32) [(.int (nar .boolean (0 : Int32))), (.int (nar .boolean (1 : Int32))), (.int (nar .boolean (1 : Int32))), (.int (nar .boolean (0 : Int32))), (.int (nar .boolean (0 : Int32))), (.int (nar .boolean (1 : Int32))), (.int (nar .boolean (1 : Int32))), (.int (nar .boolean (1 : Int32))), (.int (nar .boolean (0 : Int32))), (.int (nar .boolean (1 : Int32))), (.int (nar .boolean (0 : Int32))), (.int (0 : Int32))] (.int (0 : Int32)) := Arv.set Ar105 qk105 sz105 nn105 hs105 ft105 (fits_nar_bool _) W106 10 rfl (Nat.le_of_ble_eq_true rfl)
      have O := O.wr W106 g_b84
      have N := Fr.snoc X106 N g_b84
      refine gb st106 ?_
      show G T106 (mkF m 81 #[iv i0, iv i1, iv 1, rv w_GREATER_THAN, iv 1, .unset, .unset] [.ref b84])
      refine gb (fun _ k => XS.dup X106.here hx rfl (hb hby at_81) rfl rfl (XS.bipush X106.here hx rfl (hb hby at_82) (XS.iconst X106.here hx rfl (hb hby at_84) k))) ?_
      show G T106 (mkF m 85 #[iv i0, iv i1, iv 1, rv w_GREATER_THAN, iv 1, .unset, .unset] [.int 0, .int 11, .ref b84, .ref b84])
      have V'107 := V_b84
      obtain ⟨cl107, Ar107, qk107, sz107, nn107, hs107, ft107⟩ := V'107
      have hin107 : ¬ ((11 : Int32) < 0 ∨ cl107.slots.size ≤ ((11 : Int32)).toNatClampNeg) := inb_of sz107 ⟨by decide, by decide⟩
      obtain ⟨T108, h108, X108, e108, W108, st108⟩ := stZ X106 hx hZ e106 Ar107 (j := (11 : Int32)) hin107 (g := (mkF m 85 #[iv i0, iv i1, iv 1, rv w_GREATER_THAN, iv 1, .unset, .unset] [.int 0, .int 11, .ref b84, .ref b84])) rfl rfl (hb hby at_85)
      have V_b84 : Arv Z h108 b84 k84 .boolean (12 : Int32) [(.int (nar .boolean (0 : Int32))), (.int (nar .boolean (1 : Int32))), (.int (nar .boolean (1 : Int32))), (.int (nar .boolean (0 : Int32))), (.int (nar .boolean (0 : Int32))), (.int (nar .boolean (1 : Int32))), (.int (nar .boolean (1 : Int32))), (.int (nar .boolean (1 : Int32))), (.int (nar .boolean (0 : Int32))), (.int (nar .boolean (1 : Int32))), (.int (nar .boolean (0 : Int32))), (.int (nar .boolean (0 : Int32)))] (.int (0 : Int32)) := Arv.set Ar107 qk107 sz107 nn107 hs107 ft107 (fits_nar_bool _) W108 11 rfl (Nat.le_of_ble_eq_true rfl)
      have O := O.wr W108 g_b84
      have N := Fr.snoc X108 N g_b84
      refine gb st108 ?_
      show G T108 (mkF m 86 #[iv i0, iv i1, iv 1, rv w_GREATER_THAN, iv 1, .unset, .unset] [.ref b84])
      refine gb (fun _ k => XS.astore X108.here hx rfl (hb hby at_86) rfl rfl (l' := #[iv i0, iv i1, iv 1, rv w_GREATER_THAN, iv 1, rv b84, .unset]) rfl (XS.aload X108.here hx rfl (hb hby at_88) rfl rfl (XS.iloadN X108.here hx rfl (hb hby at_90) rfl (XS.iconst X108.here hx rfl (hb hby at_91) (XS.imul X108.here hx rfl (hb hby at_92) rfl (XS.iload X108.here hx rfl (hb hby at_93) rfl k)))))) ?_
      show G T108 (mkF m 95 #[iv i0, iv i1, iv 1, rv w_GREATER_THAN, iv 1, rv b84, .unset] [.int 1, .int 3, .ref b84])
      refine gb (fun _ k => XS.iadd X108.here hx rfl (hb hby at_95) rfl (XS.iconst X108.here hx rfl (hb hby at_96) (XS.iadd X108.here hx rfl (hb hby at_97) rfl k))) ?_
      show G T108 (mkF m 98 #[iv i0, iv i1, iv 1, rv w_GREATER_THAN, iv 1, rv b84, .unset] [.int 5, .ref b84])
      have V'109 := V_b84
      obtain ⟨cl109, Ar109, qk109, sz109, nn109, hs109, ft109⟩ := V'109
      have hin109 : ¬ ((5 : Int32) < 0 ∨ cl109.slots.size ≤ ((5 : Int32)).toNatClampNeg) := inb_of sz109 ⟨by decide, by decide⟩
      have hat109 : cl109.slots[((5 : Int32)).toNatClampNeg]? = some (.int (nar .boolean (1 : Int32))) := hs109.at hin109 rfl
      refine gb (X108.baloadBooleans hx (j := (5 : Int32)) (v := (.int (nar .boolean (1 : Int32)))) (by rw [e108]; exact Ar109.1) (State.isArrayOf_alike hZ.alike Ar109.2.1) Ar109.2.2 hin109 hat109 (g := (mkF m 98 #[iv i0, iv i1, iv 1, rv w_GREATER_THAN, iv 1, rv b84, .unset] [.int 5, .ref b84])) rfl rfl (hb hby at_98)) ?_
      show G T108 (mkF m 99 #[iv i0, iv i1, iv 1, rv w_GREATER_THAN, iv 1, rv b84, .unset] [.int (nar .boolean (1 : Int32))])
      refine gb (fun _ k => XS.istore X108.here hx rfl (hb hby at_99) rfl (l' := #[iv i0, iv i1, iv 1, rv w_GREATER_THAN, iv 1, rv b84, iv (nar .boolean (1 : Int32))]) rfl (XS.aloadN X108.here hx rfl (hb hby at_101) rfl rfl (XS.iloadN X108.here hx rfl (hb hby at_102) rfl k))) ?_
      show G T108 (mkF m 103 #[iv i0, iv i1, iv 1, rv w_GREATER_THAN, iv 1, rv b84, iv (nar .boolean (1 : Int32))] [.int i1, .ref w_GREATER_THAN])
      obtain ⟨cq110, kq110, q110a, q110b, q110c⟩ := isOf hZ e108 (E_GREATER_THAN.ext O.2)
      obtain ⟨_, _, ⟨T110, L110, k110, n110⟩, -, X110, ⟨Lc110, hQ110, l110, y110, z110⟩, st110⟩ := X108.virtualBack hx (y := (⟨"com/example/wrought_gate/wroughtgate/engine/Comparison", "admits", "(I)Z"⟩ : MethodName)) (z := (⟨"com/example/wrought_gate/wroughtgate/engine/Comparison", "admits", "(I)Z"⟩ : MethodName)) hown (mvT hZ (ow hw 8 rfl)) (mvT hZ (ow hw 9 rfl)) (notFace_of_selects (args := #[]) (mvT hZ (ow hw 11 rfl))) (mvT hZ (ow hw 11 rfl)) (mvT hZ (ow hw 10 rfl)) (by decide) (backOf (W := 0) (rm2_1 l Z a0 hw [] w_GREATER_THAN i1 h108 n0 O (E_GREATER_THAN.ext O.2) (F_ordinal_GREATER_THAN.ext O.2)) hZ (ow hw 12 rfl) (ow hw 5 rfl) (by decide) (by decide)) q110a q110c (g := (mkF m 103 #[iv i0, iv i1, iv 1, rv w_GREATER_THAN, iv 1, rv b84, iv (nar .boolean (1 : Int32))] [.int i1, .ref w_GREATER_THAN])) rfl (by rw [hml]; rfl) (Steps.refl _) (argsL := [(.int i1)]) (rest := []) (lenOf pd_2 rfl) rfl (by show 2 * 0 + _ ≤ _; exact Nat.le_of_eq rfl) (hb hby at_103) (fun _ _ => ⟨rfl, e108, (by decide : 1 + 0 ≤ _), (by decide : 12 + 0 ≤ _)⟩)
      dsimp only [Pt.U, Pt.locs, Pt.cells, Pt.slots] at X110 l110 y110 z110 st110 hQ110
      subst l110 y110 z110
      obtain ⟨rfl, rfl, e110⟩ := hQ110
      try rw [List.append_nil] at X110
      refine gb (fun _ k => st110.trans k) ?_
      show G T110 (mkF m 106 #[iv i0, iv i1, iv 1, rv w_GREATER_THAN, iv 1, rv b84, iv (nar .boolean (1 : Int32))] [.int (if (0 : Int32) < i1 then (1 : Int32) else (0 : Int32))])
      refine gb (fun _ k => XS.iload X110.here hx rfl (hb hby at_106) rfl (XS.icmpNo X110.here hx rfl (hb hby at_108) rfl (teq (show (if (0 : Int32) < i1 then (1 : Int32) else (0 : Int32)) = (nar .boolean (1 : Int32)) by simp only [hA, hB, not_true_eq_false, not_false_eq_true, if_true, if_false]; rfl)).2 (XS.iconst X110.here hx rfl (hb hby at_111) (XS.goto X110.here hx rfl (pc0 := 112) (pc' := 116) rfl (hb hby at_112) (by decide) (by decide) k)))) ?_
      show G T110 (mkF m 116 #[iv i0, iv i1, iv 1, rv w_GREATER_THAN, iv 1, rv b84, iv (nar .boolean (1 : Int32))] [.int 1])
      exact go X110 (v := (some (.int (1 : Int32)))) (fun h => by rw [Bd.returns] at h; cases h) (fun fs hr => retOut X110 hx Bd.returns rfl (Or.inl ⟨rfl, by simp, _, rfl⟩) (hb hby at_116) hr) (⟨rfl, N⟩) (by decide) (by decide)
    · skip
      refine gb (fun _ k => XS.ifYes X83.here hx rfl (pc0 := 10) (pc' := 17) rfl (hb hby at_10) rfl ((if0 _ _).trans (flt hc10).2.2.2) (by decide) (by decide) (XS.iloadN X83.here hx rfl (hb hby at_17) rfl k)) ?_
      show G T83 (mkF m 18 #[iv i0, iv i1, iv 1, rv w_GREATER_THAN, .unset, .unset, .unset] [.int i1])
      by_cases hc18 : i1 < (0 : Int32)
      · skip
        refine gb (fun _ k => XS.ifNo X83.here hx rfl (hb hby at_18) rfl ((if0 _ _).trans (tlt hc18).2.1) (XS.iconst X83.here hx rfl (hb hby at_21) (XS.goto X83.here hx rfl (pc0 := 22) (pc' := 26) rfl (hb hby at_22) (by decide) (by decide) k))) ?_
        show G T83 (mkF m 26 #[iv i0, iv i1, iv 1, rv w_GREATER_THAN, .unset, .unset, .unset] [.int (-1)])
        have hA : i1 < (0 : Int32) := hc18
        have hB : ¬ ((0 : Int32) < i1) := own_asym hA
        refine gb (fun _ k => XS.istore X83.here hx rfl (hb hby at_26) rfl (l' := #[iv i0, iv i1, iv 1, rv w_GREATER_THAN, iv (-1), .unset, .unset]) rfl (XS.bipush X83.here hx rfl (hb hby at_28) k)) ?_
        show G T83 (mkF m 30 #[iv i0, iv i1, iv 1, rv w_GREATER_THAN, iv (-1), .unset, .unset] [.int 12])
        obtain ⟨T111, h111, k111, X111, e111, E111, A111, st111⟩ := newP X83 hx hZ (ow hw 7 rfl) e83 (g := (mkF m 30 #[iv i0, iv i1, iv 1, rv w_GREATER_THAN, iv (-1), .unset, .unset] [.int 12])) rfl (hb hby at_30) rfl (by decide) (cap := 12) (by decide) (by decide) (by decide) (by decide)
        obtain ⟨b111, g111⟩ : ∃ z, z = h0.size := ⟨_, rfl⟩
        rw [← g111] at A111 st111
        have g_b111 : n0 ≤ b111 := Nat.le_trans (by have := O.2.1; rw [O.1] at this; exact this) (Nat.le_of_eq g111.symm)
        have O := O.ext E111
        have V_b111 : Arv Z h111 b111 k111 .boolean (12 : Int32) [(.int (0 : Int32)), (.int (0 : Int32)), (.int (0 : Int32)), (.int (0 : Int32)), (.int (0 : Int32)), (.int (0 : Int32)), (.int (0 : Int32)), (.int (0 : Int32)), (.int (0 : Int32)), (.int (0 : Int32)), (.int (0 : Int32)), (.int (0 : Int32))] (.int (0 : Int32)) := (Arv.new A111 (by decide)).pad (pad_rep [] (.int (0 : Int32)) 12)
        refine gb st111 ?_
        show G T111 (mkF m 32 #[iv i0, iv i1, iv 1, rv w_GREATER_THAN, iv (-1), .unset, .unset] [.ref b111])
        refine gb (fun _ k => XS.dup X111.here hx rfl (hb hby at_32) rfl rfl (XS.iconst X111.here hx rfl (hb hby at_33) (XS.iconst X111.here hx rfl (hb hby at_34) k))) ?_
        show G T111 (mkF m 35 #[iv i0, iv i1, iv 1, rv w_GREATER_THAN, iv (-1), .unset, .unset] [.int 0, .int 0, .ref b111, .ref b111])
        have V'112 := V_b111
        obtain ⟨cl112, Ar112, qk112, sz112, nn112, hs112, ft112⟩ := V'112
        have hin112 : ¬ ((0 : Int32) < 0 ∨ cl112.slots.size ≤ ((0 : Int32)).toNatClampNeg) := inb_of sz112 ⟨by decide, by decide⟩
        obtain ⟨T113, h113, X113, e113, W113, st113⟩ := stZ X111 hx hZ e111 Ar112 (j := (0 : Int32)) hin112 (g := (mkF m 35 #[iv i0, iv i1, iv 1, rv w_GREATER_THAN, iv (-1), .unset, .unset] [.int 0, .int 0, .ref b111, .ref b111])) rfl rfl (hb hby at_35)
        have V_b111 : Arv Z h113 b111 k111 .boolean (12 : Int32) [(.int (nar .boolean (0 : Int32))), (.int (0 : Int32)), (.int (0 : Int32)), (.int (0 : Int32)), (.int (0 : Int32)), (.int (0 : Int32)), (.int (0 : Int32)), (.int (0 : Int32)), (.int (0 : Int32)), (.int (0 : Int32)), (.int (0 : Int32)), (.int (0 : Int32))] (.int (0 : Int32)) := Arv.set Ar112 qk112 sz112 nn112 hs112 ft112 (fits_nar_bool _) W113 0 rfl (Nat.le_of_ble_eq_true rfl)
        have O := O.wr W113 g_b111
        have N := Fr.snoc X113 N g_b111
        refine gb st113 ?_
        show G T113 (mkF m 36 #[iv i0, iv i1, iv 1, rv w_GREATER_THAN, iv (-1), .unset, .unset] [.ref b111])
        refine gb (fun _ k => XS.dup X113.here hx rfl (hb hby at_36) rfl rfl (XS.iconst X113.here hx rfl (hb hby at_37) (XS.iconst X113.here hx rfl (hb hby at_38) k))) ?_
        show G T113 (mkF m 39 #[iv i0, iv i1, iv 1, rv w_GREATER_THAN, iv (-1), .unset, .unset] [.int 1, .int 1, .ref b111, .ref b111])
        have V'114 := V_b111
        obtain ⟨cl114, Ar114, qk114, sz114, nn114, hs114, ft114⟩ := V'114
        have hin114 : ¬ ((1 : Int32) < 0 ∨ cl114.slots.size ≤ ((1 : Int32)).toNatClampNeg) := inb_of sz114 ⟨by decide, by decide⟩
        obtain ⟨T115, h115, X115, e115, W115, st115⟩ := stZ X113 hx hZ e113 Ar114 (j := (1 : Int32)) hin114 (g := (mkF m 39 #[iv i0, iv i1, iv 1, rv w_GREATER_THAN, iv (-1), .unset, .unset] [.int 1, .int 1, .ref b111, .ref b111])) rfl rfl (hb hby at_39)
        have V_b111 : Arv Z h115 b111 k111 .boolean (12 : Int32) [(.int (nar .boolean (0 : Int32))), (.int (nar .boolean (1 : Int32))), (.int (0 : Int32)), (.int (0 : Int32)), (.int (0 : Int32)), (.int (0 : Int32)), (.int (0 : Int32)), (.int (0 : Int32)), (.int (0 : Int32)), (.int (0 : Int32)), (.int (0 : Int32)), (.int (0 : Int32))] (.int (0 : Int32)) := Arv.set Ar114 qk114 sz114 nn114 hs114 ft114 (fits_nar_bool _) W115 1 rfl (Nat.le_of_ble_eq_true rfl)
        have O := O.wr W115 g_b111
        have N := Fr.snoc X115 N g_b111
        refine gb st115 ?_
        show G T115 (mkF m 40 #[iv i0, iv i1, iv 1, rv w_GREATER_THAN, iv (-1), .unset, .unset] [.ref b111])
        refine gb (fun _ k => XS.dup X115.here hx rfl (hb hby at_40) rfl rfl (XS.iconst X115.here hx rfl (hb hby at_41) (XS.iconst X115.here hx rfl (hb hby at_42) k))) ?_
        show G T115 (mkF m 43 #[iv i0, iv i1, iv 1, rv w_GREATER_THAN, iv (-1), .unset, .unset] [.int 1, .int 2, .ref b111, .ref b111])
        have V'116 := V_b111
        obtain ⟨cl116, Ar116, qk116, sz116, nn116, hs116, ft116⟩ := V'116
        have hin116 : ¬ ((2 : Int32) < 0 ∨ cl116.slots.size ≤ ((2 : Int32)).toNatClampNeg) := inb_of sz116 ⟨by decide, by decide⟩
        obtain ⟨T117, h117, X117, e117, W117, st117⟩ := stZ X115 hx hZ e115 Ar116 (j := (2 : Int32)) hin116 (g := (mkF m 43 #[iv i0, iv i1, iv 1, rv w_GREATER_THAN, iv (-1), .unset, .unset] [.int 1, .int 2, .ref b111, .ref b111])) rfl rfl (hb hby at_43)
        have V_b111 : Arv Z h117 b111 k111 .boolean (12 : Int32) [(.int (nar .boolean (0 : Int32))), (.int (nar .boolean (1 : Int32))), (.int (nar .boolean (1 : Int32))), (.int (0 : Int32)), (.int (0 : Int32)), (.int (0 : Int32)), (.int (0 : Int32)), (.int (0 : Int32)), (.int (0 : Int32)), (.int (0 : Int32)), (.int (0 : Int32)), (.int (0 : Int32))] (.int (0 : Int32)) := Arv.set Ar116 qk116 sz116 nn116 hs116 ft116 (fits_nar_bool _) W117 2 rfl (Nat.le_of_ble_eq_true rfl)
        have O := O.wr W117 g_b111
        have N := Fr.snoc X117 N g_b111
        refine gb st117 ?_
        show G T117 (mkF m 44 #[iv i0, iv i1, iv 1, rv w_GREATER_THAN, iv (-1), .unset, .unset] [.ref b111])
        refine gb (fun _ k => XS.dup X117.here hx rfl (hb hby at_44) rfl rfl (XS.iconst X117.here hx rfl (hb hby at_45) (XS.iconst X117.here hx rfl (hb hby at_46) k))) ?_
        show G T117 (mkF m 47 #[iv i0, iv i1, iv 1, rv w_GREATER_THAN, iv (-1), .unset, .unset] [.int 0, .int 3, .ref b111, .ref b111])
        have V'118 := V_b111
        obtain ⟨cl118, Ar118, qk118, sz118, nn118, hs118, ft118⟩ := V'118
        have hin118 : ¬ ((3 : Int32) < 0 ∨ cl118.slots.size ≤ ((3 : Int32)).toNatClampNeg) := inb_of sz118 ⟨by decide, by decide⟩
        obtain ⟨T119, h119, X119, e119, W119, st119⟩ := stZ X117 hx hZ e117 Ar118 (j := (3 : Int32)) hin118 (g := (mkF m 47 #[iv i0, iv i1, iv 1, rv w_GREATER_THAN, iv (-1), .unset, .unset] [.int 0, .int 3, .ref b111, .ref b111])) rfl rfl (hb hby at_47)
        have V_b111 : Arv Z h119 b111 k111 .boolean (12 : Int32) [(.int (nar .boolean (0 : Int32))), (.int (nar .boolean (1 : Int32))), (.int (nar .boolean (1 : Int32))), (.int (nar .boolean (0 : Int32))), (.int (0 : Int32)), (.int (0 : Int32)), (.int (0 : Int32)), (.int (0 : Int32)), (.int (0 : Int32)), (.int (0 : Int32)), (.int (0 : Int32)), (.int (0 : Int32))] (.int (0 : Int32)) := Arv.set Ar118 qk118 sz118 nn118 hs118 ft118 (fits_nar_bool _) W119 3 rfl (Nat.le_of_ble_eq_true rfl)
        have O := O.wr W119 g_b111
        have N := Fr.snoc X119 N g_b111
        refine gb st119 ?_
        show G T119 (mkF m 48 #[iv i0, iv i1, iv 1, rv w_GREATER_THAN, iv (-1), .unset, .unset] [.ref b111])
        refine gb (fun _ k => XS.dup X119.here hx rfl (hb hby at_48) rfl rfl (XS.iconst X119.here hx rfl (hb hby at_49) (XS.iconst X119.here hx rfl (hb hby at_50) k))) ?_
        show G T119 (mkF m 51 #[iv i0, iv i1, iv 1, rv w_GREATER_THAN, iv (-1), .unset, .unset] [.int 0, .int 4, .ref b111, .ref b111])
        have V'120 := V_b111
        obtain ⟨cl120, Ar120, qk120, sz120, nn120, hs120, ft120⟩ := V'120
        have hin120 : ¬ ((4 : Int32) < 0 ∨ cl120.slots.size ≤ ((4 : Int32)).toNatClampNeg) := inb_of sz120 ⟨by decide, by decide⟩
        obtain ⟨T121, h121, X121, e121, W121, st121⟩ := stZ X119 hx hZ e119 Ar120 (j := (4 : Int32)) hin120 (g := (mkF m 51 #[iv i0, iv i1, iv 1, rv w_GREATER_THAN, iv (-1), .unset, .unset] [.int 0, .int 4, .ref b111, .ref b111])) rfl rfl (hb hby at_51)
        have V_b111 : Arv Z h121 b111 k111 .boolean (12 : Int32) [(.int (nar .boolean (0 : Int32))), (.int (nar .boolean (1 : Int32))), (.int (nar .boolean (1 : Int32))), (.int (nar .boolean (0 : Int32))), (.int (nar .boolean (0 : Int32))), (.int (0 : Int32)), (.int (0 : Int32)), (.int (0 : Int32)), (.int (0 : Int32)), (.int (0 : Int32)), (.int (0 : Int32)), (.int (0 : Int32))] (.int (0 : Int32)) := Arv.set Ar120 qk120 sz120 nn120 hs120 ft120 (fits_nar_bool _) W121 4 rfl (Nat.le_of_ble_eq_true rfl)
        have O := O.wr W121 g_b111
        have N := Fr.snoc X121 N g_b111
        refine gb st121 ?_
        show G T121 (mkF m 52 #[iv i0, iv i1, iv 1, rv w_GREATER_THAN, iv (-1), .unset, .unset] [.ref b111])
        refine gb (fun _ k => XS.dup X121.here hx rfl (hb hby at_52) rfl rfl (XS.iconst X121.here hx rfl (hb hby at_53) (XS.iconst X121.here hx rfl (hb hby at_54) k))) ?_
        show G T121 (mkF m 55 #[iv i0, iv i1, iv 1, rv w_GREATER_THAN, iv (-1), .unset, .unset] [.int 1, .int 5, .ref b111, .ref b111])
        have V'122 := V_b111
        obtain ⟨cl122, Ar122, qk122, sz122, nn122, hs122, ft122⟩ := V'122
        have hin122 : ¬ ((5 : Int32) < 0 ∨ cl122.slots.size ≤ ((5 : Int32)).toNatClampNeg) := inb_of sz122 ⟨by decide, by decide⟩
        obtain ⟨T123, h123, X123, e123, W123, st123⟩ := stZ X121 hx hZ e121 Ar122 (j := (5 : Int32)) hin122 (g := (mkF m 55 #[iv i0, iv i1, iv 1, rv w_GREATER_THAN, iv (-1), .unset, .unset] [.int 1, .int 5, .ref b111, .ref b111])) rfl rfl (hb hby at_55)
        have V_b111 : Arv Z h123 b111 k111 .boolean (12 : Int32) [(.int (nar .boolean (0 : Int32))), (.int (nar .boolean (1 : Int32))), (.int (nar .boolean (1 : Int32))), (.int (nar .boolean (0 : Int32))), (.int (nar .boolean (0 : Int32))), (.int (nar .boolean (1 : Int32))), (.int (0 : Int32)), (.int (0 : Int32)), (.int (0 : Int32)), (.int (0 : Int32)), (.int (0 : Int32)), (.int (0 : Int32))] (.int (0 : Int32)) := Arv.set Ar122 qk122 sz122 nn122 hs122 ft122 (fits_nar_bool _) W123 5 rfl (Nat.le_of_ble_eq_true rfl)
        have O := O.wr W123 g_b111
        have N := Fr.snoc X123 N g_b111
        refine gb st123 ?_
        show G T123 (mkF m 56 #[iv i0, iv i1, iv 1, rv w_GREATER_THAN, iv (-1), .unset, .unset] [.ref b111])
        refine gb (fun _ k => XS.dup X123.here hx rfl (hb hby at_56) rfl rfl (XS.bipush X123.here hx rfl (hb hby at_57) (XS.iconst X123.here hx rfl (hb hby at_59) k))) ?_
        show G T123 (mkF m 60 #[iv i0, iv i1, iv 1, rv w_GREATER_THAN, iv (-1), .unset, .unset] [.int 1, .int 6, .ref b111, .ref b111])
        have V'124 := V_b111
        obtain ⟨cl124, Ar124, qk124, sz124, nn124, hs124, ft124⟩ := V'124
        have hin124 : ¬ ((6 : Int32) < 0 ∨ cl124.slots.size ≤ ((6 : Int32)).toNatClampNeg) := inb_of sz124 ⟨by decide, by decide⟩
        obtain ⟨T125, h125, X125, e125, W125, st125⟩ := stZ X123 hx hZ e123 Ar124 (j := (6 : Int32)) hin124 (g := (mkF m 60 #[iv i0, iv i1, iv 1, rv w_GREATER_THAN, iv (-1), .unset, .unset] [.int 1, .int 6, .ref b111, .ref b111])) rfl rfl (hb hby at_60)
        have V_b111 : Arv Z h125 b111 k111 .boolean (12 : Int32) [(.int (nar .boolean (0 : Int32))), (.int (nar .boolean (1 : Int32))), (.int (nar .boolean (1 : Int32))), (.int (nar .boolean (0 : Int32))), (.int (nar .boolean (0 : Int32))), (.int (nar .boolean (1 : Int32))), (.int (nar .boolean (1 : Int32))), (.int (0 : Int32)), (.int (0 : Int32)), (.int (0 : Int32)), (.int (0 : Int32)), (.int (0 : Int32))] (.int (0 : Int32)) := Arv.set Ar124 qk124 sz124 nn124 hs124 ft124 (fits_nar_bool _) W125 6 rfl (Nat.le_of_ble_eq_true rfl)
        have O := O.wr W125 g_b111
        have N := Fr.snoc X125 N g_b111
        refine gb st125 ?_
        show G T125 (mkF m 61 #[iv i0, iv i1, iv 1, rv w_GREATER_THAN, iv (-1), .unset, .unset] [.ref b111])
        refine gb (fun _ k => XS.dup X125.here hx rfl (hb hby at_61) rfl rfl (XS.bipush X125.here hx rfl (hb hby at_62) (XS.iconst X125.here hx rfl (hb hby at_64) k))) ?_
        show G T125 (mkF m 65 #[iv i0, iv i1, iv 1, rv w_GREATER_THAN, iv (-1), .unset, .unset] [.int 1, .int 7, .ref b111, .ref b111])
        have V'126 := V_b111
        obtain ⟨cl126, Ar126, qk126, sz126, nn126, hs126, ft126⟩ := V'126
        have hin126 : ¬ ((7 : Int32) < 0 ∨ cl126.slots.size ≤ ((7 : Int32)).toNatClampNeg) := inb_of sz126 ⟨by decide, by decide⟩
        obtain ⟨T127, h127, X127, e127, W127, st127⟩ := stZ X125 hx hZ e125 Ar126 (j := (7 : Int32)) hin126 (g := (mkF m 65 #[iv i0, iv i1, iv 1, rv w_GREATER_THAN, iv (-1), .unset, .unset] [.int 1, .int 7, .ref b111, .ref b111])) rfl rfl (hb hby at_65)
        have V_b111 : Arv Z h127 b111 k111 .boolean (12 : Int32) [(.int (nar .boolean (0 : Int32))), (.int (nar .boolean (1 : Int32))), (.int (nar .boolean (1 : Int32))), (.int (nar .boolean (0 : Int32))), (.int (nar .boolean (0 : Int32))), (.int (nar .boolean (1 : Int32))), (.int (nar .boolean (1 : Int32))), (.int (nar .boolean (1 : Int32))), (.int (0 : Int32)), (.int (0 : Int32)), (.int (0 : Int32)), (.int (0 : Int32))] (.int (0 : Int32)) := Arv.set Ar126 qk126 sz126 nn126 hs126 ft126 (fits_nar_bool _) W127 7 rfl (Nat.le_of_ble_eq_true rfl)
        have O := O.wr W127 g_b111
        have N := Fr.snoc X127 N g_b111
        refine gb st127 ?_
        show G T127 (mkF m 66 #[iv i0, iv i1, iv 1, rv w_GREATER_THAN, iv (-1), .unset, .unset] [.ref b111])
        refine gb (fun _ k => XS.dup X127.here hx rfl (hb hby at_66) rfl rfl (XS.bipush X127.here hx rfl (hb hby at_67) (XS.iconst X127.here hx rfl (hb hby at_69) k))) ?_
        show G T127 (mkF m 70 #[iv i0, iv i1, iv 1, rv w_GREATER_THAN, iv (-1), .unset, .unset] [.int 0, .int 8, .ref b111, .ref b111])
        have V'128 := V_b111
        obtain ⟨cl128, Ar128, qk128, sz128, nn128, hs128, ft128⟩ := V'128
        have hin128 : ¬ ((8 : Int32) < 0 ∨ cl128.slots.size ≤ ((8 : Int32)).toNatClampNeg) := inb_of sz128 ⟨by decide, by decide⟩
        obtain ⟨T129, h129, X129, e129, W129, st129⟩ := stZ X127 hx hZ e127 Ar128 (j := (8 : Int32)) hin128 (g := (mkF m 70 #[iv i0, iv i1, iv 1, rv w_GREATER_THAN, iv (-1), .unset, .unset] [.int 0, .int 8, .ref b111, .ref b111])) rfl rfl (hb hby at_70)
        have V_b111 : Arv Z h129 b111 k111 .boolean (12 : Int32) [(.int (nar .boolean (0 : Int32))), (.int (nar .boolean (1 : Int32))), (.int (nar .boolean (1 : Int32))), (.int (nar .boolean (0 : Int32))), (.int (nar .boolean (0 : Int32))), (.int (nar .boolean (1 : Int32))), (.int (nar .boolean (1 : Int32))), (.int (nar .boolean (1 : Int32))), (.int (nar .boolean (0 : Int32))), (.int (0 : Int32)), (.int (0 : Int32)), (.int (0 : Int32))] (.int (0 : Int32)) := Arv.set Ar128 qk128 sz128 nn128 hs128 ft128 (fits_nar_bool _) W129 8 rfl (Nat.le_of_ble_eq_true rfl)
        have O := O.wr W129 g_b111
        have N := Fr.snoc X129 N g_b111
        refine gb st129 ?_
        show G T129 (mkF m 71 #[iv i0, iv i1, iv 1, rv w_GREATER_THAN, iv (-1), .unset, .unset] [.ref b111])
        refine gb (fun _ k => XS.dup X129.here hx rfl (hb hby at_71) rfl rfl (XS.bipush X129.here hx rfl (hb hby at_72) (XS.iconst X129.here hx rfl (hb hby at_74) k))) ?_
        show G T129 (mkF m 75 #[iv i0, iv i1, iv 1, rv w_GREATER_THAN, iv (-1), .unset, .unset] [.int 1, .int 9, .ref b111, .ref b111])
        have V'130 := V_b111
        obtain ⟨cl130, Ar130, qk130, sz130, nn130, hs130, ft130⟩ := V'130
        have hin130 : ¬ ((9 : Int32) < 0 ∨ cl130.slots.size ≤ ((9 : Int32)).toNatClampNeg) := inb_of sz130 ⟨by decide, by decide⟩
        obtain ⟨T131, h131, X131, e131, W131, st131⟩ := stZ X129 hx hZ e129 Ar130 (j := (9 : Int32)) hin130 (g := (mkF m 75 #[iv i0, iv i1, iv 1, rv w_GREATER_THAN, iv (-1), .unset, .unset] [.int 1, .int 9, .ref b111, .ref b111])) rfl rfl (hb hby at_75)
        have V_b111 : Arv Z h131 b111 k111 .boolean (12 : Int32) [(.int (nar .boolean (0 : Int32))), (.int (nar .boolean (1 : Int32))), (.int (nar .boolean (1 : Int32))), (.int (nar .boolean (0 : Int32))), (.int (nar .boolean (0 : Int32))), (.int (nar .boolean (1 : Int32))), (.int (nar .boolean (1 : Int32))), (.int (nar .boolean (1 : Int32))), (.int (nar .boolean (0 : Int32))), (.int (nar .boolean (1 : Int32))), (.int (0 : Int32)), (.int (0 : Int32))] (.int (0 : Int32)) := Arv.set Ar130 qk130 sz130 nn130 hs130 ft130 (fits_nar_bool _) W131 9 rfl (Nat.le_of_ble_eq_true rfl)
        have O := O.wr W131 g_b111
        have N := Fr.snoc X131 N g_b111
        refine gb st131 ?_
        show G T131 (mkF m 76 #[iv i0, iv i1, iv 1, rv w_GREATER_THAN, iv (-1), .unset, .unset] [.ref b111])
        refine gb (fun _ k => XS.dup X131.here hx rfl (hb hby at_76) rfl rfl (XS.bipush X131.here hx rfl (hb hby at_77) (XS.iconst X131.here hx rfl (hb hby at_79) k))) ?_
        show G T131 (mkF m 80 #[iv i0, iv i1, iv 1, rv w_GREATER_THAN, iv (-1), .unset, .unset] [.int 0, .int 10, .ref b111, .ref b111])
        have V'132 := V_b111
        obtain ⟨cl132, Ar132, qk132, sz132, nn132, hs132, ft132⟩ := V'132
        have hin132 : ¬ ((10 : Int32) < 0 ∨ cl132.slots.size ≤ ((10 : Int32)).toNatClampNeg) := inb_of sz132 ⟨by decide, by decide⟩
        obtain ⟨T133, h133, X133, e133, W133, st133⟩ := stZ X131 hx hZ e131 Ar132 (j := (10 : Int32)) hin132 (g := (mkF m 80 #[iv i0, iv i1, iv 1, rv w_GREATER_THAN, iv (-1), .unset, .unset] [.int 0, .int 10, .ref b111, .ref b111])) rfl rfl (hb hby at_80)
        have V_b111 : Arv Z h133 b111 k111 .boolean (12 : Int32) [(.int (nar .boolean (0 : Int32))), (.int (nar .boolean (1 : Int32))), (.int (nar .boolean (1 : Int32))), (.int (nar .boolean (0 : Int32))), (.int (nar .boolean (0 : Int32))), (.int (nar .boolean (1 : Int32))), (.int (nar .boolean (1 : Int32))), (.int (nar .boolean (1 : Int32))), (.int (nar .boolean (0 : Int32))), (.int (nar .boolean (1 : Int32))), (.int (nar .boolean (0 : Int32))), (.int (0 : Int32))] (.int (0 : Int32)) := Arv.set Ar132 qk132 sz132 nn132 hs132 ft132 (fits_nar_bool _) W133 10 rfl (Nat.le_of_ble_eq_true rfl)
        have O := O.wr W133 g_b111
        have N := Fr.snoc X133 N g_b111
        refine gb st133 ?_
        show G T133 (mkF m 81 #[iv i0, iv i1, iv 1, rv w_GREATER_THAN, iv (-1), .unset, .unset] [.ref b111])
        refine gb (fun _ k => XS.dup X133.here hx rfl (hb hby at_81) rfl rfl (XS.bipush X133.here hx rfl (hb hby at_82) (XS.iconst X133.here hx rfl (hb hby at_84) k))) ?_
        show G T133 (mkF m 85 #[iv i0, iv i1, iv 1, rv w_GREATER_THAN, iv (-1), .unset, .unset] [.int 0, .int 11, .ref b111, .ref b111])
        have V'134 := V_b111
        obtain ⟨cl134, Ar134, qk134, sz134, nn134, hs134, ft134⟩ := V'134
        have hin134 : ¬ ((11 : Int32) < 0 ∨ cl134.slots.size ≤ ((11 : Int32)).toNatClampNeg) := inb_of sz134 ⟨by decide, by decide⟩
        obtain ⟨T135, h135, X135, e135, W135, st135⟩ := stZ X133 hx hZ e133 Ar134 (j := (11 : Int32)) hin134 (g := (mkF m 85 #[iv i0, iv i1, iv 1, rv w_GREATER_THAN, iv (-1), .unset, .unset] [.int 0, .int 11, .ref b111, .ref b111])) rfl rfl (hb hby at_85)
        have V_b111 : Arv Z h135 b111 k111 .boolean (12 : Int32) [(.int (nar .boolean (0 : Int32))), (.int (nar .boolean (1 : Int32))), (.int (nar .boolean (1 : Int32))), (.int (nar .boolean (0 : Int32))), (.int (nar .boolean (0 : Int32))), (.int (nar .boolean (1 : Int32))), (.int (nar .boolean (1 : Int32))), (.int (nar .boolean (1 : Int32))), (.int (nar .boolean (0 : Int32))), (.int (nar .boolean (1 : Int32))), (.int (nar .boolean (0 : Int32))), (.int (nar .boolean (0 : Int32)))] (.int (0 : Int32)) := Arv.set Ar134 qk134 sz134 nn134 hs134 ft134 (fits_nar_bool _) W135 11 rfl (Nat.le_of_ble_eq_true rfl)
        have O := O.wr W135 g_b111
        have N := Fr.snoc X135 N g_b111
        refine gb st135 ?_
        show G T135 (mkF m 86 #[iv i0, iv i1, iv 1, rv w_GREATER_THAN, iv (-1), .unset, .unset] [.ref b111])
        refine gb (fun _ k => XS.astore X135.here hx rfl (hb hby at_86) rfl rfl (l' := #[iv i0, iv i1, iv 1, rv w_GREATER_THAN, iv (-1), rv b111, .unset]) rfl (XS.aload X135.here hx rfl (hb hby at_88) rfl rfl (XS.iloadN X135.here hx rfl (hb hby at_90) rfl (XS.iconst X135.here hx rfl (hb hby at_91) (XS.imul X135.here hx rfl (hb hby at_92) rfl (XS.iload X135.here hx rfl (hb hby at_93) rfl k)))))) ?_
        show G T135 (mkF m 95 #[iv i0, iv i1, iv 1, rv w_GREATER_THAN, iv (-1), rv b111, .unset] [.int (-1), .int 3, .ref b111])
        refine gb (fun _ k => XS.iadd X135.here hx rfl (hb hby at_95) rfl (XS.iconst X135.here hx rfl (hb hby at_96) (XS.iadd X135.here hx rfl (hb hby at_97) rfl k))) ?_
        show G T135 (mkF m 98 #[iv i0, iv i1, iv 1, rv w_GREATER_THAN, iv (-1), rv b111, .unset] [.int 3, .ref b111])
        have V'136 := V_b111
        obtain ⟨cl136, Ar136, qk136, sz136, nn136, hs136, ft136⟩ := V'136
        have hin136 : ¬ ((3 : Int32) < 0 ∨ cl136.slots.size ≤ ((3 : Int32)).toNatClampNeg) := inb_of sz136 ⟨by decide, by decide⟩
        have hat136 : cl136.slots[((3 : Int32)).toNatClampNeg]? = some (.int (nar .boolean (0 : Int32))) := hs136.at hin136 rfl
        refine gb (X135.baloadBooleans hx (j := (3 : Int32)) (v := (.int (nar .boolean (0 : Int32)))) (by rw [e135]; exact Ar136.1) (State.isArrayOf_alike hZ.alike Ar136.2.1) Ar136.2.2 hin136 hat136 (g := (mkF m 98 #[iv i0, iv i1, iv 1, rv w_GREATER_THAN, iv (-1), rv b111, .unset] [.int 3, .ref b111])) rfl rfl (hb hby at_98)) ?_
        show G T135 (mkF m 99 #[iv i0, iv i1, iv 1, rv w_GREATER_THAN, iv (-1), rv b111, .unset] [.int (nar .boolean (0 : Int32))])
        refine gb (fun _ k => XS.istore X135.here hx rfl (hb hby at_99) rfl (l' := #[iv i0, iv i1, iv 1, rv w_GREATER_THAN, iv (-1), rv b111, iv (nar .boolean (0 : Int32))]) rfl (XS.aloadN X135.here hx rfl (hb hby at_101) rfl rfl (XS.iloadN X135.here hx rfl (hb hby at_102) rfl k))) ?_
        show G T135 (mkF m 103 #[iv i0, iv i1, iv 1, rv w_GREATER_THAN, iv (-1), rv b111, iv (nar .boolean (0 : Int32))] [.int i1, .ref w_GREATER_THAN])
        obtain ⟨cq137, kq137, q137a, q137b, q137c⟩ := isOf hZ e135 (E_GREATER_THAN.ext O.2)
        obtain ⟨_, _, ⟨T137, L137, k137, n137⟩, -, X137, ⟨Lc137, hQ137, l137, y137, z137⟩, st137⟩ := X135.virtualBack hx (y := (⟨"com/example/wrought_gate/wroughtgate/engine/Comparison", "admits", "(I)Z"⟩ : MethodName)) (z := (⟨"com/example/wrought_gate/wroughtgate/engine/Comparison", "admits", "(I)Z"⟩ : MethodName)) hown (mvT hZ (ow hw 8 rfl)) (mvT hZ (ow hw 9 rfl)) (notFace_of_selects (args := #[]) (mvT hZ (ow hw 11 rfl))) (mvT hZ (ow hw 11 rfl)) (mvT hZ (ow hw 10 rfl)) (by decide) (backOf (W := 0) (rm2_1 l Z a0 hw [] w_GREATER_THAN i1 h135 n0 O (E_GREATER_THAN.ext O.2) (F_ordinal_GREATER_THAN.ext O.2)) hZ (ow hw 12 rfl) (ow hw 5 rfl) (by decide) (by decide)) q137a q137c (g := (mkF m 103 #[iv i0, iv i1, iv 1, rv w_GREATER_THAN, iv (-1), rv b111, iv (nar .boolean (0 : Int32))] [.int i1, .ref w_GREATER_THAN])) rfl (by rw [hml]; rfl) (Steps.refl _) (argsL := [(.int i1)]) (rest := []) (lenOf pd_2 rfl) rfl (by show 2 * 0 + _ ≤ _; exact Nat.le_of_eq rfl) (hb hby at_103) (fun _ _ => ⟨rfl, e135, (by decide : 1 + 0 ≤ _), (by decide : 12 + 0 ≤ _)⟩)
        dsimp only [Pt.U, Pt.locs, Pt.cells, Pt.slots] at X137 l137 y137 z137 st137 hQ137
        subst l137 y137 z137
        obtain ⟨rfl, rfl, e137⟩ := hQ137
        try rw [List.append_nil] at X137
        refine gb (fun _ k => st137.trans k) ?_
        show G T137 (mkF m 106 #[iv i0, iv i1, iv 1, rv w_GREATER_THAN, iv (-1), rv b111, iv (nar .boolean (0 : Int32))] [.int (if (0 : Int32) < i1 then (1 : Int32) else (0 : Int32))])
        refine gb (fun _ k => XS.iload X137.here hx rfl (hb hby at_106) rfl (XS.icmpNo X137.here hx rfl (hb hby at_108) rfl (teq (show (if (0 : Int32) < i1 then (1 : Int32) else (0 : Int32)) = (nar .boolean (0 : Int32)) by simp only [hA, hB, not_true_eq_false, not_false_eq_true, if_true, if_false]; rfl)).2 (XS.iconst X137.here hx rfl (hb hby at_111) (XS.goto X137.here hx rfl (pc0 := 112) (pc' := 116) rfl (hb hby at_112) (by decide) (by decide) k)))) ?_
        show G T137 (mkF m 116 #[iv i0, iv i1, iv 1, rv w_GREATER_THAN, iv (-1), rv b111, iv (nar .boolean (0 : Int32))] [.int 1])
        exact go X137 (v := (some (.int (1 : Int32)))) (fun h => by rw [Bd.returns] at h; cases h) (fun fs hr => retOut X137 hx Bd.returns rfl (Or.inl ⟨rfl, by simp, _, rfl⟩) (hb hby at_116) hr) (⟨rfl, N⟩) (by decide) (by decide)
      · skip
        refine gb (fun _ k => XS.ifYes X83.here hx rfl (pc0 := 18) (pc' := 25) rfl (hb hby at_18) rfl ((if0 _ _).trans (flt hc18).2.1) (by decide) (by decide) (XS.iconst X83.here hx rfl (hb hby at_25) k)) ?_
        show G T83 (mkF m 26 #[iv i0, iv i1, iv 1, rv w_GREATER_THAN, .unset, .unset, .unset] [.int 0])
        have hA : ¬ (i1 < (0 : Int32)) := hc18
        have hB : ¬ ((0 : Int32) < i1) := hc10
        refine gb (fun _ k => XS.istore X83.here hx rfl (hb hby at_26) rfl (l' := #[iv i0, iv i1, iv 1, rv w_GREATER_THAN, iv 0, .unset, .unset]) rfl (XS.bipush X83.here hx rfl (hb hby at_28) k)) ?_
        show G T83 (mkF m 30 #[iv i0, iv i1, iv 1, rv w_GREATER_THAN, iv 0, .unset, .unset] [.int 12])
        obtain ⟨T138, h138, k138, X138, e138, E138, A138, st138⟩ := newP X83 hx hZ (ow hw 7 rfl) e83 (g := (mkF m 30 #[iv i0, iv i1, iv 1, rv w_GREATER_THAN, iv 0, .unset, .unset] [.int 12])) rfl (hb hby at_30) rfl (by decide) (cap := 12) (by decide) (by decide) (by decide) (by decide)
        obtain ⟨b138, g138⟩ : ∃ z, z = h0.size := ⟨_, rfl⟩
        rw [← g138] at A138 st138
        have g_b138 : n0 ≤ b138 := Nat.le_trans (by have := O.2.1; rw [O.1] at this; exact this) (Nat.le_of_eq g138.symm)
        have O := O.ext E138
        have V_b138 : Arv Z h138 b138 k138 .boolean (12 : Int32) [(.int (0 : Int32)), (.int (0 : Int32)), (.int (0 : Int32)), (.int (0 : Int32)), (.int (0 : Int32)), (.int (0 : Int32)), (.int (0 : Int32)), (.int (0 : Int32)), (.int (0 : Int32)), (.int (0 : Int32)), (.int (0 : Int32)), (.int (0 : Int32))] (.int (0 : Int32)) := (Arv.new A138 (by decide)).pad (pad_rep [] (.int (0 : Int32)) 12)
        refine gb st138 ?_
        show G T138 (mkF m 32 #[iv i0, iv i1, iv 1, rv w_GREATER_THAN, iv 0, .unset, .unset] [.ref b138])
        refine gb (fun _ k => XS.dup X138.here hx rfl (hb hby at_32) rfl rfl (XS.iconst X138.here hx rfl (hb hby at_33) (XS.iconst X138.here hx rfl (hb hby at_34) k))) ?_
        show G T138 (mkF m 35 #[iv i0, iv i1, iv 1, rv w_GREATER_THAN, iv 0, .unset, .unset] [.int 0, .int 0, .ref b138, .ref b138])
        have V'139 := V_b138
        obtain ⟨cl139, Ar139, qk139, sz139, nn139, hs139, ft139⟩ := V'139
        have hin139 : ¬ ((0 : Int32) < 0 ∨ cl139.slots.size ≤ ((0 : Int32)).toNatClampNeg) := inb_of sz139 ⟨by decide, by decide⟩
        obtain ⟨T140, h140, X140, e140, W140, st140⟩ := stZ X138 hx hZ e138 Ar139 (j := (0 : Int32)) hin139 (g := (mkF m 35 #[iv i0, iv i1, iv 1, rv w_GREATER_THAN, iv 0, .unset, .unset] [.int 0, .int 0, .ref b138, .ref b138])) rfl rfl (hb hby at_35)
        have V_b138 : Arv Z h140 b138 k138 .boolean (12 : Int32) [(.int (nar .boolean (0 : Int32))), (.int (0 : Int32)), (.int (0 : Int32)), (.int (0 : Int32)), (.int (0 : Int32)), (.int (0 : Int32)), (.int (0 : Int32)), (.int (0 : Int32)), (.int (0 : Int32)), (.int (0 : Int32)), (.int (0 : Int32)), (.int (0 : Int32))] (.int (0 : Int32)) := Arv.set Ar139 qk139 sz139 nn139 hs139 ft139 (fits_nar_bool _) W140 0 rfl (Nat.le_of_ble_eq_true rfl)
        have O := O.wr W140 g_b138
        have N := Fr.snoc X140 N g_b138
        refine gb st140 ?_
        show G T140 (mkF m 36 #[iv i0, iv i1, iv 1, rv w_GREATER_THAN, iv 0, .unset, .unset] [.ref b138])
        refine gb (fun _ k => XS.dup X140.here hx rfl (hb hby at_36) rfl rfl (XS.iconst X140.here hx rfl (hb hby at_37) (XS.iconst X140.here hx rfl (hb hby at_38) k))) ?_
        show G T140 (mkF m 39 #[iv i0, iv i1, iv 1, rv w_GREATER_THAN, iv 0, .unset, .unset] [.int 1, .int 1, .ref b138, .ref b138])
        have V'141 := V_b138
        obtain ⟨cl141, Ar141, qk141, sz141, nn141, hs141, ft141⟩ := V'141
        have hin141 : ¬ ((1 : Int32) < 0 ∨ cl141.slots.size ≤ ((1 : Int32)).toNatClampNeg) := inb_of sz141 ⟨by decide, by decide⟩
        obtain ⟨T142, h142, X142, e142, W142, st142⟩ := stZ X140 hx hZ e140 Ar141 (j := (1 : Int32)) hin141 (g := (mkF m 39 #[iv i0, iv i1, iv 1, rv w_GREATER_THAN, iv 0, .unset, .unset] [.int 1, .int 1, .ref b138, .ref b138])) rfl rfl (hb hby at_39)
        have V_b138 : Arv Z h142 b138 k138 .boolean (12 : Int32) [(.int (nar .boolean (0 : Int32))), (.int (nar .boolean (1 : Int32))), (.int (0 : Int32)), (.int (0 : Int32)), (.int (0 : Int32)), (.int (0 : Int32)), (.int (0 : Int32)), (.int (0 : Int32)), (.int (0 : Int32)), (.int (0 : Int32)), (.int (0 : Int32)), (.int (0 : Int32))] (.int (0 : Int32)) := Arv.set Ar141 qk141 sz141 nn141 hs141 ft141 (fits_nar_bool _) W142 1 rfl (Nat.le_of_ble_eq_true rfl)
        have O := O.wr W142 g_b138
        have N := Fr.snoc X142 N g_b138
        refine gb st142 ?_
        show G T142 (mkF m 40 #[iv i0, iv i1, iv 1, rv w_GREATER_THAN, iv 0, .unset, .unset] [.ref b138])
        refine gb (fun _ k => XS.dup X142.here hx rfl (hb hby at_40) rfl rfl (XS.iconst X142.here hx rfl (hb hby at_41) (XS.iconst X142.here hx rfl (hb hby at_42) k))) ?_
        show G T142 (mkF m 43 #[iv i0, iv i1, iv 1, rv w_GREATER_THAN, iv 0, .unset, .unset] [.int 1, .int 2, .ref b138, .ref b138])
        have V'143 := V_b138
        obtain ⟨cl143, Ar143, qk143, sz143, nn143, hs143, ft143⟩ := V'143
        have hin143 : ¬ ((2 : Int32) < 0 ∨ cl143.slots.size ≤ ((2 : Int32)).toNatClampNeg) := inb_of sz143 ⟨by decide, by decide⟩
        obtain ⟨T144, h144, X144, e144, W144, st144⟩ := stZ X142 hx hZ e142 Ar143 (j := (2 : Int32)) hin143 (g := (mkF m 43 #[iv i0, iv i1, iv 1, rv w_GREATER_THAN, iv 0, .unset, .unset] [.int 1, .int 2, .ref b138, .ref b138])) rfl rfl (hb hby at_43)
        have V_b138 : Arv Z h144 b138 k138 .boolean (12 : Int32) [(.int (nar .boolean (0 : Int32))), (.int (nar .boolean (1 : Int32))), (.int (nar .boolean (1 : Int32))), (.int (0 : Int32)), (.int (0 : Int32)), (.int (0 : Int32)), (.int (0 : Int32)), (.int (0 : Int32)), (.int (0 : Int32)), (.int (0 : Int32)), (.int (0 : Int32)), (.int (0 : Int32))] (.int (0 : Int32)) := Arv.set Ar143 qk143 sz143 nn143 hs143 ft143 (fits_nar_bool _) W144 2 rfl (Nat.le_of_ble_eq_true rfl)
        have O := O.wr W144 g_b138
        have N := Fr.snoc X144 N g_b138
        refine gb st144 ?_
        show G T144 (mkF m 44 #[iv i0, iv i1, iv 1, rv w_GREATER_THAN, iv 0, .unset, .unset] [.ref b138])
        refine gb (fun _ k => XS.dup X144.here hx rfl (hb hby at_44) rfl rfl (XS.iconst X144.here hx rfl (hb hby at_45) (XS.iconst X144.here hx rfl (hb hby at_46) k))) ?_
        show G T144 (mkF m 47 #[iv i0, iv i1, iv 1, rv w_GREATER_THAN, iv 0, .unset, .unset] [.int 0, .int 3, .ref b138, .ref b138])
        have V'145 := V_b138
        obtain ⟨cl145, Ar145, qk145, sz145, nn145, hs145, ft145⟩ := V'145
        have hin145 : ¬ ((3 : Int32) < 0 ∨ cl145.slots.size ≤ ((3 : Int32)).toNatClampNeg) := inb_of sz145 ⟨by decide, by decide⟩
        obtain ⟨T146, h146, X146, e146, W146, st146⟩ := stZ X144 hx hZ e144 Ar145 (j := (3 : Int32)) hin145 (g := (mkF m 47 #[iv i0, iv i1, iv 1, rv w_GREATER_THAN, iv 0, .unset, .unset] [.int 0, .int 3, .ref b138, .ref b138])) rfl rfl (hb hby at_47)
        have V_b138 : Arv Z h146 b138 k138 .boolean (12 : Int32) [(.int (nar .boolean (0 : Int32))), (.int (nar .boolean (1 : Int32))), (.int (nar .boolean (1 : Int32))), (.int (nar .boolean (0 : Int32))), (.int (0 : Int32)), (.int (0 : Int32)), (.int (0 : Int32)), (.int (0 : Int32)), (.int (0 : Int32)), (.int (0 : Int32)), (.int (0 : Int32)), (.int (0 : Int32))] (.int (0 : Int32)) := Arv.set Ar145 qk145 sz145 nn145 hs145 ft145 (fits_nar_bool _) W146 3 rfl (Nat.le_of_ble_eq_true rfl)
        have O := O.wr W146 g_b138
        have N := Fr.snoc X146 N g_b138
        refine gb st146 ?_
        show G T146 (mkF m 48 #[iv i0, iv i1, iv 1, rv w_GREATER_THAN, iv 0, .unset, .unset] [.ref b138])
        refine gb (fun _ k => XS.dup X146.here hx rfl (hb hby at_48) rfl rfl (XS.iconst X146.here hx rfl (hb hby at_49) (XS.iconst X146.here hx rfl (hb hby at_50) k))) ?_
        show G T146 (mkF m 51 #[iv i0, iv i1, iv 1, rv w_GREATER_THAN, iv 0, .unset, .unset] [.int 0, .int 4, .ref b138, .ref b138])
        have V'147 := V_b138
        obtain ⟨cl147, Ar147, qk147, sz147, nn147, hs147, ft147⟩ := V'147
        have hin147 : ¬ ((4 : Int32) < 0 ∨ cl147.slots.size ≤ ((4 : Int32)).toNatClampNeg) := inb_of sz147 ⟨by decide, by decide⟩
        obtain ⟨T148, h148, X148, e148, W148, st148⟩ := stZ X146 hx hZ e146 Ar147 (j := (4 : Int32)) hin147 (g := (mkF m 51 #[iv i0, iv i1, iv 1, rv w_GREATER_THAN, iv 0, .unset, .unset] [.int 0, .int 4, .ref b138, .ref b138])) rfl rfl (hb hby at_51)
        have V_b138 : Arv Z h148 b138 k138 .boolean (12 : Int32) [(.int (nar .boolean (0 : Int32))), (.int (nar .boolean (1 : Int32))), (.int (nar .boolean (1 : Int32))), (.int (nar .boolean (0 : Int32))), (.int (nar .boolean (0 : Int32))), (.int (0 : Int32)), (.int (0 : Int32)), (.int (0 : Int32)), (.int (0 : Int32)), (.int (0 : Int32)), (.int (0 : Int32)), (.int (0 : Int32))] (.int (0 : Int32)) := Arv.set Ar147 qk147 sz147 nn147 hs147 ft147 (fits_nar_bool _) W148 4 rfl (Nat.le_of_ble_eq_true rfl)
        have O := O.wr W148 g_b138
        have N := Fr.snoc X148 N g_b138
        refine gb st148 ?_
        show G T148 (mkF m 52 #[iv i0, iv i1, iv 1, rv w_GREATER_THAN, iv 0, .unset, .unset] [.ref b138])
        refine gb (fun _ k => XS.dup X148.here hx rfl (hb hby at_52) rfl rfl (XS.iconst X148.here hx rfl (hb hby at_53) (XS.iconst X148.here hx rfl (hb hby at_54) k))) ?_
        show G T148 (mkF m 55 #[iv i0, iv i1, iv 1, rv w_GREATER_THAN, iv 0, .unset, .unset] [.int 1, .int 5, .ref b138, .ref b138])
        have V'149 := V_b138
        obtain ⟨cl149, Ar149, qk149, sz149, nn149, hs149, ft149⟩ := V'149
        have hin149 : ¬ ((5 : Int32) < 0 ∨ cl149.slots.size ≤ ((5 : Int32)).toNatClampNeg) := inb_of sz149 ⟨by decide, by decide⟩
        obtain ⟨T150, h150, X150, e150, W150, st150⟩ := stZ X148 hx hZ e148 Ar149 (j := (5 : Int32)) hin149 (g := (mkF m 55 #[iv i0, iv i1, iv 1, rv w_GREATER_THAN, iv 0, .unset, .unset] [.int 1, .int 5, .ref b138, .ref b138])) rfl rfl (hb hby at_55)
        have V_b138 : Arv Z h150 b138 k138 .boolean (12 : Int32) [(.int (nar .boolean (0 : Int32))), (.int (nar .boolean (1 : Int32))), (.int (nar .boolean (1 : Int32))), (.int (nar .boolean (0 : Int32))), (.int (nar .boolean (0 : Int32))), (.int (nar .boolean (1 : Int32))), (.int (0 : Int32)), (.int (0 : Int32)), (.int (0 : Int32)), (.int (0 : Int32)), (.int (0 : Int32)), (.int (0 : Int32))] (.int (0 : Int32)) := Arv.set Ar149 qk149 sz149 nn149 hs149 ft149 (fits_nar_bool _) W150 5 rfl (Nat.le_of_ble_eq_true rfl)
        have O := O.wr W150 g_b138
        have N := Fr.snoc X150 N g_b138
        refine gb st150 ?_
        show G T150 (mkF m 56 #[iv i0, iv i1, iv 1, rv w_GREATER_THAN, iv 0, .unset, .unset] [.ref b138])
        refine gb (fun _ k => XS.dup X150.here hx rfl (hb hby at_56) rfl rfl (XS.bipush X150.here hx rfl (hb hby at_57) (XS.iconst X150.here hx rfl (hb hby at_59) k))) ?_
        show G T150 (mkF m 60 #[iv i0, iv i1, iv 1, rv w_GREATER_THAN, iv 0, .unset, .unset] [.int 1, .int 6, .ref b138, .ref b138])
        have V'151 := V_b138
        obtain ⟨cl151, Ar151, qk151, sz151, nn151, hs151, ft151⟩ := V'151
        have hin151 : ¬ ((6 : Int32) < 0 ∨ cl151.slots.size ≤ ((6 : Int32)).toNatClampNeg) := inb_of sz151 ⟨by decide, by decide⟩
        obtain ⟨T152, h152, X152, e152, W152, st152⟩ := stZ X150 hx hZ e150 Ar151 (j := (6 : Int32)) hin151 (g := (mkF m 60 #[iv i0, iv i1, iv 1, rv w_GREATER_THAN, iv 0, .unset, .unset] [.int 1, .int 6, .ref b138, .ref b138])) rfl rfl (hb hby at_60)
        have V_b138 : Arv Z h152 b138 k138 .boolean (12 : Int32) [(.int (nar .boolean (0 : Int32))), (.int (nar .boolean (1 : Int32))), (.int (nar .boolean (1 : Int32))), (.int (nar .boolean (0 : Int32))), (.int (nar .boolean (0 : Int32))), (.int (nar .boolean (1 : Int32))), (.int (nar .boolean (1 : Int32))), (.int (0 : Int32)), (.int (0 : Int32)), (.int (0 : Int32)), (.int (0 : Int32)), (.int (0 : Int32))] (.int (0 : Int32)) := Arv.set Ar151 qk151 sz151 nn151 hs151 ft151 (fits_nar_bool _) W152 6 rfl (Nat.le_of_ble_eq_true rfl)
        have O := O.wr W152 g_b138
        have N := Fr.snoc X152 N g_b138
        refine gb st152 ?_
        show G T152 (mkF m 61 #[iv i0, iv i1, iv 1, rv w_GREATER_THAN, iv 0, .unset, .unset] [.ref b138])
        refine gb (fun _ k => XS.dup X152.here hx rfl (hb hby at_61) rfl rfl (XS.bipush X152.here hx rfl (hb hby at_62) (XS.iconst X152.here hx rfl (hb hby at_64) k))) ?_
        show G T152 (mkF m 65 #[iv i0, iv i1, iv 1, rv w_GREATER_THAN, iv 0, .unset, .unset] [.int 1, .int 7, .ref b138, .ref b138])
        have V'153 := V_b138
        obtain ⟨cl153, Ar153, qk153, sz153, nn153, hs153, ft153⟩ := V'153
        have hin153 : ¬ ((7 : Int32) < 0 ∨ cl153.slots.size ≤ ((7 : Int32)).toNatClampNeg) := inb_of sz153 ⟨by decide, by decide⟩
        obtain ⟨T154, h154, X154, e154, W154, st154⟩ := stZ X152 hx hZ e152 Ar153 (j := (7 : Int32)) hin153 (g := (mkF m 65 #[iv i0, iv i1, iv 1, rv w_GREATER_THAN, iv 0, .unset, .unset] [.int 1, .int 7, .ref b138, .ref b138])) rfl rfl (hb hby at_65)
        have V_b138 : Arv Z h154 b138 k138 .boolean (12 : Int32) [(.int (nar .boolean (0 : Int32))), (.int (nar .boolean (1 : Int32))), (.int (nar .boolean (1 : Int32))), (.int (nar .boolean (0 : Int32))), (.int (nar .boolean (0 : Int32))), (.int (nar .boolean (1 : Int32))), (.int (nar .boolean (1 : Int32))), (.int (nar .boolean (1 : Int32))), (.int (0 : Int32)), (.int (0 : Int32)), (.int (0 : Int32)), (.int (0 : Int32))] (.int (0 : Int32)) := Arv.set Ar153 qk153 sz153 nn153 hs153 ft153 (fits_nar_bool _) W154 7 rfl (Nat.le_of_ble_eq_true rfl)
        have O := O.wr W154 g_b138
        have N := Fr.snoc X154 N g_b138
        refine gb st154 ?_
        show G T154 (mkF m 66 #[iv i0, iv i1, iv 1, rv w_GREATER_THAN, iv 0, .unset, .unset] [.ref b138])
        refine gb (fun _ k => XS.dup X154.here hx rfl (hb hby at_66) rfl rfl (XS.bipush X154.here hx rfl (hb hby at_67) (XS.iconst X154.here hx rfl (hb hby at_69) k))) ?_
        show G T154 (mkF m 70 #[iv i0, iv i1, iv 1, rv w_GREATER_THAN, iv 0, .unset, .unset] [.int 0, .int 8, .ref b138, .ref b138])
        have V'155 := V_b138
        obtain ⟨cl155, Ar155, qk155, sz155, nn155, hs155, ft155⟩ := V'155
        have hin155 : ¬ ((8 : Int32) < 0 ∨ cl155.slots.size ≤ ((8 : Int32)).toNatClampNeg) := inb_of sz155 ⟨by decide, by decide⟩
        obtain ⟨T156, h156, X156, e156, W156, st156⟩ := stZ X154 hx hZ e154 Ar155 (j := (8 : Int32)) hin155 (g := (mkF m 70 #[iv i0, iv i1, iv 1, rv w_GREATER_THAN, iv 0, .unset, .unset] [.int 0, .int 8, .ref b138, .ref b138])) rfl rfl (hb hby at_70)
        have V_b138 : Arv Z h156 b138 k138 .boolean (12 : Int32) [(.int (nar .boolean (0 : Int32))), (.int (nar .boolean (1 : Int32))), (.int (nar .boolean (1 : Int32))), (.int (nar .boolean (0 : Int32))), (.int (nar .boolean (0 : Int32))), (.int (nar .boolean (1 : Int32))), (.int (nar .boolean (1 : Int32))), (.int (nar .boolean (1 : Int32))), (.int (nar .boolean (0 : Int32))), (.int (0 : Int32)), (.int (0 : Int32)), (.int (0 : Int32))] (.int (0 : Int32)) := Arv.set Ar155 qk155 sz155 nn155 hs155 ft155 (fits_nar_bool _) W156 8 rfl (Nat.le_of_ble_eq_true rfl)
        have O := O.wr W156 g_b138
        have N := Fr.snoc X156 N g_b138
        refine gb st156 ?_
        show G T156 (mkF m 71 #[iv i0, iv i1, iv 1, rv w_GREATER_THAN, iv 0, .unset, .unset] [.ref b138])
        refine gb (fun _ k => XS.dup X156.here hx rfl (hb hby at_71) rfl rfl (XS.bipush X156.here hx rfl (hb hby at_72) (XS.iconst X156.here hx rfl (hb hby at_74) k))) ?_
        show G T156 (mkF m 75 #[iv i0, iv i1, iv 1, rv w_GREATER_THAN, iv 0, .unset, .unset] [.int 1, .int 9, .ref b138, .ref b138])
        have V'157 := V_b138
        obtain ⟨cl157, Ar157, qk157, sz157, nn157, hs157, ft157⟩ := V'157
        have hin157 : ¬ ((9 : Int32) < 0 ∨ cl157.slots.size ≤ ((9 : Int32)).toNatClampNeg) := inb_of sz157 ⟨by decide, by decide⟩
        obtain ⟨T158, h158, X158, e158, W158, st158⟩ := stZ X156 hx hZ e156 Ar157 (j := (9 : Int32)) hin157 (g := (mkF m 75 #[iv i0, iv i1, iv 1, rv w_GREATER_THAN, iv 0, .unset, .unset] [.int 1, .int 9, .ref b138, .ref b138])) rfl rfl (hb hby at_75)
        have V_b138 : Arv Z h158 b138 k138 .boolean (12 : Int32) [(.int (nar .boolean (0 : Int32))), (.int (nar .boolean (1 : Int32))), (.int (nar .boolean (1 : Int32))), (.int (nar .boolean (0 : Int32))), (.int (nar .boolean (0 : Int32))), (.int (nar .boolean (1 : Int32))), (.int (nar .boolean (1 : Int32))), (.int (nar .boolean (1 : Int32))), (.int (nar .boolean (0 : Int32))), (.int (nar .boolean (1 : Int32))), (.int (0 : Int32)), (.int (0 : Int32))] (.int (0 : Int32)) := Arv.set Ar157 qk157 sz157 nn157 hs157 ft157 (fits_nar_bool _) W158 9 rfl (Nat.le_of_ble_eq_true rfl)
        have O := O.wr W158 g_b138
        have N := Fr.snoc X158 N g_b138
        refine gb st158 ?_
        show G T158 (mkF m 76 #[iv i0, iv i1, iv 1, rv w_GREATER_THAN, iv 0, .unset, .unset] [.ref b138])
        refine gb (fun _ k => XS.dup X158.here hx rfl (hb hby at_76) rfl rfl (XS.bipush X158.here hx rfl (hb hby at_77) (XS.iconst X158.here hx rfl (hb hby at_79) k))) ?_
        show G T158 (mkF m 80 #[iv i0, iv i1, iv 1, rv w_GREATER_THAN, iv 0, .unset, .unset] [.int 0, .int 10, .ref b138, .ref b138])
        have V'159 := V_b138
        obtain ⟨cl159, Ar159, qk159, sz159, nn159, hs159, ft159⟩ := V'159
        have hin159 : ¬ ((10 : Int32) < 0 ∨ cl159.slots.size ≤ ((10 : Int32)).toNatClampNeg) := inb_of sz159 ⟨by decide, by decide⟩
        obtain ⟨T160, h160, X160, e160, W160, st160⟩ := stZ X158 hx hZ e158 Ar159 (j := (10 : Int32)) hin159 (g := (mkF m 80 #[iv i0, iv i1, iv 1, rv w_GREATER_THAN, iv 0, .unset, .unset] [.int 0, .int 10, .ref b138, .ref b138])) rfl rfl (hb hby at_80)
        have V_b138 : Arv Z h160 b138 k138 .boolean (12 : Int32) [(.int (nar .boolean (0 : Int32))), (.int (nar .boolean (1 : Int32))), (.int (nar .boolean (1 : Int32))), (.int (nar .boolean (0 : Int32))), (.int (nar .boolean (0 : Int32))), (.int (nar .boolean (1 : Int32))), (.int (nar .boolean (1 : Int32))), (.int (nar .boolean (1 : Int32))), (.int (nar .boolean (0 : Int32))), (.int (nar .boolean (1 : Int32))), (.int (nar .boolean (0 : Int32))), (.int (0 : Int32))] (.int (0 : Int32)) := Arv.set Ar159 qk159 sz159 nn159 hs159 ft159 (fits_nar_bool _) W160 10 rfl (Nat.le_of_ble_eq_true rfl)
        have O := O.wr W160 g_b138
        have N := Fr.snoc X160 N g_b138
        refine gb st160 ?_
        show G T160 (mkF m 81 #[iv i0, iv i1, iv 1, rv w_GREATER_THAN, iv 0, .unset, .unset] [.ref b138])
        refine gb (fun _ k => XS.dup X160.here hx rfl (hb hby at_81) rfl rfl (XS.bipush X160.here hx rfl (hb hby at_82) (XS.iconst X160.here hx rfl (hb hby at_84) k))) ?_
        show G T160 (mkF m 85 #[iv i0, iv i1, iv 1, rv w_GREATER_THAN, iv 0, .unset, .unset] [.int 0, .int 11, .ref b138, .ref b138])
        have V'161 := V_b138
        obtain ⟨cl161, Ar161, qk161, sz161, nn161, hs161, ft161⟩ := V'161
        have hin161 : ¬ ((11 : Int32) < 0 ∨ cl161.slots.size ≤ ((11 : Int32)).toNatClampNeg) := inb_of sz161 ⟨by decide, by decide⟩
        obtain ⟨T162, h162, X162, e162, W162, st162⟩ := stZ X160 hx hZ e160 Ar161 (j := (11 : Int32)) hin161 (g := (mkF m 85 #[iv i0, iv i1, iv 1, rv w_GREATER_THAN, iv 0, .unset, .unset] [.int 0, .int 11, .ref b138, .ref b138])) rfl rfl (hb hby at_85)
        have V_b138 : Arv Z h162 b138 k138 .boolean (12 : Int32) [(.int (nar .boolean (0 : Int32))), (.int (nar .boolean (1 : Int32))), (.int (nar .boolean (1 : Int32))), (.int (nar .boolean (0 : Int32))), (.int (nar .boolean (0 : Int32))), (.int (nar .boolean (1 : Int32))), (.int (nar .boolean (1 : Int32))), (.int (nar .boolean (1 : Int32))), (.int (nar .boolean (0 : Int32))), (.int (nar .boolean (1 : Int32))), (.int (nar .boolean (0 : Int32))), (.int (nar .boolean (0 : Int32)))] (.int (0 : Int32)) := Arv.set Ar161 qk161 sz161 nn161 hs161 ft161 (fits_nar_bool _) W162 11 rfl (Nat.le_of_ble_eq_true rfl)
        have O := O.wr W162 g_b138
        have N := Fr.snoc X162 N g_b138
        refine gb st162 ?_
        show G T162 (mkF m 86 #[iv i0, iv i1, iv 1, rv w_GREATER_THAN, iv 0, .unset, .unset] [.ref b138])
        refine gb (fun _ k => XS.astore X162.here hx rfl (hb hby at_86) rfl rfl (l' := #[iv i0, iv i1, iv 1, rv w_GREATER_THAN, iv 0, rv b138, .unset]) rfl (XS.aload X162.here hx rfl (hb hby at_88) rfl rfl (XS.iloadN X162.here hx rfl (hb hby at_90) rfl (XS.iconst X162.here hx rfl (hb hby at_91) (XS.imul X162.here hx rfl (hb hby at_92) rfl (XS.iload X162.here hx rfl (hb hby at_93) rfl k)))))) ?_
        show G T162 (mkF m 95 #[iv i0, iv i1, iv 1, rv w_GREATER_THAN, iv 0, rv b138, .unset] [.int 0, .int 3, .ref b138])
        refine gb (fun _ k => XS.iadd X162.here hx rfl (hb hby at_95) rfl (XS.iconst X162.here hx rfl (hb hby at_96) (XS.iadd X162.here hx rfl (hb hby at_97) rfl k))) ?_
        show G T162 (mkF m 98 #[iv i0, iv i1, iv 1, rv w_GREATER_THAN, iv 0, rv b138, .unset] [.int 4, .ref b138])
        have V'163 := V_b138
        obtain ⟨cl163, Ar163, qk163, sz163, nn163, hs163, ft163⟩ := V'163
        have hin163 : ¬ ((4 : Int32) < 0 ∨ cl163.slots.size ≤ ((4 : Int32)).toNatClampNeg) := inb_of sz163 ⟨by decide, by decide⟩
        have hat163 : cl163.slots[((4 : Int32)).toNatClampNeg]? = some (.int (nar .boolean (0 : Int32))) := hs163.at hin163 rfl
        refine gb (X162.baloadBooleans hx (j := (4 : Int32)) (v := (.int (nar .boolean (0 : Int32)))) (by rw [e162]; exact Ar163.1) (State.isArrayOf_alike hZ.alike Ar163.2.1) Ar163.2.2 hin163 hat163 (g := (mkF m 98 #[iv i0, iv i1, iv 1, rv w_GREATER_THAN, iv 0, rv b138, .unset] [.int 4, .ref b138])) rfl rfl (hb hby at_98)) ?_
        show G T162 (mkF m 99 #[iv i0, iv i1, iv 1, rv w_GREATER_THAN, iv 0, rv b138, .unset] [.int (nar .boolean (0 : Int32))])
        refine gb (fun _ k => XS.istore X162.here hx rfl (hb hby at_99) rfl (l' := #[iv i0, iv i1, iv 1, rv w_GREATER_THAN, iv 0, rv b138, iv (nar .boolean (0 : Int32))]) rfl (XS.aloadN X162.here hx rfl (hb hby at_101) rfl rfl (XS.iloadN X162.here hx rfl (hb hby at_102) rfl k))) ?_
        show G T162 (mkF m 103 #[iv i0, iv i1, iv 1, rv w_GREATER_THAN, iv 0, rv b138, iv (nar .boolean (0 : Int32))] [.int i1, .ref w_GREATER_THAN])
        obtain ⟨cq164, kq164, q164a, q164b, q164c⟩ := isOf hZ e162 (E_GREATER_THAN.ext O.2)
        obtain ⟨_, _, ⟨T164, L164, k164, n164⟩, -, X164, ⟨Lc164, hQ164, l164, y164, z164⟩, st164⟩ := X162.virtualBack hx (y := (⟨"com/example/wrought_gate/wroughtgate/engine/Comparison", "admits", "(I)Z"⟩ : MethodName)) (z := (⟨"com/example/wrought_gate/wroughtgate/engine/Comparison", "admits", "(I)Z"⟩ : MethodName)) hown (mvT hZ (ow hw 8 rfl)) (mvT hZ (ow hw 9 rfl)) (notFace_of_selects (args := #[]) (mvT hZ (ow hw 11 rfl))) (mvT hZ (ow hw 11 rfl)) (mvT hZ (ow hw 10 rfl)) (by decide) (backOf (W := 0) (rm2_1 l Z a0 hw [] w_GREATER_THAN i1 h162 n0 O (E_GREATER_THAN.ext O.2) (F_ordinal_GREATER_THAN.ext O.2)) hZ (ow hw 12 rfl) (ow hw 5 rfl) (by decide) (by decide)) q164a q164c (g := (mkF m 103 #[iv i0, iv i1, iv 1, rv w_GREATER_THAN, iv 0, rv b138, iv (nar .boolean (0 : Int32))] [.int i1, .ref w_GREATER_THAN])) rfl (by rw [hml]; rfl) (Steps.refl _) (argsL := [(.int i1)]) (rest := []) (lenOf pd_2 rfl) rfl (by show 2 * 0 + _ ≤ _; exact Nat.le_of_eq rfl) (hb hby at_103) (fun _ _ => ⟨rfl, e162, (by decide : 1 + 0 ≤ _), (by decide : 12 + 0 ≤ _)⟩)
        dsimp only [Pt.U, Pt.locs, Pt.cells, Pt.slots] at X164 l164 y164 z164 st164 hQ164
        subst l164 y164 z164
        obtain ⟨rfl, rfl, e164⟩ := hQ164
        try rw [List.append_nil] at X164
        refine gb (fun _ k => st164.trans k) ?_
        show G T164 (mkF m 106 #[iv i0, iv i1, iv 1, rv w_GREATER_THAN, iv 0, rv b138, iv (nar .boolean (0 : Int32))] [.int (if (0 : Int32) < i1 then (1 : Int32) else (0 : Int32))])
        refine gb (fun _ k => XS.iload X164.here hx rfl (hb hby at_106) rfl (XS.icmpNo X164.here hx rfl (hb hby at_108) rfl (teq (show (if (0 : Int32) < i1 then (1 : Int32) else (0 : Int32)) = (nar .boolean (0 : Int32)) by simp only [hA, hB, not_true_eq_false, not_false_eq_true, if_true, if_false]; rfl)).2 (XS.iconst X164.here hx rfl (hb hby at_111) (XS.goto X164.here hx rfl (pc0 := 112) (pc' := 116) rfl (hb hby at_112) (by decide) (by decide) k)))) ?_
        show G T164 (mkF m 116 #[iv i0, iv i1, iv 1, rv w_GREATER_THAN, iv 0, rv b138, iv (nar .boolean (0 : Int32))] [.int 1])
        exact go X164 (v := (some (.int (1 : Int32)))) (fun h => by rw [Bd.returns] at h; cases h) (fun fs hr => retOut X164 hx Bd.returns rfl (Or.inl ⟨rfl, by simp, _, rfl⟩) (hb hby at_116) hr) (⟨rfl, N⟩) (by decide) (by decide)
  · skip
    rw [hk]
    show G s₁ (mkF m 4 #[iv i0, iv i1, iv 2, .unset, .unset, .unset, .unset] [])
    refine gb (fun _ k => XS.iloadN X0.here hx rfl (hb hby at_4) rfl k) ?_
    show G s₁ (mkF m 5 #[iv i0, iv i1, iv 2, .unset, .unset, .unset, .unset] [.int 2])
    obtain ⟨_, _, ⟨T165, L165, k165, n165⟩, -, X165, ⟨Lc165, hQ165, l165, y165, z165⟩, st165⟩ := Jvm.LawKit.callS X0 hx (y := (⟨"com/example/wrought_gate/wroughtgate/engine/ComparisonAdmitsPinLaw", "pick", "(I)Lcom/example/wrought_gate/wroughtgate/engine/Comparison;"⟩ : MethodName)) hown (mvT hZ (ow hw 0 rfl)) (mvT hZ (ow hw 1 rfl)) (mvT hZ (ow hw 2 rfl)) (mvT hZ (ow hw 3 rfl)) (by decide) (backOf (W := 0) (rm1_2 l Z a0 hw [] h0 n0 O w_AT_MOST S_AT_MOST) hZ (ow hw 3 rfl) (ow hw 2 rfl) (by decide) (by decide)) (g := (mkF m 5 #[iv i0, iv i1, iv 2, .unset, .unset, .unset, .unset] [.int 2])) rfl (by rw [hml]; rfl) (argsL := [(.int (2 : Int32))]) (rest := []) (lenOf pd_1 rfl) rfl (by show 2 * 0 + _ ≤ _; exact Nat.le_of_eq rfl) (hb hby at_5) (fun _ _ => ⟨rfl, e0, (by decide : 0 + 0 ≤ _), (by decide : 0 + 0 ≤ _)⟩)
    dsimp only [Pt.U, Pt.locs, Pt.cells, Pt.slots] at X165 l165 y165 z165 st165 hQ165
    subst l165 y165 z165
    obtain ⟨rfl, rfl, e165⟩ := hQ165
    try rw [List.append_nil] at X165
    refine gb st165 ?_
    show G T165 (mkF m 8 #[iv i0, iv i1, iv 2, .unset, .unset, .unset, .unset] [.ref w_AT_MOST])
    refine gb (fun _ k => XS.astoreN X165.here hx rfl (hb hby at_8) rfl rfl (l' := #[iv i0, iv i1, iv 2, rv w_AT_MOST, .unset, .unset, .unset]) rfl (XS.iloadN X165.here hx rfl (hb hby at_9) rfl k)) ?_
    show G T165 (mkF m 10 #[iv i0, iv i1, iv 2, rv w_AT_MOST, .unset, .unset, .unset] [.int i1])
    by_cases hc10 : (0 : Int32) < i1
    · skip
      refine gb (fun _ k => XS.ifNo X165.here hx rfl (hb hby at_10) rfl ((if0 _ _).trans (tlt hc10).2.2.2) (XS.iconst X165.here hx rfl (hb hby at_13) (XS.goto X165.here hx rfl (pc0 := 14) (pc' := 26) rfl (hb hby at_14) (by decide) (by decide) k))) ?_
      show G T165 (mkF m 26 #[iv i0, iv i1, iv 2, rv w_AT_MOST, .unset, .unset, .unset] [.int 1])
      have hB : (0 : Int32) < i1 := hc10
      have hA : ¬ (i1 < (0 : Int32)) := own_asym hB
      refine gb (fun _ k => XS.istore X165.here hx rfl (hb hby at_26) rfl (l' := #[iv i0, iv i1, iv 2, rv w_AT_MOST, iv 1, .unset, .unset]) rfl (XS.bipush X165.here hx rfl (hb hby at_28) k)) ?_
      show G T165 (mkF m 30 #[iv i0, iv i1, iv 2, rv w_AT_MOST, iv 1, .unset, .unset] [.int 12])
      obtain ⟨T166, h166, k166, X166, e166, E166, A166, st166⟩ := newP X165 hx hZ (ow hw 7 rfl) e165 (g := (mkF m 30 #[iv i0, iv i1, iv 2, rv w_AT_MOST, iv 1, .unset, .unset] [.int 12])) rfl (hb hby at_30) rfl (by decide) (cap := 12) (by decide) (by decide) (by decide) (by decide)
      obtain ⟨b166, g166⟩ : ∃ z, z = h0.size := ⟨_, rfl⟩
      rw [← g166] at A166 st166
      have g_b166 : n0 ≤ b166 := Nat.le_trans (by have := O.2.1; rw [O.1] at this; exact this) (Nat.le_of_eq g166.symm)
      have O := O.ext E166
      have V_b166 : Arv Z h166 b166 k166 .boolean (12 : Int32) [(.int (0 : Int32)), (.int (0 : Int32)), (.int (0 : Int32)), (.int (0 : Int32)), (.int (0 : Int32)), (.int (0 : Int32)), (.int (0 : Int32)), (.int (0 : Int32)), (.int (0 : Int32)), (.int (0 : Int32)), (.int (0 : Int32)), (.int (0 : Int32))] (.int (0 : Int32)) := (Arv.new A166 (by decide)).pad (pad_rep [] (.int (0 : Int32)) 12)
      refine gb st166 ?_
      show G T166 (mkF m 32 #[iv i0, iv i1, iv 2, rv w_AT_MOST, iv 1, .unset, .unset] [.ref b166])
      refine gb (fun _ k => XS.dup X166.here hx rfl (hb hby at_32) rfl rfl (XS.iconst X166.here hx rfl (hb hby at_33) (XS.iconst X166.here hx rfl (hb hby at_34) k))) ?_
      show G T166 (mkF m 35 #[iv i0, iv i1, iv 2, rv w_AT_MOST, iv 1, .unset, .unset] [.int 0, .int 0, .ref b166, .ref b166])
      have V'167 := V_b166
      obtain ⟨cl167, Ar167, qk167, sz167, nn167, hs167, ft167⟩ := V'167
      have hin167 : ¬ ((0 : Int32) < 0 ∨ cl167.slots.size ≤ ((0 : Int32)).toNatClampNeg) := inb_of sz167 ⟨by decide, by decide⟩
      obtain ⟨T168, h168, X168, e168, W168, st168⟩ := stZ X166 hx hZ e166 Ar167 (j := (0 : Int32)) hin167 (g := (mkF m 35 #[iv i0, iv i1, iv 2, rv w_AT_MOST, iv 1, .unset, .unset] [.int 0, .int 0, .ref b166, .ref b166])) rfl rfl (hb hby at_35)
      have V_b166 : Arv Z h168 b166 k166 .boolean (12 : Int32) [(.int (nar .boolean (0 : Int32))), (.int (0 : Int32)), (.int (0 : Int32)), (.int (0 : Int32)), (.int (0 : Int32)), (.int (0 : Int32)), (.int (0 : Int32)), (.int (0 : Int32)), (.int (0 : Int32)), (.int (0 : Int32)), (.int (0 : Int32)), (.int (0 : Int32))] (.int (0 : Int32)) := Arv.set Ar167 qk167 sz167 nn167 hs167 ft167 (fits_nar_bool _) W168 0 rfl (Nat.le_of_ble_eq_true rfl)
      have O := O.wr W168 g_b166
      have N := Fr.snoc X168 N g_b166
      refine gb st168 ?_
      show G T168 (mkF m 36 #[iv i0, iv i1, iv 2, rv w_AT_MOST, iv 1, .unset, .unset] [.ref b166])
      refine gb (fun _ k => XS.dup X168.here hx rfl (hb hby at_36) rfl rfl (XS.iconst X168.here hx rfl (hb hby at_37) (XS.iconst X168.here hx rfl (hb hby at_38) k))) ?_
      show G T168 (mkF m 39 #[iv i0, iv i1, iv 2, rv w_AT_MOST, iv 1, .unset, .unset] [.int 1, .int 1, .ref b166, .ref b166])
      have V'169 := V_b166
      obtain ⟨cl169, Ar169, qk169, sz169, nn169, hs169, ft169⟩ := V'169
      have hin169 : ¬ ((1 : Int32) < 0 ∨ cl169.slots.size ≤ ((1 : Int32)).toNatClampNeg) := inb_of sz169 ⟨by decide, by decide⟩
      obtain ⟨T170, h170, X170, e170, W170, st170⟩ := stZ X168 hx hZ e168 Ar169 (j := (1 : Int32)) hin169 (g := (mkF m 39 #[iv i0, iv i1, iv 2, rv w_AT_MOST, iv 1, .unset, .unset] [.int 1, .int 1, .ref b166, .ref b166])) rfl rfl (hb hby at_39)
      have V_b166 : Arv Z h170 b166 k166 .boolean (12 : Int32) [(.int (nar .boolean (0 : Int32))), (.int (nar .boolean (1 : Int32))), (.int (0 : Int32)), (.int (0 : Int32)), (.int (0 : Int32)), (.int (0 : Int32)), (.int (0 : Int32)), (.int (0 : Int32)), (.int (0 : Int32)), (.int (0 : Int32)), (.int (0 : Int32)), (.int (0 : Int32))] (.int (0 : Int32)) := Arv.set Ar169 qk169 sz169 nn169 hs169 ft169 (fits_nar_bool _) W170 1 rfl (Nat.le_of_ble_eq_true rfl)
      have O := O.wr W170 g_b166
      have N := Fr.snoc X170 N g_b166
      refine gb st170 ?_
      show G T170 (mkF m 40 #[iv i0, iv i1, iv 2, rv w_AT_MOST, iv 1, .unset, .unset] [.ref b166])
      refine gb (fun _ k => XS.dup X170.here hx rfl (hb hby at_40) rfl rfl (XS.iconst X170.here hx rfl (hb hby at_41) (XS.iconst X170.here hx rfl (hb hby at_42) k))) ?_
      show G T170 (mkF m 43 #[iv i0, iv i1, iv 2, rv w_AT_MOST, iv 1, .unset, .unset] [.int 1, .int 2, .ref b166, .ref b166])
      have V'171 := V_b166
      obtain ⟨cl171, Ar171, qk171, sz171, nn171, hs171, ft171⟩ := V'171
      have hin171 : ¬ ((2 : Int32) < 0 ∨ cl171.slots.size ≤ ((2 : Int32)).toNatClampNeg) := inb_of sz171 ⟨by decide, by decide⟩
      obtain ⟨T172, h172, X172, e172, W172, st172⟩ := stZ X170 hx hZ e170 Ar171 (j := (2 : Int32)) hin171 (g := (mkF m 43 #[iv i0, iv i1, iv 2, rv w_AT_MOST, iv 1, .unset, .unset] [.int 1, .int 2, .ref b166, .ref b166])) rfl rfl (hb hby at_43)
      have V_b166 : Arv Z h172 b166 k166 .boolean (12 : Int32) [(.int (nar .boolean (0 : Int32))), (.int (nar .boolean (1 : Int32))), (.int (nar .boolean (1 : Int32))), (.int (0 : Int32)), (.int (0 : Int32)), (.int (0 : Int32)), (.int (0 : Int32)), (.int (0 : Int32)), (.int (0 : Int32)), (.int (0 : Int32)), (.int (0 : Int32)), (.int (0 : Int32))] (.int (0 : Int32)) := Arv.set Ar171 qk171 sz171 nn171 hs171 ft171 (fits_nar_bool _) W172 2 rfl (Nat.le_of_ble_eq_true rfl)
      have O := O.wr W172 g_b166
      have N := Fr.snoc X172 N g_b166
      refine gb st172 ?_
      show G T172 (mkF m 44 #[iv i0, iv i1, iv 2, rv w_AT_MOST, iv 1, .unset, .unset] [.ref b166])
      refine gb (fun _ k => XS.dup X172.here hx rfl (hb hby at_44) rfl rfl (XS.iconst X172.here hx rfl (hb hby at_45) (XS.iconst X172.here hx rfl (hb hby at_46) k))) ?_
      show G T172 (mkF m 47 #[iv i0, iv i1, iv 2, rv w_AT_MOST, iv 1, .unset, .unset] [.int 0, .int 3, .ref b166, .ref b166])
      have V'173 := V_b166
      obtain ⟨cl173, Ar173, qk173, sz173, nn173, hs173, ft173⟩ := V'173
      have hin173 : ¬ ((3 : Int32) < 0 ∨ cl173.slots.size ≤ ((3 : Int32)).toNatClampNeg) := inb_of sz173 ⟨by decide, by decide⟩
      obtain ⟨T174, h174, X174, e174, W174, st174⟩ := stZ X172 hx hZ e172 Ar173 (j := (3 : Int32)) hin173 (g := (mkF m 47 #[iv i0, iv i1, iv 2, rv w_AT_MOST, iv 1, .unset, .unset] [.int 0, .int 3, .ref b166, .ref b166])) rfl rfl (hb hby at_47)
      have V_b166 : Arv Z h174 b166 k166 .boolean (12 : Int32) [(.int (nar .boolean (0 : Int32))), (.int (nar .boolean (1 : Int32))), (.int (nar .boolean (1 : Int32))), (.int (nar .boolean (0 : Int32))), (.int (0 : Int32)), (.int (0 : Int32)), (.int (0 : Int32)), (.int (0 : Int32)), (.int (0 : Int32)), (.int (0 : Int32)), (.int (0 : Int32)), (.int (0 : Int32))] (.int (0 : Int32)) := Arv.set Ar173 qk173 sz173 nn173 hs173 ft173 (fits_nar_bool _) W174 3 rfl (Nat.le_of_ble_eq_true rfl)
      have O := O.wr W174 g_b166
      have N := Fr.snoc X174 N g_b166
      refine gb st174 ?_
      show G T174 (mkF m 48 #[iv i0, iv i1, iv 2, rv w_AT_MOST, iv 1, .unset, .unset] [.ref b166])
      refine gb (fun _ k => XS.dup X174.here hx rfl (hb hby at_48) rfl rfl (XS.iconst X174.here hx rfl (hb hby at_49) (XS.iconst X174.here hx rfl (hb hby at_50) k))) ?_
      show G T174 (mkF m 51 #[iv i0, iv i1, iv 2, rv w_AT_MOST, iv 1, .unset, .unset] [.int 0, .int 4, .ref b166, .ref b166])
      have V'175 := V_b166
      obtain ⟨cl175, Ar175, qk175, sz175, nn175, hs175, ft175⟩ := V'175
      have hin175 : ¬ ((4 : Int32) < 0 ∨ cl175.slots.size ≤ ((4 : Int32)).toNatClampNeg) := inb_of sz175 ⟨by decide, by decide⟩
      obtain ⟨T176, h176, X176, e176, W176, st176⟩ := stZ X174 hx hZ e174 Ar175 (j := (4 : Int32)) hin175 (g := (mkF m 51 #[iv i0, iv i1, iv 2, rv w_AT_MOST, iv 1, .unset, .unset] [.int 0, .int 4, .ref b166, .ref b166])) rfl rfl (hb hby at_51)
      have V_b166 : Arv Z h176 b166 k166 .boolean (12 : Int32) [(.int (nar .boolean (0 : Int32))), (.int (nar .boolean (1 : Int32))), (.int (nar .boolean (1 : Int32))), (.int (nar .boolean (0 : Int32))), (.int (nar .boolean (0 : Int32))), (.int (0 : Int32)), (.int (0 : Int32)), (.int (0 : Int32)), (.int (0 : Int32)), (.int (0 : Int32)), (.int (0 : Int32)), (.int (0 : Int32))] (.int (0 : Int32)) := Arv.set Ar175 qk175 sz175 nn175 hs175 ft175 (fits_nar_bool _) W176 4 rfl (Nat.le_of_ble_eq_true rfl)
      have O := O.wr W176 g_b166
      have N := Fr.snoc X176 N g_b166
      refine gb st176 ?_
      show G T176 (mkF m 52 #[iv i0, iv i1, iv 2, rv w_AT_MOST, iv 1, .unset, .unset] [.ref b166])
      refine gb (fun _ k => XS.dup X176.here hx rfl (hb hby at_52) rfl rfl (XS.iconst X176.here hx rfl (hb hby at_53) (XS.iconst X176.here hx rfl (hb hby at_54) k))) ?_
      show G T176 (mkF m 55 #[iv i0, iv i1, iv 2, rv w_AT_MOST, iv 1, .unset, .unset] [.int 1, .int 5, .ref b166, .ref b166])
      have V'177 := V_b166
      obtain ⟨cl177, Ar177, qk177, sz177, nn177, hs177, ft177⟩ := V'177
      have hin177 : ¬ ((5 : Int32) < 0 ∨ cl177.slots.size ≤ ((5 : Int32)).toNatClampNeg) := inb_of sz177 ⟨by decide, by decide⟩
      obtain ⟨T178, h178, X178, e178, W178, st178⟩ := stZ X176 hx hZ e176 Ar177 (j := (5 : Int32)) hin177 (g := (mkF m 55 #[iv i0, iv i1, iv 2, rv w_AT_MOST, iv 1, .unset, .unset] [.int 1, .int 5, .ref b166, .ref b166])) rfl rfl (hb hby at_55)
      have V_b166 : Arv Z h178 b166 k166 .boolean (12 : Int32) [(.int (nar .boolean (0 : Int32))), (.int (nar .boolean (1 : Int32))), (.int (nar .boolean (1 : Int32))), (.int (nar .boolean (0 : Int32))), (.int (nar .boolean (0 : Int32))), (.int (nar .boolean (1 : Int32))), (.int (0 : Int32)), (.int (0 : Int32)), (.int (0 : Int32)), (.int (0 : Int32)), (.int (0 : Int32)), (.int (0 : Int32))] (.int (0 : Int32)) := Arv.set Ar177 qk177 sz177 nn177 hs177 ft177 (fits_nar_bool _) W178 5 rfl (Nat.le_of_ble_eq_true rfl)
      have O := O.wr W178 g_b166
      have N := Fr.snoc X178 N g_b166
      refine gb st178 ?_
      show G T178 (mkF m 56 #[iv i0, iv i1, iv 2, rv w_AT_MOST, iv 1, .unset, .unset] [.ref b166])
      refine gb (fun _ k => XS.dup X178.here hx rfl (hb hby at_56) rfl rfl (XS.bipush X178.here hx rfl (hb hby at_57) (XS.iconst X178.here hx rfl (hb hby at_59) k))) ?_
      show G T178 (mkF m 60 #[iv i0, iv i1, iv 2, rv w_AT_MOST, iv 1, .unset, .unset] [.int 1, .int 6, .ref b166, .ref b166])
      have V'179 := V_b166
      obtain ⟨cl179, Ar179, qk179, sz179, nn179, hs179, ft179⟩ := V'179
      have hin179 : ¬ ((6 : Int32) < 0 ∨ cl179.slots.size ≤ ((6 : Int32)).toNatClampNeg) := inb_of sz179 ⟨by decide, by decide⟩
      obtain ⟨T180, h180, X180, e180, W180, st180⟩ := stZ X178 hx hZ e178 Ar179 (j := (6 : Int32)) hin179 (g := (mkF m 60 #[iv i0, iv i1, iv 2, rv w_AT_MOST, iv 1, .unset, .unset] [.int 1, .int 6, .ref b166, .ref b166])) rfl rfl (hb hby at_60)
      have V_b166 : Arv Z h180 b166 k166 .boolean (12 : Int32) [(.int (nar .boolean (0 : Int32))), (.int (nar .boolean (1 : Int32))), (.int (nar .boolean (1 : Int32))), (.int (nar .boolean (0 : Int32))), (.int (nar .boolean (0 : Int32))), (.int (nar .boolean (1 : Int32))), (.int (nar .boolean (1 : Int32))), (.int (0 : Int32)), (.int (0 : Int32)), (.int (0 : Int32)), (.int (0 : Int32)), (.int (0 : Int32))] (.int (0 : Int32)) := Arv.set Ar179 qk179 sz179 nn179 hs179 ft179 (fits_nar_bool _) W180 6 rfl (Nat.le_of_ble_eq_true rfl)
      have O := O.wr W180 g_b166
      have N := Fr.snoc X180 N g_b166
      refine gb st180 ?_
      show G T180 (mkF m 61 #[iv i0, iv i1, iv 2, rv w_AT_MOST, iv 1, .unset, .unset] [.ref b166])
      refine gb (fun _ k => XS.dup X180.here hx rfl (hb hby at_61) rfl rfl (XS.bipush X180.here hx rfl (hb hby at_62) (XS.iconst X180.here hx rfl (hb hby at_64) k))) ?_
      show G T180 (mkF m 65 #[iv i0, iv i1, iv 2, rv w_AT_MOST, iv 1, .unset, .unset] [.int 1, .int 7, .ref b166, .ref b166])
      have V'181 := V_b166
      obtain ⟨cl181, Ar181, qk181, sz181, nn181, hs181, ft181⟩ := V'181
      have hin181 : ¬ ((7 : Int32) < 0 ∨ cl181.slots.size ≤ ((7 : Int32)).toNatClampNeg) := inb_of sz181 ⟨by decide, by decide⟩
      obtain ⟨T182, h182, X182, e182, W182, st182⟩ := stZ X180 hx hZ e180 Ar181 (j := (7 : Int32)) hin181 (g := (mkF m 65 #[iv i0, iv i1, iv 2, rv w_AT_MOST, iv 1, .unset, .unset] [.int 1, .int 7, .ref b166, .ref b166])) rfl rfl (hb hby at_65)
      have V_b166 : Arv Z h182 b166 k166 .boolean (12 : Int32) [(.int (nar .boolean (0 : Int32))), (.int (nar .boolean (1 : Int32))), (.int (nar .boolean (1 : Int32))), (.int (nar .boolean (0 : Int32))), (.int (nar .boolean (0 : Int32))), (.int (nar .boolean (1 : Int32))), (.int (nar .boolean (1 : Int32))), (.int (nar .boolean (1 : Int32))), (.int (0 : Int32)), (.int (0 : Int32)), (.int (0 : Int32)), (.int (0 : Int32))] (.int (0 : Int32)) := Arv.set Ar181 qk181 sz181 nn181 hs181 ft181 (fits_nar_bool _) W182 7 rfl (Nat.le_of_ble_eq_true rfl)
      have O := O.wr W182 g_b166
      have N := Fr.snoc X182 N g_b166
      refine gb st182 ?_
      show G T182 (mkF m 66 #[iv i0, iv i1, iv 2, rv w_AT_MOST, iv 1, .unset, .unset] [.ref b166])
      refine gb (fun _ k => XS.dup X182.here hx rfl (hb hby at_66) rfl rfl (XS.bipush X182.here hx rfl (hb hby at_67) (XS.iconst X182.here hx rfl (hb hby at_69) k))) ?_
      show G T182 (mkF m 70 #[iv i0, iv i1, iv 2, rv w_AT_MOST, iv 1, .unset, .unset] [.int 0, .int 8, .ref b166, .ref b166])
      have V'183 := V_b166
      obtain ⟨cl183, Ar183, qk183, sz183, nn183, hs183, ft183⟩ := V'183
      have hin183 : ¬ ((8 : Int32) < 0 ∨ cl183.slots.size ≤ ((8 : Int32)).toNatClampNeg) := inb_of sz183 ⟨by decide, by decide⟩
      obtain ⟨T184, h184, X184, e184, W184, st184⟩ := stZ X182 hx hZ e182 Ar183 (j := (8 : Int32)) hin183 (g := (mkF m 70 #[iv i0, iv i1, iv 2, rv w_AT_MOST, iv 1, .unset, .unset] [.int 0, .int 8, .ref b166, .ref b166])) rfl rfl (hb hby at_70)
      have V_b166 : Arv Z h184 b166 k166 .boolean (12 : Int32) [(.int (nar .boolean (0 : Int32))), (.int (nar .boolean (1 : Int32))), (.int (nar .boolean (1 : Int32))), (.int (nar .boolean (0 : Int32))), (.int (nar .boolean (0 : Int32))), (.int (nar .boolean (1 : Int32))), (.int (nar .boolean (1 : Int32))), (.int (nar .boolean (1 : Int32))), (.int (nar .boolean (0 : Int32))), (.int (0 : Int32)), (.int (0 : Int32)), (.int (0 : Int32))] (.int (0 : Int32)) := Arv.set Ar183 qk183 sz183 nn183 hs183 ft183 (fits_nar_bool _) W184 8 rfl (Nat.le_of_ble_eq_true rfl)
      have O := O.wr W184 g_b166
      have N := Fr.snoc X184 N g_b166
      refine gb st184 ?_
      show G T184 (mkF m 71 #[iv i0, iv i1, iv 2, rv w_AT_MOST, iv 1, .unset, .unset] [.ref b166])
      refine gb (fun _ k => XS.dup X184.here hx rfl (hb hby at_71) rfl rfl (XS.bipush X184.here hx rfl (hb hby at_72) (XS.iconst X184.here hx rfl (hb hby at_74) k))) ?_
      show G T184 (mkF m 75 #[iv i0, iv i1, iv 2, rv w_AT_MOST, iv 1, .unset, .unset] [.int 1, .int 9, .ref b166, .ref b166])
      have V'185 := V_b166
      obtain ⟨cl185, Ar185, qk185, sz185, nn185, hs185, ft185⟩ := V'185
      have hin185 : ¬ ((9 : Int32) < 0 ∨ cl185.slots.size ≤ ((9 : Int32)).toNatClampNeg) := inb_of sz185 ⟨by decide, by decide⟩
      obtain ⟨T186, h186, X186, e186, W186, st186⟩ := stZ X184 hx hZ e184 Ar185 (j := (9 : Int32)) hin185 (g := (mkF m 75 #[iv i0, iv i1, iv 2, rv w_AT_MOST, iv 1, .unset, .unset] [.int 1, .int 9, .ref b166, .ref b166])) rfl rfl (hb hby at_75)
      have V_b166 : Arv Z h186 b166 k166 .boolean (12 : Int32) [(.int (nar .boolean (0 : Int32))), (.int (nar .boolean (1 : Int32))), (.int (nar .boolean (1 : Int32))), (.int (nar .boolean (0 : Int32))), (.int (nar .boolean (0 : Int32))), (.int (nar .boolean (1 : Int32))), (.int (nar .boolean (1 : Int32))), (.int (nar .boolean (1 : Int32))), (.int (nar .boolean (0 : Int32))), (.int (nar .boolean (1 : Int32))), (.int (0 : Int32)), (.int (0 : Int32))] (.int (0 : Int32)) := Arv.set Ar185 qk185 sz185 nn185 hs185 ft185 (fits_nar_bool _) W186 9 rfl (Nat.le_of_ble_eq_true rfl)
      have O := O.wr W186 g_b166
      have N := Fr.snoc X186 N g_b166
      refine gb st186 ?_
      show G T186 (mkF m 76 #[iv i0, iv i1, iv 2, rv w_AT_MOST, iv 1, .unset, .unset] [.ref b166])
      refine gb (fun _ k => XS.dup X186.here hx rfl (hb hby at_76) rfl rfl (XS.bipush X186.here hx rfl (hb hby at_77) (XS.iconst X186.here hx rfl (hb hby at_79) k))) ?_
      show G T186 (mkF m 80 #[iv i0, iv i1, iv 2, rv w_AT_MOST, iv 1, .unset, .unset] [.int 0, .int 10, .ref b166, .ref b166])
      have V'187 := V_b166
      obtain ⟨cl187, Ar187, qk187, sz187, nn187, hs187, ft187⟩ := V'187
      have hin187 : ¬ ((10 : Int32) < 0 ∨ cl187.slots.size ≤ ((10 : Int32)).toNatClampNeg) := inb_of sz187 ⟨by decide, by decide⟩
      obtain ⟨T188, h188, X188, e188, W188, st188⟩ := stZ X186 hx hZ e186 Ar187 (j := (10 : Int32)) hin187 (g := (mkF m 80 #[iv i0, iv i1, iv 2, rv w_AT_MOST, iv 1, .unset, .unset] [.int 0, .int 10, .ref b166, .ref b166])) rfl rfl (hb hby at_80)
      have V_b166 : Arv Z h188 b166 k166 .boolean (12 : Int32) [(.int (nar .boolean (0 : Int32))), (.int (nar .boolean (1 : Int32))), (.int (nar .boolean (1 : Int32))), (.int (nar .boolean (0 : Int32))), (.int (nar .boolean (0 : Int32))), (.int (nar .boolean (1 : Int32))), (.int (nar .boolean (1 : Int32))), (.int (nar .boolean (1 : Int32))), (.int (nar .boolean (0 : Int32))), (.int (nar .boolean (1 : Int32))), (.int (nar .boolean (0 : Int32))), (.int (0 : Int32))] (.int (0 : Int32)) := Arv.set Ar187 qk187 sz187 nn187 hs187 ft187 (fits_nar_bool _) W188 10 rfl (Nat.le_of_ble_eq_true rfl)
      have O := O.wr W188 g_b166
      have N := Fr.snoc X188 N g_b166
      refine gb st188 ?_
      show G T188 (mkF m 81 #[iv i0, iv i1, iv 2, rv w_AT_MOST, iv 1, .unset, .unset] [.ref b166])
      refine gb (fun _ k => XS.dup X188.here hx rfl (hb hby at_81) rfl rfl (XS.bipush X188.here hx rfl (hb hby at_82) (XS.iconst X188.here hx rfl (hb hby at_84) k))) ?_
      show G T188 (mkF m 85 #[iv i0, iv i1, iv 2, rv w_AT_MOST, iv 1, .unset, .unset] [.int 0, .int 11, .ref b166, .ref b166])
      have V'189 := V_b166
      obtain ⟨cl189, Ar189, qk189, sz189, nn189, hs189, ft189⟩ := V'189
      have hin189 : ¬ ((11 : Int32) < 0 ∨ cl189.slots.size ≤ ((11 : Int32)).toNatClampNeg) := inb_of sz189 ⟨by decide, by decide⟩
      obtain ⟨T190, h190, X190, e190, W190, st190⟩ := stZ X188 hx hZ e188 Ar189 (j := (11 : Int32)) hin189 (g := (mkF m 85 #[iv i0, iv i1, iv 2, rv w_AT_MOST, iv 1, .unset, .unset] [.int 0, .int 11, .ref b166, .ref b166])) rfl rfl (hb hby at_85)
      have V_b166 : Arv Z h190 b166 k166 .boolean (12 : Int32) [(.int (nar .boolean (0 : Int32))), (.int (nar .boolean (1 : Int32))), (.int (nar .boolean (1 : Int32))), (.int (nar .boolean (0 : Int32))), (.int (nar .boolean (0 : Int32))), (.int (nar .boolean (1 : Int32))), (.int (nar .boolean (1 : Int32))), (.int (nar .boolean (1 : Int32))), (.int (nar .boolean (0 : Int32))), (.int (nar .boolean (1 : Int32))), (.int (nar .boolean (0 : Int32))), (.int (nar .boolean (0 : Int32)))] (.int (0 : Int32)) := Arv.set Ar189 qk189 sz189 nn189 hs189 ft189 (fits_nar_bool _) W190 11 rfl (Nat.le_of_ble_eq_true rfl)
      have O := O.wr W190 g_b166
      have N := Fr.snoc X190 N g_b166
      refine gb st190 ?_
      show G T190 (mkF m 86 #[iv i0, iv i1, iv 2, rv w_AT_MOST, iv 1, .unset, .unset] [.ref b166])
      refine gb (fun _ k => XS.astore X190.here hx rfl (hb hby at_86) rfl rfl (l' := #[iv i0, iv i1, iv 2, rv w_AT_MOST, iv 1, rv b166, .unset]) rfl (XS.aload X190.here hx rfl (hb hby at_88) rfl rfl (XS.iloadN X190.here hx rfl (hb hby at_90) rfl (XS.iconst X190.here hx rfl (hb hby at_91) (XS.imul X190.here hx rfl (hb hby at_92) rfl (XS.iload X190.here hx rfl (hb hby at_93) rfl k)))))) ?_
      show G T190 (mkF m 95 #[iv i0, iv i1, iv 2, rv w_AT_MOST, iv 1, rv b166, .unset] [.int 1, .int 6, .ref b166])
      refine gb (fun _ k => XS.iadd X190.here hx rfl (hb hby at_95) rfl (XS.iconst X190.here hx rfl (hb hby at_96) (XS.iadd X190.here hx rfl (hb hby at_97) rfl k))) ?_
      show G T190 (mkF m 98 #[iv i0, iv i1, iv 2, rv w_AT_MOST, iv 1, rv b166, .unset] [.int 8, .ref b166])
      have V'191 := V_b166
      obtain ⟨cl191, Ar191, qk191, sz191, nn191, hs191, ft191⟩ := V'191
      have hin191 : ¬ ((8 : Int32) < 0 ∨ cl191.slots.size ≤ ((8 : Int32)).toNatClampNeg) := inb_of sz191 ⟨by decide, by decide⟩
      have hat191 : cl191.slots[((8 : Int32)).toNatClampNeg]? = some (.int (nar .boolean (0 : Int32))) := hs191.at hin191 rfl
      refine gb (X190.baloadBooleans hx (j := (8 : Int32)) (v := (.int (nar .boolean (0 : Int32)))) (by rw [e190]; exact Ar191.1) (State.isArrayOf_alike hZ.alike Ar191.2.1) Ar191.2.2 hin191 hat191 (g := (mkF m 98 #[iv i0, iv i1, iv 2, rv w_AT_MOST, iv 1, rv b166, .unset] [.int 8, .ref b166])) rfl rfl (hb hby at_98)) ?_
      show G T190 (mkF m 99 #[iv i0, iv i1, iv 2, rv w_AT_MOST, iv 1, rv b166, .unset] [.int (nar .boolean (0 : Int32))])
      refine gb (fun _ k => XS.istore X190.here hx rfl (hb hby at_99) rfl (l' := #[iv i0, iv i1, iv 2, rv w_AT_MOST, iv 1, rv b166, iv (nar .boolean (0 : Int32))]) rfl (XS.aloadN X190.here hx rfl (hb hby at_101) rfl rfl (XS.iloadN X190.here hx rfl (hb hby at_102) rfl k))) ?_
      show G T190 (mkF m 103 #[iv i0, iv i1, iv 2, rv w_AT_MOST, iv 1, rv b166, iv (nar .boolean (0 : Int32))] [.int i1, .ref w_AT_MOST])
      obtain ⟨cq192, kq192, q192a, q192b, q192c⟩ := isOf hZ e190 (E_AT_MOST.ext O.2)
      obtain ⟨_, _, ⟨T192, L192, k192, n192⟩, -, X192, ⟨Lc192, hQ192, l192, y192, z192⟩, st192⟩ := X190.virtualBack hx (y := (⟨"com/example/wrought_gate/wroughtgate/engine/Comparison", "admits", "(I)Z"⟩ : MethodName)) (z := (⟨"com/example/wrought_gate/wroughtgate/engine/Comparison", "admits", "(I)Z"⟩ : MethodName)) hown (mvT hZ (ow hw 8 rfl)) (mvT hZ (ow hw 9 rfl)) (notFace_of_selects (args := #[]) (mvT hZ (ow hw 11 rfl))) (mvT hZ (ow hw 11 rfl)) (mvT hZ (ow hw 10 rfl)) (by decide) (backOf (W := 0) (rm2_2 l Z a0 hw [] w_AT_MOST i1 h190 n0 O (E_AT_MOST.ext O.2) (F_ordinal_AT_MOST.ext O.2)) hZ (ow hw 12 rfl) (ow hw 5 rfl) (by decide) (by decide)) q192a q192c (g := (mkF m 103 #[iv i0, iv i1, iv 2, rv w_AT_MOST, iv 1, rv b166, iv (nar .boolean (0 : Int32))] [.int i1, .ref w_AT_MOST])) rfl (by rw [hml]; rfl) (Steps.refl _) (argsL := [(.int i1)]) (rest := []) (lenOf pd_2 rfl) rfl (by show 2 * 0 + _ ≤ _; exact Nat.le_of_eq rfl) (hb hby at_103) (fun _ _ => ⟨rfl, e190, (by decide : 1 + 0 ≤ _), (by decide : 12 + 0 ≤ _)⟩)
      dsimp only [Pt.U, Pt.locs, Pt.cells, Pt.slots] at X192 l192 y192 z192 st192 hQ192
      subst l192 y192 z192
      obtain ⟨rfl, rfl, e192⟩ := hQ192
      try rw [List.append_nil] at X192
      refine gb (fun _ k => st192.trans k) ?_
      show G T192 (mkF m 106 #[iv i0, iv i1, iv 2, rv w_AT_MOST, iv 1, rv b166, iv (nar .boolean (0 : Int32))] [.int (if ¬ ((0 : Int32) < i1) then (1 : Int32) else (0 : Int32))])
      refine gb (fun _ k => XS.iload X192.here hx rfl (hb hby at_106) rfl (XS.icmpNo X192.here hx rfl (hb hby at_108) rfl (teq (show (if ¬ ((0 : Int32) < i1) then (1 : Int32) else (0 : Int32)) = (nar .boolean (0 : Int32)) by simp only [hA, hB, not_true_eq_false, not_false_eq_true, if_true, if_false]; rfl)).2 (XS.iconst X192.here hx rfl (hb hby at_111) (XS.goto X192.here hx rfl (pc0 := 112) (pc' := 116) rfl (hb hby at_112) (by decide) (by decide) k)))) ?_
      show G T192 (mkF m 116 #[iv i0, iv i1, iv 2, rv w_AT_MOST, iv 1, rv b166, iv (nar .boolean (0 : Int32))] [.int 1])
      exact go X192 (v := (some (.int (1 : Int32)))) (fun h => by rw [Bd.returns] at h; cases h) (fun fs hr => retOut X192 hx Bd.returns rfl (Or.inl ⟨rfl, by simp, _, rfl⟩) (hb hby at_116) hr) (⟨rfl, N⟩) (by decide) (by decide)
    · skip
      refine gb (fun _ k => XS.ifYes X165.here hx rfl (pc0 := 10) (pc' := 17) rfl (hb hby at_10) rfl ((if0 _ _).trans (flt hc10).2.2.2) (by decide) (by decide) (XS.iloadN X165.here hx rfl (hb hby at_17) rfl k)) ?_
      show G T165 (mkF m 18 #[iv i0, iv i1, iv 2, rv w_AT_MOST, .unset, .unset, .unset] [.int i1])
      by_cases hc18 : i1 < (0 : Int32)
      · skip
        refine gb (fun _ k => XS.ifNo X165.here hx rfl (hb hby at_18) rfl ((if0 _ _).trans (tlt hc18).2.1) (XS.iconst X165.here hx rfl (hb hby at_21) (XS.goto X165.here hx rfl (pc0 := 22) (pc' := 26) rfl (hb hby at_22) (by decide) (by decide) k))) ?_
        show G T165 (mkF m 26 #[iv i0, iv i1, iv 2, rv w_AT_MOST, .unset, .unset, .unset] [.int (-1)])
        have hA : i1 < (0 : Int32) := hc18
        have hB : ¬ ((0 : Int32) < i1) := own_asym hA
        refine gb (fun _ k => XS.istore X165.here hx rfl (hb hby at_26) rfl (l' := #[iv i0, iv i1, iv 2, rv w_AT_MOST, iv (-1), .unset, .unset]) rfl (XS.bipush X165.here hx rfl (hb hby at_28) k)) ?_
        show G T165 (mkF m 30 #[iv i0, iv i1, iv 2, rv w_AT_MOST, iv (-1), .unset, .unset] [.int 12])
        obtain ⟨T193, h193, k193, X193, e193, E193, A193, st193⟩ := newP X165 hx hZ (ow hw 7 rfl) e165 (g := (mkF m 30 #[iv i0, iv i1, iv 2, rv w_AT_MOST, iv (-1), .unset, .unset] [.int 12])) rfl (hb hby at_30) rfl (by decide) (cap := 12) (by decide) (by decide) (by decide) (by decide)
        obtain ⟨b193, g193⟩ : ∃ z, z = h0.size := ⟨_, rfl⟩
        rw [← g193] at A193 st193
        have g_b193 : n0 ≤ b193 := Nat.le_trans (by have := O.2.1; rw [O.1] at this; exact this) (Nat.le_of_eq g193.symm)
        have O := O.ext E193
        have V_b193 : Arv Z h193 b193 k193 .boolean (12 : Int32) [(.int (0 : Int32)), (.int (0 : Int32)), (.int (0 : Int32)), (.int (0 : Int32)), (.int (0 : Int32)), (.int (0 : Int32)), (.int (0 : Int32)), (.int (0 : Int32)), (.int (0 : Int32)), (.int (0 : Int32)), (.int (0 : Int32)), (.int (0 : Int32))] (.int (0 : Int32)) := (Arv.new A193 (by decide)).pad (pad_rep [] (.int (0 : Int32)) 12)
        refine gb st193 ?_
        show G T193 (mkF m 32 #[iv i0, iv i1, iv 2, rv w_AT_MOST, iv (-1), .unset, .unset] [.ref b193])
        refine gb (fun _ k => XS.dup X193.here hx rfl (hb hby at_32) rfl rfl (XS.iconst X193.here hx rfl (hb hby at_33) (XS.iconst X193.here hx rfl (hb hby at_34) k))) ?_
        show G T193 (mkF m 35 #[iv i0, iv i1, iv 2, rv w_AT_MOST, iv (-1), .unset, .unset] [.int 0, .int 0, .ref b193, .ref b193])
        have V'194 := V_b193
        obtain ⟨cl194, Ar194, qk194, sz194, nn194, hs194, ft194⟩ := V'194
        have hin194 : ¬ ((0 : Int32) < 0 ∨ cl194.slots.size ≤ ((0 : Int32)).toNatClampNeg) := inb_of sz194 ⟨by decide, by decide⟩
        obtain ⟨T195, h195, X195, e195, W195, st195⟩ := stZ X193 hx hZ e193 Ar194 (j := (0 : Int32)) hin194 (g := (mkF m 35 #[iv i0, iv i1, iv 2, rv w_AT_MOST, iv (-1), .unset, .unset] [.int 0, .int 0, .ref b193, .ref b193])) rfl rfl (hb hby at_35)
        have V_b193 : Arv Z h195 b193 k193 .boolean (12 : Int32) [(.int (nar .boolean (0 : Int32))), (.int (0 : Int32)), (.int (0 : Int32)), (.int (0 : Int32)), (.int (0 : Int32)), (.int (0 : Int32)), (.int (0 : Int32)), (.int (0 : Int32)), (.int (0 : Int32)), (.int (0 : Int32)), (.int (0 : Int32)), (.int (0 : Int32))] (.int (0 : Int32)) := Arv.set Ar194 qk194 sz194 nn194 hs194 ft194 (fits_nar_bool _) W195 0 rfl (Nat.le_of_ble_eq_true rfl)
        have O := O.wr W195 g_b193
        have N := Fr.snoc X195 N g_b193
        refine gb st195 ?_
        show G T195 (mkF m 36 #[iv i0, iv i1, iv 2, rv w_AT_MOST, iv (-1), .unset, .unset] [.ref b193])
        refine gb (fun _ k => XS.dup X195.here hx rfl (hb hby at_36) rfl rfl (XS.iconst X195.here hx rfl (hb hby at_37) (XS.iconst X195.here hx rfl (hb hby at_38) k))) ?_
        show G T195 (mkF m 39 #[iv i0, iv i1, iv 2, rv w_AT_MOST, iv (-1), .unset, .unset] [.int 1, .int 1, .ref b193, .ref b193])
        have V'196 := V_b193
        obtain ⟨cl196, Ar196, qk196, sz196, nn196, hs196, ft196⟩ := V'196
        have hin196 : ¬ ((1 : Int32) < 0 ∨ cl196.slots.size ≤ ((1 : Int32)).toNatClampNeg) := inb_of sz196 ⟨by decide, by decide⟩
        obtain ⟨T197, h197, X197, e197, W197, st197⟩ := stZ X195 hx hZ e195 Ar196 (j := (1 : Int32)) hin196 (g := (mkF m 39 #[iv i0, iv i1, iv 2, rv w_AT_MOST, iv (-1), .unset, .unset] [.int 1, .int 1, .ref b193, .ref b193])) rfl rfl (hb hby at_39)
        have V_b193 : Arv Z h197 b193 k193 .boolean (12 : Int32) [(.int (nar .boolean (0 : Int32))), (.int (nar .boolean (1 : Int32))), (.int (0 : Int32)), (.int (0 : Int32)), (.int (0 : Int32)), (.int (0 : Int32)), (.int (0 : Int32)), (.int (0 : Int32)), (.int (0 : Int32)), (.int (0 : Int32)), (.int (0 : Int32)), (.int (0 : Int32))] (.int (0 : Int32)) := Arv.set Ar196 qk196 sz196 nn196 hs196 ft196 (fits_nar_bool _) W197 1 rfl (Nat.le_of_ble_eq_true rfl)
        have O := O.wr W197 g_b193
        have N := Fr.snoc X197 N g_b193
        refine gb st197 ?_
        show G T197 (mkF m 40 #[iv i0, iv i1, iv 2, rv w_AT_MOST, iv (-1), .unset, .unset] [.ref b193])
        refine gb (fun _ k => XS.dup X197.here hx rfl (hb hby at_40) rfl rfl (XS.iconst X197.here hx rfl (hb hby at_41) (XS.iconst X197.here hx rfl (hb hby at_42) k))) ?_
        show G T197 (mkF m 43 #[iv i0, iv i1, iv 2, rv w_AT_MOST, iv (-1), .unset, .unset] [.int 1, .int 2, .ref b193, .ref b193])
        have V'198 := V_b193
        obtain ⟨cl198, Ar198, qk198, sz198, nn198, hs198, ft198⟩ := V'198
        have hin198 : ¬ ((2 : Int32) < 0 ∨ cl198.slots.size ≤ ((2 : Int32)).toNatClampNeg) := inb_of sz198 ⟨by decide, by decide⟩
        obtain ⟨T199, h199, X199, e199, W199, st199⟩ := stZ X197 hx hZ e197 Ar198 (j := (2 : Int32)) hin198 (g := (mkF m 43 #[iv i0, iv i1, iv 2, rv w_AT_MOST, iv (-1), .unset, .unset] [.int 1, .int 2, .ref b193, .ref b193])) rfl rfl (hb hby at_43)
        have V_b193 : Arv Z h199 b193 k193 .boolean (12 : Int32) [(.int (nar .boolean (0 : Int32))), (.int (nar .boolean (1 : Int32))), (.int (nar .boolean (1 : Int32))), (.int (0 : Int32)), (.int (0 : Int32)), (.int (0 : Int32)), (.int (0 : Int32)), (.int (0 : Int32)), (.int (0 : Int32)), (.int (0 : Int32)), (.int (0 : Int32)), (.int (0 : Int32))] (.int (0 : Int32)) := Arv.set Ar198 qk198 sz198 nn198 hs198 ft198 (fits_nar_bool _) W199 2 rfl (Nat.le_of_ble_eq_true rfl)
        have O := O.wr W199 g_b193
        have N := Fr.snoc X199 N g_b193
        refine gb st199 ?_
        show G T199 (mkF m 44 #[iv i0, iv i1, iv 2, rv w_AT_MOST, iv (-1), .unset, .unset] [.ref b193])
        refine gb (fun _ k => XS.dup X199.here hx rfl (hb hby at_44) rfl rfl (XS.iconst X199.here hx rfl (hb hby at_45) (XS.iconst X199.here hx rfl (hb hby at_46) k))) ?_
        show G T199 (mkF m 47 #[iv i0, iv i1, iv 2, rv w_AT_MOST, iv (-1), .unset, .unset] [.int 0, .int 3, .ref b193, .ref b193])
        have V'200 := V_b193
        obtain ⟨cl200, Ar200, qk200, sz200, nn200, hs200, ft200⟩ := V'200
        have hin200 : ¬ ((3 : Int32) < 0 ∨ cl200.slots.size ≤ ((3 : Int32)).toNatClampNeg) := inb_of sz200 ⟨by decide, by decide⟩
        obtain ⟨T201, h201, X201, e201, W201, st201⟩ := stZ X199 hx hZ e199 Ar200 (j := (3 : Int32)) hin200 (g := (mkF m 47 #[iv i0, iv i1, iv 2, rv w_AT_MOST, iv (-1), .unset, .unset] [.int 0, .int 3, .ref b193, .ref b193])) rfl rfl (hb hby at_47)
        have V_b193 : Arv Z h201 b193 k193 .boolean (12 : Int32) [(.int (nar .boolean (0 : Int32))), (.int (nar .boolean (1 : Int32))), (.int (nar .boolean (1 : Int32))), (.int (nar .boolean (0 : Int32))), (.int (0 : Int32)), (.int (0 : Int32)), (.int (0 : Int32)), (.int (0 : Int32)), (.int (0 : Int32)), (.int (0 : Int32)), (.int (0 : Int32)), (.int (0 : Int32))] (.int (0 : Int32)) := Arv.set Ar200 qk200 sz200 nn200 hs200 ft200 (fits_nar_bool _) W201 3 rfl (Nat.le_of_ble_eq_true rfl)
        have O := O.wr W201 g_b193
        have N := Fr.snoc X201 N g_b193
        refine gb st201 ?_
        show G T201 (mkF m 48 #[iv i0, iv i1, iv 2, rv w_AT_MOST, iv (-1), .unset, .unset] [.ref b193])
        refine gb (fun _ k => XS.dup X201.here hx rfl (hb hby at_48) rfl rfl (XS.iconst X201.here hx rfl (hb hby at_49) (XS.iconst X201.here hx rfl (hb hby at_50) k))) ?_
        show G T201 (mkF m 51 #[iv i0, iv i1, iv 2, rv w_AT_MOST, iv (-1), .unset, .unset] [.int 0, .int 4, .ref b193, .ref b193])
        have V'202 := V_b193
        obtain ⟨cl202, Ar202, qk202, sz202, nn202, hs202, ft202⟩ := V'202
        have hin202 : ¬ ((4 : Int32) < 0 ∨ cl202.slots.size ≤ ((4 : Int32)).toNatClampNeg) := inb_of sz202 ⟨by decide, by decide⟩
        obtain ⟨T203, h203, X203, e203, W203, st203⟩ := stZ X201 hx hZ e201 Ar202 (j := (4 : Int32)) hin202 (g := (mkF m 51 #[iv i0, iv i1, iv 2, rv w_AT_MOST, iv (-1), .unset, .unset] [.int 0, .int 4, .ref b193, .ref b193])) rfl rfl (hb hby at_51)
        have V_b193 : Arv Z h203 b193 k193 .boolean (12 : Int32) [(.int (nar .boolean (0 : Int32))), (.int (nar .boolean (1 : Int32))), (.int (nar .boolean (1 : Int32))), (.int (nar .boolean (0 : Int32))), (.int (nar .boolean (0 : Int32))), (.int (0 : Int32)), (.int (0 : Int32)), (.int (0 : Int32)), (.int (0 : Int32)), (.int (0 : Int32)), (.int (0 : Int32)), (.int (0 : Int32))] (.int (0 : Int32)) := Arv.set Ar202 qk202 sz202 nn202 hs202 ft202 (fits_nar_bool _) W203 4 rfl (Nat.le_of_ble_eq_true rfl)
        have O := O.wr W203 g_b193
        have N := Fr.snoc X203 N g_b193
        refine gb st203 ?_
        show G T203 (mkF m 52 #[iv i0, iv i1, iv 2, rv w_AT_MOST, iv (-1), .unset, .unset] [.ref b193])
        refine gb (fun _ k => XS.dup X203.here hx rfl (hb hby at_52) rfl rfl (XS.iconst X203.here hx rfl (hb hby at_53) (XS.iconst X203.here hx rfl (hb hby at_54) k))) ?_
        show G T203 (mkF m 55 #[iv i0, iv i1, iv 2, rv w_AT_MOST, iv (-1), .unset, .unset] [.int 1, .int 5, .ref b193, .ref b193])
        have V'204 := V_b193
        obtain ⟨cl204, Ar204, qk204, sz204, nn204, hs204, ft204⟩ := V'204
        have hin204 : ¬ ((5 : Int32) < 0 ∨ cl204.slots.size ≤ ((5 : Int32)).toNatClampNeg) := inb_of sz204 ⟨by decide, by decide⟩
        obtain ⟨T205, h205, X205, e205, W205, st205⟩ := stZ X203 hx hZ e203 Ar204 (j := (5 : Int32)) hin204 (g := (mkF m 55 #[iv i0, iv i1, iv 2, rv w_AT_MOST, iv (-1), .unset, .unset] [.int 1, .int 5, .ref b193, .ref b193])) rfl rfl (hb hby at_55)
        have V_b193 : Arv Z h205 b193 k193 .boolean (12 : Int32) [(.int (nar .boolean (0 : Int32))), (.int (nar .boolean (1 : Int32))), (.int (nar .boolean (1 : Int32))), (.int (nar .boolean (0 : Int32))), (.int (nar .boolean (0 : Int32))), (.int (nar .boolean (1 : Int32))), (.int (0 : Int32)), (.int (0 : Int32)), (.int (0 : Int32)), (.int (0 : Int32)), (.int (0 : Int32)), (.int (0 : Int32))] (.int (0 : Int32)) := Arv.set Ar204 qk204 sz204 nn204 hs204 ft204 (fits_nar_bool _) W205 5 rfl (Nat.le_of_ble_eq_true rfl)
        have O := O.wr W205 g_b193
        have N := Fr.snoc X205 N g_b193
        refine gb st205 ?_
        show G T205 (mkF m 56 #[iv i0, iv i1, iv 2, rv w_AT_MOST, iv (-1), .unset, .unset] [.ref b193])
        refine gb (fun _ k => XS.dup X205.here hx rfl (hb hby at_56) rfl rfl (XS.bipush X205.here hx rfl (hb hby at_57) (XS.iconst X205.here hx rfl (hb hby at_59) k))) ?_
        show G T205 (mkF m 60 #[iv i0, iv i1, iv 2, rv w_AT_MOST, iv (-1), .unset, .unset] [.int 1, .int 6, .ref b193, .ref b193])
        have V'206 := V_b193
        obtain ⟨cl206, Ar206, qk206, sz206, nn206, hs206, ft206⟩ := V'206
        have hin206 : ¬ ((6 : Int32) < 0 ∨ cl206.slots.size ≤ ((6 : Int32)).toNatClampNeg) := inb_of sz206 ⟨by decide, by decide⟩
        obtain ⟨T207, h207, X207, e207, W207, st207⟩ := stZ X205 hx hZ e205 Ar206 (j := (6 : Int32)) hin206 (g := (mkF m 60 #[iv i0, iv i1, iv 2, rv w_AT_MOST, iv (-1), .unset, .unset] [.int 1, .int 6, .ref b193, .ref b193])) rfl rfl (hb hby at_60)
        have V_b193 : Arv Z h207 b193 k193 .boolean (12 : Int32) [(.int (nar .boolean (0 : Int32))), (.int (nar .boolean (1 : Int32))), (.int (nar .boolean (1 : Int32))), (.int (nar .boolean (0 : Int32))), (.int (nar .boolean (0 : Int32))), (.int (nar .boolean (1 : Int32))), (.int (nar .boolean (1 : Int32))), (.int (0 : Int32)), (.int (0 : Int32)), (.int (0 : Int32)), (.int (0 : Int32)), (.int (0 : Int32))] (.int (0 : Int32)) := Arv.set Ar206 qk206 sz206 nn206 hs206 ft206 (fits_nar_bool _) W207 6 rfl (Nat.le_of_ble_eq_true rfl)
        have O := O.wr W207 g_b193
        have N := Fr.snoc X207 N g_b193
        refine gb st207 ?_
        show G T207 (mkF m 61 #[iv i0, iv i1, iv 2, rv w_AT_MOST, iv (-1), .unset, .unset] [.ref b193])
        refine gb (fun _ k => XS.dup X207.here hx rfl (hb hby at_61) rfl rfl (XS.bipush X207.here hx rfl (hb hby at_62) (XS.iconst X207.here hx rfl (hb hby at_64) k))) ?_
        show G T207 (mkF m 65 #[iv i0, iv i1, iv 2, rv w_AT_MOST, iv (-1), .unset, .unset] [.int 1, .int 7, .ref b193, .ref b193])
        have V'208 := V_b193
        obtain ⟨cl208, Ar208, qk208, sz208, nn208, hs208, ft208⟩ := V'208
        have hin208 : ¬ ((7 : Int32) < 0 ∨ cl208.slots.size ≤ ((7 : Int32)).toNatClampNeg) := inb_of sz208 ⟨by decide, by decide⟩
        obtain ⟨T209, h209, X209, e209, W209, st209⟩ := stZ X207 hx hZ e207 Ar208 (j := (7 : Int32)) hin208 (g := (mkF m 65 #[iv i0, iv i1, iv 2, rv w_AT_MOST, iv (-1), .unset, .unset] [.int 1, .int 7, .ref b193, .ref b193])) rfl rfl (hb hby at_65)
        have V_b193 : Arv Z h209 b193 k193 .boolean (12 : Int32) [(.int (nar .boolean (0 : Int32))), (.int (nar .boolean (1 : Int32))), (.int (nar .boolean (1 : Int32))), (.int (nar .boolean (0 : Int32))), (.int (nar .boolean (0 : Int32))), (.int (nar .boolean (1 : Int32))), (.int (nar .boolean (1 : Int32))), (.int (nar .boolean (1 : Int32))), (.int (0 : Int32)), (.int (0 : Int32)), (.int (0 : Int32)), (.int (0 : Int32))] (.int (0 : Int32)) := Arv.set Ar208 qk208 sz208 nn208 hs208 ft208 (fits_nar_bool _) W209 7 rfl (Nat.le_of_ble_eq_true rfl)
        have O := O.wr W209 g_b193
        have N := Fr.snoc X209 N g_b193
        refine gb st209 ?_
        show G T209 (mkF m 66 #[iv i0, iv i1, iv 2, rv w_AT_MOST, iv (-1), .unset, .unset] [.ref b193])
        refine gb (fun _ k => XS.dup X209.here hx rfl (hb hby at_66) rfl rfl (XS.bipush X209.here hx rfl (hb hby at_67) (XS.iconst X209.here hx rfl (hb hby at_69) k))) ?_
        show G T209 (mkF m 70 #[iv i0, iv i1, iv 2, rv w_AT_MOST, iv (-1), .unset, .unset] [.int 0, .int 8, .ref b193, .ref b193])
        have V'210 := V_b193
        obtain ⟨cl210, Ar210, qk210, sz210, nn210, hs210, ft210⟩ := V'210
        have hin210 : ¬ ((8 : Int32) < 0 ∨ cl210.slots.size ≤ ((8 : Int32)).toNatClampNeg) := inb_of sz210 ⟨by decide, by decide⟩
        obtain ⟨T211, h211, X211, e211, W211, st211⟩ := stZ X209 hx hZ e209 Ar210 (j := (8 : Int32)) hin210 (g := (mkF m 70 #[iv i0, iv i1, iv 2, rv w_AT_MOST, iv (-1), .unset, .unset] [.int 0, .int 8, .ref b193, .ref b193])) rfl rfl (hb hby at_70)
        have V_b193 : Arv Z h211 b193 k193 .boolean (12 : Int32) [(.int (nar .boolean (0 : Int32))), (.int (nar .boolean (1 : Int32))), (.int (nar .boolean (1 : Int32))), (.int (nar .boolean (0 : Int32))), (.int (nar .boolean (0 : Int32))), (.int (nar .boolean (1 : Int32))), (.int (nar .boolean (1 : Int32))), (.int (nar .boolean (1 : Int32))), (.int (nar .boolean (0 : Int32))), (.int (0 : Int32)), (.int (0 : Int32)), (.int (0 : Int32))] (.int (0 : Int32)) := Arv.set Ar210 qk210 sz210 nn210 hs210 ft210 (fits_nar_bool _) W211 8 rfl (Nat.le_of_ble_eq_true rfl)
        have O := O.wr W211 g_b193
        have N := Fr.snoc X211 N g_b193
        refine gb st211 ?_
        show G T211 (mkF m 71 #[iv i0, iv i1, iv 2, rv w_AT_MOST, iv (-1), .unset, .unset] [.ref b193])
        refine gb (fun _ k => XS.dup X211.here hx rfl (hb hby at_71) rfl rfl (XS.bipush X211.here hx rfl (hb hby at_72) (XS.iconst X211.here hx rfl (hb hby at_74) k))) ?_
        show G T211 (mkF m 75 #[iv i0, iv i1, iv 2, rv w_AT_MOST, iv (-1), .unset, .unset] [.int 1, .int 9, .ref b193, .ref b193])
        have V'212 := V_b193
        obtain ⟨cl212, Ar212, qk212, sz212, nn212, hs212, ft212⟩ := V'212
        have hin212 : ¬ ((9 : Int32) < 0 ∨ cl212.slots.size ≤ ((9 : Int32)).toNatClampNeg) := inb_of sz212 ⟨by decide, by decide⟩
        obtain ⟨T213, h213, X213, e213, W213, st213⟩ := stZ X211 hx hZ e211 Ar212 (j := (9 : Int32)) hin212 (g := (mkF m 75 #[iv i0, iv i1, iv 2, rv w_AT_MOST, iv (-1), .unset, .unset] [.int 1, .int 9, .ref b193, .ref b193])) rfl rfl (hb hby at_75)
        have V_b193 : Arv Z h213 b193 k193 .boolean (12 : Int32) [(.int (nar .boolean (0 : Int32))), (.int (nar .boolean (1 : Int32))), (.int (nar .boolean (1 : Int32))), (.int (nar .boolean (0 : Int32))), (.int (nar .boolean (0 : Int32))), (.int (nar .boolean (1 : Int32))), (.int (nar .boolean (1 : Int32))), (.int (nar .boolean (1 : Int32))), (.int (nar .boolean (0 : Int32))), (.int (nar .boolean (1 : Int32))), (.int (0 : Int32)), (.int (0 : Int32))] (.int (0 : Int32)) := Arv.set Ar212 qk212 sz212 nn212 hs212 ft212 (fits_nar_bool _) W213 9 rfl (Nat.le_of_ble_eq_true rfl)
        have O := O.wr W213 g_b193
        have N := Fr.snoc X213 N g_b193
        refine gb st213 ?_
        show G T213 (mkF m 76 #[iv i0, iv i1, iv 2, rv w_AT_MOST, iv (-1), .unset, .unset] [.ref b193])
        refine gb (fun _ k => XS.dup X213.here hx rfl (hb hby at_76) rfl rfl (XS.bipush X213.here hx rfl (hb hby at_77) (XS.iconst X213.here hx rfl (hb hby at_79) k))) ?_
        show G T213 (mkF m 80 #[iv i0, iv i1, iv 2, rv w_AT_MOST, iv (-1), .unset, .unset] [.int 0, .int 10, .ref b193, .ref b193])
        have V'214 := V_b193
        obtain ⟨cl214, Ar214, qk214, sz214, nn214, hs214, ft214⟩ := V'214
        have hin214 : ¬ ((10 : Int32) < 0 ∨ cl214.slots.size ≤ ((10 : Int32)).toNatClampNeg) := inb_of sz214 ⟨by decide, by decide⟩
        obtain ⟨T215, h215, X215, e215, W215, st215⟩ := stZ X213 hx hZ e213 Ar214 (j := (10 : Int32)) hin214 (g := (mkF m 80 #[iv i0, iv i1, iv 2, rv w_AT_MOST, iv (-1), .unset, .unset] [.int 0, .int 10, .ref b193, .ref b193])) rfl rfl (hb hby at_80)
        have V_b193 : Arv Z h215 b193 k193 .boolean (12 : Int32) [(.int (nar .boolean (0 : Int32))), (.int (nar .boolean (1 : Int32))), (.int (nar .boolean (1 : Int32))), (.int (nar .boolean (0 : Int32))), (.int (nar .boolean (0 : Int32))), (.int (nar .boolean (1 : Int32))), (.int (nar .boolean (1 : Int32))), (.int (nar .boolean (1 : Int32))), (.int (nar .boolean (0 : Int32))), (.int (nar .boolean (1 : Int32))), (.int (nar .boolean (0 : Int32))), (.int (0 : Int32))] (.int (0 : Int32)) := Arv.set Ar214 qk214 sz214 nn214 hs214 ft214 (fits_nar_bool _) W215 10 rfl (Nat.le_of_ble_eq_true rfl)
        have O := O.wr W215 g_b193
        have N := Fr.snoc X215 N g_b193
        refine gb st215 ?_
        show G T215 (mkF m 81 #[iv i0, iv i1, iv 2, rv w_AT_MOST, iv (-1), .unset, .unset] [.ref b193])
        refine gb (fun _ k => XS.dup X215.here hx rfl (hb hby at_81) rfl rfl (XS.bipush X215.here hx rfl (hb hby at_82) (XS.iconst X215.here hx rfl (hb hby at_84) k))) ?_
        show G T215 (mkF m 85 #[iv i0, iv i1, iv 2, rv w_AT_MOST, iv (-1), .unset, .unset] [.int 0, .int 11, .ref b193, .ref b193])
        have V'216 := V_b193
        obtain ⟨cl216, Ar216, qk216, sz216, nn216, hs216, ft216⟩ := V'216
        have hin216 : ¬ ((11 : Int32) < 0 ∨ cl216.slots.size ≤ ((11 : Int32)).toNatClampNeg) := inb_of sz216 ⟨by decide, by decide⟩
        obtain ⟨T217, h217, X217, e217, W217, st217⟩ := stZ X215 hx hZ e215 Ar216 (j := (11 : Int32)) hin216 (g := (mkF m 85 #[iv i0, iv i1, iv 2, rv w_AT_MOST, iv (-1), .unset, .unset] [.int 0, .int 11, .ref b193, .ref b193])) rfl rfl (hb hby at_85)
        have V_b193 : Arv Z h217 b193 k193 .boolean (12 : Int32) [(.int (nar .boolean (0 : Int32))), (.int (nar .boolean (1 : Int32))), (.int (nar .boolean (1 : Int32))), (.int (nar .boolean (0 : Int32))), (.int (nar .boolean (0 : Int32))), (.int (nar .boolean (1 : Int32))), (.int (nar .boolean (1 : Int32))), (.int (nar .boolean (1 : Int32))), (.int (nar .boolean (0 : Int32))), (.int (nar .boolean (1 : Int32))), (.int (nar .boolean (0 : Int32))), (.int (nar .boolean (0 : Int32)))] (.int (0 : Int32)) := Arv.set Ar216 qk216 sz216 nn216 hs216 ft216 (fits_nar_bool _) W217 11 rfl (Nat.le_of_ble_eq_true rfl)
        have O := O.wr W217 g_b193
        have N := Fr.snoc X217 N g_b193
        refine gb st217 ?_
        show G T217 (mkF m 86 #[iv i0, iv i1, iv 2, rv w_AT_MOST, iv (-1), .unset, .unset] [.ref b193])
        refine gb (fun _ k => XS.astore X217.here hx rfl (hb hby at_86) rfl rfl (l' := #[iv i0, iv i1, iv 2, rv w_AT_MOST, iv (-1), rv b193, .unset]) rfl (XS.aload X217.here hx rfl (hb hby at_88) rfl rfl (XS.iloadN X217.here hx rfl (hb hby at_90) rfl (XS.iconst X217.here hx rfl (hb hby at_91) (XS.imul X217.here hx rfl (hb hby at_92) rfl (XS.iload X217.here hx rfl (hb hby at_93) rfl k)))))) ?_
        show G T217 (mkF m 95 #[iv i0, iv i1, iv 2, rv w_AT_MOST, iv (-1), rv b193, .unset] [.int (-1), .int 6, .ref b193])
        refine gb (fun _ k => XS.iadd X217.here hx rfl (hb hby at_95) rfl (XS.iconst X217.here hx rfl (hb hby at_96) (XS.iadd X217.here hx rfl (hb hby at_97) rfl k))) ?_
        show G T217 (mkF m 98 #[iv i0, iv i1, iv 2, rv w_AT_MOST, iv (-1), rv b193, .unset] [.int 6, .ref b193])
        have V'218 := V_b193
        obtain ⟨cl218, Ar218, qk218, sz218, nn218, hs218, ft218⟩ := V'218
        have hin218 : ¬ ((6 : Int32) < 0 ∨ cl218.slots.size ≤ ((6 : Int32)).toNatClampNeg) := inb_of sz218 ⟨by decide, by decide⟩
        have hat218 : cl218.slots[((6 : Int32)).toNatClampNeg]? = some (.int (nar .boolean (1 : Int32))) := hs218.at hin218 rfl
        refine gb (X217.baloadBooleans hx (j := (6 : Int32)) (v := (.int (nar .boolean (1 : Int32)))) (by rw [e217]; exact Ar218.1) (State.isArrayOf_alike hZ.alike Ar218.2.1) Ar218.2.2 hin218 hat218 (g := (mkF m 98 #[iv i0, iv i1, iv 2, rv w_AT_MOST, iv (-1), rv b193, .unset] [.int 6, .ref b193])) rfl rfl (hb hby at_98)) ?_
        show G T217 (mkF m 99 #[iv i0, iv i1, iv 2, rv w_AT_MOST, iv (-1), rv b193, .unset] [.int (nar .boolean (1 : Int32))])
        refine gb (fun _ k => XS.istore X217.here hx rfl (hb hby at_99) rfl (l' := #[iv i0, iv i1, iv 2, rv w_AT_MOST, iv (-1), rv b193, iv (nar .boolean (1 : Int32))]) rfl (XS.aloadN X217.here hx rfl (hb hby at_101) rfl rfl (XS.iloadN X217.here hx rfl (hb hby at_102) rfl k))) ?_
        show G T217 (mkF m 103 #[iv i0, iv i1, iv 2, rv w_AT_MOST, iv (-1), rv b193, iv (nar .boolean (1 : Int32))] [.int i1, .ref w_AT_MOST])
        obtain ⟨cq219, kq219, q219a, q219b, q219c⟩ := isOf hZ e217 (E_AT_MOST.ext O.2)
        obtain ⟨_, _, ⟨T219, L219, k219, n219⟩, -, X219, ⟨Lc219, hQ219, l219, y219, z219⟩, st219⟩ := X217.virtualBack hx (y := (⟨"com/example/wrought_gate/wroughtgate/engine/Comparison", "admits", "(I)Z"⟩ : MethodName)) (z := (⟨"com/example/wrought_gate/wroughtgate/engine/Comparison", "admits", "(I)Z"⟩ : MethodName)) hown (mvT hZ (ow hw 8 rfl)) (mvT hZ (ow hw 9 rfl)) (notFace_of_selects (args := #[]) (mvT hZ (ow hw 11 rfl))) (mvT hZ (ow hw 11 rfl)) (mvT hZ (ow hw 10 rfl)) (by decide) (backOf (W := 0) (rm2_2 l Z a0 hw [] w_AT_MOST i1 h217 n0 O (E_AT_MOST.ext O.2) (F_ordinal_AT_MOST.ext O.2)) hZ (ow hw 12 rfl) (ow hw 5 rfl) (by decide) (by decide)) q219a q219c (g := (mkF m 103 #[iv i0, iv i1, iv 2, rv w_AT_MOST, iv (-1), rv b193, iv (nar .boolean (1 : Int32))] [.int i1, .ref w_AT_MOST])) rfl (by rw [hml]; rfl) (Steps.refl _) (argsL := [(.int i1)]) (rest := []) (lenOf pd_2 rfl) rfl (by show 2 * 0 + _ ≤ _; exact Nat.le_of_eq rfl) (hb hby at_103) (fun _ _ => ⟨rfl, e217, (by decide : 1 + 0 ≤ _), (by decide : 12 + 0 ≤ _)⟩)
        dsimp only [Pt.U, Pt.locs, Pt.cells, Pt.slots] at X219 l219 y219 z219 st219 hQ219
        subst l219 y219 z219
        obtain ⟨rfl, rfl, e219⟩ := hQ219
        try rw [List.append_nil] at X219
        refine gb (fun _ k => st219.trans k) ?_
        show G T219 (mkF m 106 #[iv i0, iv i1, iv 2, rv w_AT_MOST, iv (-1), rv b193, iv (nar .boolean (1 : Int32))] [.int (if ¬ ((0 : Int32) < i1) then (1 : Int32) else (0 : Int32))])
        refine gb (fun _ k => XS.iload X219.here hx rfl (hb hby at_106) rfl (XS.icmpNo X219.here hx rfl (hb hby at_108) rfl (teq (show (if ¬ ((0 : Int32) < i1) then (1 : Int32) else (0 : Int32)) = (nar .boolean (1 : Int32)) by simp only [hA, hB, not_true_eq_false, not_false_eq_true, if_true, if_false]; rfl)).2 (XS.iconst X219.here hx rfl (hb hby at_111) (XS.goto X219.here hx rfl (pc0 := 112) (pc' := 116) rfl (hb hby at_112) (by decide) (by decide) k)))) ?_
        show G T219 (mkF m 116 #[iv i0, iv i1, iv 2, rv w_AT_MOST, iv (-1), rv b193, iv (nar .boolean (1 : Int32))] [.int 1])
        exact go X219 (v := (some (.int (1 : Int32)))) (fun h => by rw [Bd.returns] at h; cases h) (fun fs hr => retOut X219 hx Bd.returns rfl (Or.inl ⟨rfl, by simp, _, rfl⟩) (hb hby at_116) hr) (⟨rfl, N⟩) (by decide) (by decide)
      · skip
        refine gb (fun _ k => XS.ifYes X165.here hx rfl (pc0 := 18) (pc' := 25) rfl (hb hby at_18) rfl ((if0 _ _).trans (flt hc18).2.1) (by decide) (by decide) (XS.iconst X165.here hx rfl (hb hby at_25) k)) ?_
        show G T165 (mkF m 26 #[iv i0, iv i1, iv 2, rv w_AT_MOST, .unset, .unset, .unset] [.int 0])
        have hA : ¬ (i1 < (0 : Int32)) := hc18
        have hB : ¬ ((0 : Int32) < i1) := hc10
        refine gb (fun _ k => XS.istore X165.here hx rfl (hb hby at_26) rfl (l' := #[iv i0, iv i1, iv 2, rv w_AT_MOST, iv 0, .unset, .unset]) rfl (XS.bipush X165.here hx rfl (hb hby at_28) k)) ?_
        show G T165 (mkF m 30 #[iv i0, iv i1, iv 2, rv w_AT_MOST, iv 0, .unset, .unset] [.int 12])
        obtain ⟨T220, h220, k220, X220, e220, E220, A220, st220⟩ := newP X165 hx hZ (ow hw 7 rfl) e165 (g := (mkF m 30 #[iv i0, iv i1, iv 2, rv w_AT_MOST, iv 0, .unset, .unset] [.int 12])) rfl (hb hby at_30) rfl (by decide) (cap := 12) (by decide) (by decide) (by decide) (by decide)
        obtain ⟨b220, g220⟩ : ∃ z, z = h0.size := ⟨_, rfl⟩
        rw [← g220] at A220 st220
        have g_b220 : n0 ≤ b220 := Nat.le_trans (by have := O.2.1; rw [O.1] at this; exact this) (Nat.le_of_eq g220.symm)
        have O := O.ext E220
        have V_b220 : Arv Z h220 b220 k220 .boolean (12 : Int32) [(.int (0 : Int32)), (.int (0 : Int32)), (.int (0 : Int32)), (.int (0 : Int32)), (.int (0 : Int32)), (.int (0 : Int32)), (.int (0 : Int32)), (.int (0 : Int32)), (.int (0 : Int32)), (.int (0 : Int32)), (.int (0 : Int32)), (.int (0 : Int32))] (.int (0 : Int32)) := (Arv.new A220 (by decide)).pad (pad_rep [] (.int (0 : Int32)) 12)
        refine gb st220 ?_
        show G T220 (mkF m 32 #[iv i0, iv i1, iv 2, rv w_AT_MOST, iv 0, .unset, .unset] [.ref b220])
        refine gb (fun _ k => XS.dup X220.here hx rfl (hb hby at_32) rfl rfl (XS.iconst X220.here hx rfl (hb hby at_33) (XS.iconst X220.here hx rfl (hb hby at_34) k))) ?_
        show G T220 (mkF m 35 #[iv i0, iv i1, iv 2, rv w_AT_MOST, iv 0, .unset, .unset] [.int 0, .int 0, .ref b220, .ref b220])
        have V'221 := V_b220
        obtain ⟨cl221, Ar221, qk221, sz221, nn221, hs221, ft221⟩ := V'221
        have hin221 : ¬ ((0 : Int32) < 0 ∨ cl221.slots.size ≤ ((0 : Int32)).toNatClampNeg) := inb_of sz221 ⟨by decide, by decide⟩
        obtain ⟨T222, h222, X222, e222, W222, st222⟩ := stZ X220 hx hZ e220 Ar221 (j := (0 : Int32)) hin221 (g := (mkF m 35 #[iv i0, iv i1, iv 2, rv w_AT_MOST, iv 0, .unset, .unset] [.int 0, .int 0, .ref b220, .ref b220])) rfl rfl (hb hby at_35)
        have V_b220 : Arv Z h222 b220 k220 .boolean (12 : Int32) [(.int (nar .boolean (0 : Int32))), (.int (0 : Int32)), (.int (0 : Int32)), (.int (0 : Int32)), (.int (0 : Int32)), (.int (0 : Int32)), (.int (0 : Int32)), (.int (0 : Int32)), (.int (0 : Int32)), (.int (0 : Int32)), (.int (0 : Int32)), (.int (0 : Int32))] (.int (0 : Int32)) := Arv.set Ar221 qk221 sz221 nn221 hs221 ft221 (fits_nar_bool _) W222 0 rfl (Nat.le_of_ble_eq_true rfl)
        have O := O.wr W222 g_b220
        have N := Fr.snoc X222 N g_b220
        refine gb st222 ?_
        show G T222 (mkF m 36 #[iv i0, iv i1, iv 2, rv w_AT_MOST, iv 0, .unset, .unset] [.ref b220])
        refine gb (fun _ k => XS.dup X222.here hx rfl (hb hby at_36) rfl rfl (XS.iconst X222.here hx rfl (hb hby at_37) (XS.iconst X222.here hx rfl (hb hby at_38) k))) ?_
        show G T222 (mkF m 39 #[iv i0, iv i1, iv 2, rv w_AT_MOST, iv 0, .unset, .unset] [.int 1, .int 1, .ref b220, .ref b220])
        have V'223 := V_b220
        obtain ⟨cl223, Ar223, qk223, sz223, nn223, hs223, ft223⟩ := V'223
        have hin223 : ¬ ((1 : Int32) < 0 ∨ cl223.slots.size ≤ ((1 : Int32)).toNatClampNeg) := inb_of sz223 ⟨by decide, by decide⟩
        obtain ⟨T224, h224, X224, e224, W224, st224⟩ := stZ X222 hx hZ e222 Ar223 (j := (1 : Int32)) hin223 (g := (mkF m 39 #[iv i0, iv i1, iv 2, rv w_AT_MOST, iv 0, .unset, .unset] [.int 1, .int 1, .ref b220, .ref b220])) rfl rfl (hb hby at_39)
        have V_b220 : Arv Z h224 b220 k220 .boolean (12 : Int32) [(.int (nar .boolean (0 : Int32))), (.int (nar .boolean (1 : Int32))), (.int (0 : Int32)), (.int (0 : Int32)), (.int (0 : Int32)), (.int (0 : Int32)), (.int (0 : Int32)), (.int (0 : Int32)), (.int (0 : Int32)), (.int (0 : Int32)), (.int (0 : Int32)), (.int (0 : Int32))] (.int (0 : Int32)) := Arv.set Ar223 qk223 sz223 nn223 hs223 ft223 (fits_nar_bool _) W224 1 rfl (Nat.le_of_ble_eq_true rfl)
        have O := O.wr W224 g_b220
        have N := Fr.snoc X224 N g_b220
        refine gb st224 ?_
        show G T224 (mkF m 40 #[iv i0, iv i1, iv 2, rv w_AT_MOST, iv 0, .unset, .unset] [.ref b220])
        refine gb (fun _ k => XS.dup X224.here hx rfl (hb hby at_40) rfl rfl (XS.iconst X224.here hx rfl (hb hby at_41) (XS.iconst X224.here hx rfl (hb hby at_42) k))) ?_
        show G T224 (mkF m 43 #[iv i0, iv i1, iv 2, rv w_AT_MOST, iv 0, .unset, .unset] [.int 1, .int 2, .ref b220, .ref b220])
        have V'225 := V_b220
        obtain ⟨cl225, Ar225, qk225, sz225, nn225, hs225, ft225⟩ := V'225
        have hin225 : ¬ ((2 : Int32) < 0 ∨ cl225.slots.size ≤ ((2 : Int32)).toNatClampNeg) := inb_of sz225 ⟨by decide, by decide⟩
        obtain ⟨T226, h226, X226, e226, W226, st226⟩ := stZ X224 hx hZ e224 Ar225 (j := (2 : Int32)) hin225 (g := (mkF m 43 #[iv i0, iv i1, iv 2, rv w_AT_MOST, iv 0, .unset, .unset] [.int 1, .int 2, .ref b220, .ref b220])) rfl rfl (hb hby at_43)
        have V_b220 : Arv Z h226 b220 k220 .boolean (12 : Int32) [(.int (nar .boolean (0 : Int32))), (.int (nar .boolean (1 : Int32))), (.int (nar .boolean (1 : Int32))), (.int (0 : Int32)), (.int (0 : Int32)), (.int (0 : Int32)), (.int (0 : Int32)), (.int (0 : Int32)), (.int (0 : Int32)), (.int (0 : Int32)), (.int (0 : Int32)), (.int (0 : Int32))] (.int (0 : Int32)) := Arv.set Ar225 qk225 sz225 nn225 hs225 ft225 (fits_nar_bool _) W226 2 rfl (Nat.le_of_ble_eq_true rfl)
        have O := O.wr W226 g_b220
        have N := Fr.snoc X226 N g_b220
        refine gb st226 ?_
        show G T226 (mkF m 44 #[iv i0, iv i1, iv 2, rv w_AT_MOST, iv 0, .unset, .unset] [.ref b220])
        refine gb (fun _ k => XS.dup X226.here hx rfl (hb hby at_44) rfl rfl (XS.iconst X226.here hx rfl (hb hby at_45) (XS.iconst X226.here hx rfl (hb hby at_46) k))) ?_
        show G T226 (mkF m 47 #[iv i0, iv i1, iv 2, rv w_AT_MOST, iv 0, .unset, .unset] [.int 0, .int 3, .ref b220, .ref b220])
        have V'227 := V_b220
        obtain ⟨cl227, Ar227, qk227, sz227, nn227, hs227, ft227⟩ := V'227
        have hin227 : ¬ ((3 : Int32) < 0 ∨ cl227.slots.size ≤ ((3 : Int32)).toNatClampNeg) := inb_of sz227 ⟨by decide, by decide⟩
        obtain ⟨T228, h228, X228, e228, W228, st228⟩ := stZ X226 hx hZ e226 Ar227 (j := (3 : Int32)) hin227 (g := (mkF m 47 #[iv i0, iv i1, iv 2, rv w_AT_MOST, iv 0, .unset, .unset] [.int 0, .int 3, .ref b220, .ref b220])) rfl rfl (hb hby at_47)
        have V_b220 : Arv Z h228 b220 k220 .boolean (12 : Int32) [(.int (nar .boolean (0 : Int32))), (.int (nar .boolean (1 : Int32))), (.int (nar .boolean (1 : Int32))), (.int (nar .boolean (0 : Int32))), (.int (0 : Int32)), (.int (0 : Int32)), (.int (0 : Int32)), (.int (0 : Int32)), (.int (0 : Int32)), (.int (0 : Int32)), (.int (0 : Int32)), (.int (0 : Int32))] (.int (0 : Int32)) := Arv.set Ar227 qk227 sz227 nn227 hs227 ft227 (fits_nar_bool _) W228 3 rfl (Nat.le_of_ble_eq_true rfl)
        have O := O.wr W228 g_b220
        have N := Fr.snoc X228 N g_b220
        refine gb st228 ?_
        show G T228 (mkF m 48 #[iv i0, iv i1, iv 2, rv w_AT_MOST, iv 0, .unset, .unset] [.ref b220])
        refine gb (fun _ k => XS.dup X228.here hx rfl (hb hby at_48) rfl rfl (XS.iconst X228.here hx rfl (hb hby at_49) (XS.iconst X228.here hx rfl (hb hby at_50) k))) ?_
        show G T228 (mkF m 51 #[iv i0, iv i1, iv 2, rv w_AT_MOST, iv 0, .unset, .unset] [.int 0, .int 4, .ref b220, .ref b220])
        have V'229 := V_b220
        obtain ⟨cl229, Ar229, qk229, sz229, nn229, hs229, ft229⟩ := V'229
        have hin229 : ¬ ((4 : Int32) < 0 ∨ cl229.slots.size ≤ ((4 : Int32)).toNatClampNeg) := inb_of sz229 ⟨by decide, by decide⟩
        obtain ⟨T230, h230, X230, e230, W230, st230⟩ := stZ X228 hx hZ e228 Ar229 (j := (4 : Int32)) hin229 (g := (mkF m 51 #[iv i0, iv i1, iv 2, rv w_AT_MOST, iv 0, .unset, .unset] [.int 0, .int 4, .ref b220, .ref b220])) rfl rfl (hb hby at_51)
        have V_b220 : Arv Z h230 b220 k220 .boolean (12 : Int32) [(.int (nar .boolean (0 : Int32))), (.int (nar .boolean (1 : Int32))), (.int (nar .boolean (1 : Int32))), (.int (nar .boolean (0 : Int32))), (.int (nar .boolean (0 : Int32))), (.int (0 : Int32)), (.int (0 : Int32)), (.int (0 : Int32)), (.int (0 : Int32)), (.int (0 : Int32)), (.int (0 : Int32)), (.int (0 : Int32))] (.int (0 : Int32)) := Arv.set Ar229 qk229 sz229 nn229 hs229 ft229 (fits_nar_bool _) W230 4 rfl (Nat.le_of_ble_eq_true rfl)
        have O := O.wr W230 g_b220
        have N := Fr.snoc X230 N g_b220
        refine gb st230 ?_
        show G T230 (mkF m 52 #[iv i0, iv i1, iv 2, rv w_AT_MOST, iv 0, .unset, .unset] [.ref b220])
        refine gb (fun _ k => XS.dup X230.here hx rfl (hb hby at_52) rfl rfl (XS.iconst X230.here hx rfl (hb hby at_53) (XS.iconst X230.here hx rfl (hb hby at_54) k))) ?_
        show G T230 (mkF m 55 #[iv i0, iv i1, iv 2, rv w_AT_MOST, iv 0, .unset, .unset] [.int 1, .int 5, .ref b220, .ref b220])
        have V'231 := V_b220
        obtain ⟨cl231, Ar231, qk231, sz231, nn231, hs231, ft231⟩ := V'231
        have hin231 : ¬ ((5 : Int32) < 0 ∨ cl231.slots.size ≤ ((5 : Int32)).toNatClampNeg) := inb_of sz231 ⟨by decide, by decide⟩
        obtain ⟨T232, h232, X232, e232, W232, st232⟩ := stZ X230 hx hZ e230 Ar231 (j := (5 : Int32)) hin231 (g := (mkF m 55 #[iv i0, iv i1, iv 2, rv w_AT_MOST, iv 0, .unset, .unset] [.int 1, .int 5, .ref b220, .ref b220])) rfl rfl (hb hby at_55)
        have V_b220 : Arv Z h232 b220 k220 .boolean (12 : Int32) [(.int (nar .boolean (0 : Int32))), (.int (nar .boolean (1 : Int32))), (.int (nar .boolean (1 : Int32))), (.int (nar .boolean (0 : Int32))), (.int (nar .boolean (0 : Int32))), (.int (nar .boolean (1 : Int32))), (.int (0 : Int32)), (.int (0 : Int32)), (.int (0 : Int32)), (.int (0 : Int32)), (.int (0 : Int32)), (.int (0 : Int32))] (.int (0 : Int32)) := Arv.set Ar231 qk231 sz231 nn231 hs231 ft231 (fits_nar_bool _) W232 5 rfl (Nat.le_of_ble_eq_true rfl)
        have O := O.wr W232 g_b220
        have N := Fr.snoc X232 N g_b220
        refine gb st232 ?_
        show G T232 (mkF m 56 #[iv i0, iv i1, iv 2, rv w_AT_MOST, iv 0, .unset, .unset] [.ref b220])
        refine gb (fun _ k => XS.dup X232.here hx rfl (hb hby at_56) rfl rfl (XS.bipush X232.here hx rfl (hb hby at_57) (XS.iconst X232.here hx rfl (hb hby at_59) k))) ?_
        show G T232 (mkF m 60 #[iv i0, iv i1, iv 2, rv w_AT_MOST, iv 0, .unset, .unset] [.int 1, .int 6, .ref b220, .ref b220])
        have V'233 := V_b220
        obtain ⟨cl233, Ar233, qk233, sz233, nn233, hs233, ft233⟩ := V'233
        have hin233 : ¬ ((6 : Int32) < 0 ∨ cl233.slots.size ≤ ((6 : Int32)).toNatClampNeg) := inb_of sz233 ⟨by decide, by decide⟩
        obtain ⟨T234, h234, X234, e234, W234, st234⟩ := stZ X232 hx hZ e232 Ar233 (j := (6 : Int32)) hin233 (g := (mkF m 60 #[iv i0, iv i1, iv 2, rv w_AT_MOST, iv 0, .unset, .unset] [.int 1, .int 6, .ref b220, .ref b220])) rfl rfl (hb hby at_60)
        have V_b220 : Arv Z h234 b220 k220 .boolean (12 : Int32) [(.int (nar .boolean (0 : Int32))), (.int (nar .boolean (1 : Int32))), (.int (nar .boolean (1 : Int32))), (.int (nar .boolean (0 : Int32))), (.int (nar .boolean (0 : Int32))), (.int (nar .boolean (1 : Int32))), (.int (nar .boolean (1 : Int32))), (.int (0 : Int32)), (.int (0 : Int32)), (.int (0 : Int32)), (.int (0 : Int32)), (.int (0 : Int32))] (.int (0 : Int32)) := Arv.set Ar233 qk233 sz233 nn233 hs233 ft233 (fits_nar_bool _) W234 6 rfl (Nat.le_of_ble_eq_true rfl)
        have O := O.wr W234 g_b220
        have N := Fr.snoc X234 N g_b220
        refine gb st234 ?_
        show G T234 (mkF m 61 #[iv i0, iv i1, iv 2, rv w_AT_MOST, iv 0, .unset, .unset] [.ref b220])
        refine gb (fun _ k => XS.dup X234.here hx rfl (hb hby at_61) rfl rfl (XS.bipush X234.here hx rfl (hb hby at_62) (XS.iconst X234.here hx rfl (hb hby at_64) k))) ?_
        show G T234 (mkF m 65 #[iv i0, iv i1, iv 2, rv w_AT_MOST, iv 0, .unset, .unset] [.int 1, .int 7, .ref b220, .ref b220])
        have V'235 := V_b220
        obtain ⟨cl235, Ar235, qk235, sz235, nn235, hs235, ft235⟩ := V'235
        have hin235 : ¬ ((7 : Int32) < 0 ∨ cl235.slots.size ≤ ((7 : Int32)).toNatClampNeg) := inb_of sz235 ⟨by decide, by decide⟩
        obtain ⟨T236, h236, X236, e236, W236, st236⟩ := stZ X234 hx hZ e234 Ar235 (j := (7 : Int32)) hin235 (g := (mkF m 65 #[iv i0, iv i1, iv 2, rv w_AT_MOST, iv 0, .unset, .unset] [.int 1, .int 7, .ref b220, .ref b220])) rfl rfl (hb hby at_65)
        have V_b220 : Arv Z h236 b220 k220 .boolean (12 : Int32) [(.int (nar .boolean (0 : Int32))), (.int (nar .boolean (1 : Int32))), (.int (nar .boolean (1 : Int32))), (.int (nar .boolean (0 : Int32))), (.int (nar .boolean (0 : Int32))), (.int (nar .boolean (1 : Int32))), (.int (nar .boolean (1 : Int32))), (.int (nar .boolean (1 : Int32))), (.int (0 : Int32)), (.int (0 : Int32)), (.int (0 : Int32)), (.int (0 : Int32))] (.int (0 : Int32)) := Arv.set Ar235 qk235 sz235 nn235 hs235 ft235 (fits_nar_bool _) W236 7 rfl (Nat.le_of_ble_eq_true rfl)
        have O := O.wr W236 g_b220
        have N := Fr.snoc X236 N g_b220
        refine gb st236 ?_
        show G T236 (mkF m 66 #[iv i0, iv i1, iv 2, rv w_AT_MOST, iv 0, .unset, .unset] [.ref b220])
        refine gb (fun _ k => XS.dup X236.here hx rfl (hb hby at_66) rfl rfl (XS.bipush X236.here hx rfl (hb hby at_67) (XS.iconst X236.here hx rfl (hb hby at_69) k))) ?_
        show G T236 (mkF m 70 #[iv i0, iv i1, iv 2, rv w_AT_MOST, iv 0, .unset, .unset] [.int 0, .int 8, .ref b220, .ref b220])
        have V'237 := V_b220
        obtain ⟨cl237, Ar237, qk237, sz237, nn237, hs237, ft237⟩ := V'237
        have hin237 : ¬ ((8 : Int32) < 0 ∨ cl237.slots.size ≤ ((8 : Int32)).toNatClampNeg) := inb_of sz237 ⟨by decide, by decide⟩
        obtain ⟨T238, h238, X238, e238, W238, st238⟩ := stZ X236 hx hZ e236 Ar237 (j := (8 : Int32)) hin237 (g := (mkF m 70 #[iv i0, iv i1, iv 2, rv w_AT_MOST, iv 0, .unset, .unset] [.int 0, .int 8, .ref b220, .ref b220])) rfl rfl (hb hby at_70)
        have V_b220 : Arv Z h238 b220 k220 .boolean (12 : Int32) [(.int (nar .boolean (0 : Int32))), (.int (nar .boolean (1 : Int32))), (.int (nar .boolean (1 : Int32))), (.int (nar .boolean (0 : Int32))), (.int (nar .boolean (0 : Int32))), (.int (nar .boolean (1 : Int32))), (.int (nar .boolean (1 : Int32))), (.int (nar .boolean (1 : Int32))), (.int (nar .boolean (0 : Int32))), (.int (0 : Int32)), (.int (0 : Int32)), (.int (0 : Int32))] (.int (0 : Int32)) := Arv.set Ar237 qk237 sz237 nn237 hs237 ft237 (fits_nar_bool _) W238 8 rfl (Nat.le_of_ble_eq_true rfl)
        have O := O.wr W238 g_b220
        have N := Fr.snoc X238 N g_b220
        refine gb st238 ?_
        show G T238 (mkF m 71 #[iv i0, iv i1, iv 2, rv w_AT_MOST, iv 0, .unset, .unset] [.ref b220])
        refine gb (fun _ k => XS.dup X238.here hx rfl (hb hby at_71) rfl rfl (XS.bipush X238.here hx rfl (hb hby at_72) (XS.iconst X238.here hx rfl (hb hby at_74) k))) ?_
        show G T238 (mkF m 75 #[iv i0, iv i1, iv 2, rv w_AT_MOST, iv 0, .unset, .unset] [.int 1, .int 9, .ref b220, .ref b220])
        have V'239 := V_b220
        obtain ⟨cl239, Ar239, qk239, sz239, nn239, hs239, ft239⟩ := V'239
        have hin239 : ¬ ((9 : Int32) < 0 ∨ cl239.slots.size ≤ ((9 : Int32)).toNatClampNeg) := inb_of sz239 ⟨by decide, by decide⟩
        obtain ⟨T240, h240, X240, e240, W240, st240⟩ := stZ X238 hx hZ e238 Ar239 (j := (9 : Int32)) hin239 (g := (mkF m 75 #[iv i0, iv i1, iv 2, rv w_AT_MOST, iv 0, .unset, .unset] [.int 1, .int 9, .ref b220, .ref b220])) rfl rfl (hb hby at_75)
        have V_b220 : Arv Z h240 b220 k220 .boolean (12 : Int32) [(.int (nar .boolean (0 : Int32))), (.int (nar .boolean (1 : Int32))), (.int (nar .boolean (1 : Int32))), (.int (nar .boolean (0 : Int32))), (.int (nar .boolean (0 : Int32))), (.int (nar .boolean (1 : Int32))), (.int (nar .boolean (1 : Int32))), (.int (nar .boolean (1 : Int32))), (.int (nar .boolean (0 : Int32))), (.int (nar .boolean (1 : Int32))), (.int (0 : Int32)), (.int (0 : Int32))] (.int (0 : Int32)) := Arv.set Ar239 qk239 sz239 nn239 hs239 ft239 (fits_nar_bool _) W240 9 rfl (Nat.le_of_ble_eq_true rfl)
        have O := O.wr W240 g_b220
        have N := Fr.snoc X240 N g_b220
        refine gb st240 ?_
        show G T240 (mkF m 76 #[iv i0, iv i1, iv 2, rv w_AT_MOST, iv 0, .unset, .unset] [.ref b220])
        refine gb (fun _ k => XS.dup X240.here hx rfl (hb hby at_76) rfl rfl (XS.bipush X240.here hx rfl (hb hby at_77) (XS.iconst X240.here hx rfl (hb hby at_79) k))) ?_
        show G T240 (mkF m 80 #[iv i0, iv i1, iv 2, rv w_AT_MOST, iv 0, .unset, .unset] [.int 0, .int 10, .ref b220, .ref b220])
        have V'241 := V_b220
        obtain ⟨cl241, Ar241, qk241, sz241, nn241, hs241, ft241⟩ := V'241
        have hin241 : ¬ ((10 : Int32) < 0 ∨ cl241.slots.size ≤ ((10 : Int32)).toNatClampNeg) := inb_of sz241 ⟨by decide, by decide⟩
        obtain ⟨T242, h242, X242, e242, W242, st242⟩ := stZ X240 hx hZ e240 Ar241 (j := (10 : Int32)) hin241 (g := (mkF m 80 #[iv i0, iv i1, iv 2, rv w_AT_MOST, iv 0, .unset, .unset] [.int 0, .int 10, .ref b220, .ref b220])) rfl rfl (hb hby at_80)
        have V_b220 : Arv Z h242 b220 k220 .boolean (12 : Int32) [(.int (nar .boolean (0 : Int32))), (.int (nar .boolean (1 : Int32))), (.int (nar .boolean (1 : Int32))), (.int (nar .boolean (0 : Int32))), (.int (nar .boolean (0 : Int32))), (.int (nar .boolean (1 : Int32))), (.int (nar .boolean (1 : Int32))), (.int (nar .boolean (1 : Int32))), (.int (nar .boolean (0 : Int32))), (.int (nar .boolean (1 : Int32))), (.int (nar .boolean (0 : Int32))), (.int (0 : Int32))] (.int (0 : Int32)) := Arv.set Ar241 qk241 sz241 nn241 hs241 ft241 (fits_nar_bool _) W242 10 rfl (Nat.le_of_ble_eq_true rfl)
        have O := O.wr W242 g_b220
        have N := Fr.snoc X242 N g_b220
        refine gb st242 ?_
        show G T242 (mkF m 81 #[iv i0, iv i1, iv 2, rv w_AT_MOST, iv 0, .unset, .unset] [.ref b220])
        refine gb (fun _ k => XS.dup X242.here hx rfl (hb hby at_81) rfl rfl (XS.bipush X242.here hx rfl (hb hby at_82) (XS.iconst X242.here hx rfl (hb hby at_84) k))) ?_
        show G T242 (mkF m 85 #[iv i0, iv i1, iv 2, rv w_AT_MOST, iv 0, .unset, .unset] [.int 0, .int 11, .ref b220, .ref b220])
        have V'243 := V_b220
        obtain ⟨cl243, Ar243, qk243, sz243, nn243, hs243, ft243⟩ := V'243
        have hin243 : ¬ ((11 : Int32) < 0 ∨ cl243.slots.size ≤ ((11 : Int32)).toNatClampNeg) := inb_of sz243 ⟨by decide, by decide⟩
        obtain ⟨T244, h244, X244, e244, W244, st244⟩ := stZ X242 hx hZ e242 Ar243 (j := (11 : Int32)) hin243 (g := (mkF m 85 #[iv i0, iv i1, iv 2, rv w_AT_MOST, iv 0, .unset, .unset] [.int 0, .int 11, .ref b220, .ref b220])) rfl rfl (hb hby at_85)
        have V_b220 : Arv Z h244 b220 k220 .boolean (12 : Int32) [(.int (nar .boolean (0 : Int32))), (.int (nar .boolean (1 : Int32))), (.int (nar .boolean (1 : Int32))), (.int (nar .boolean (0 : Int32))), (.int (nar .boolean (0 : Int32))), (.int (nar .boolean (1 : Int32))), (.int (nar .boolean (1 : Int32))), (.int (nar .boolean (1 : Int32))), (.int (nar .boolean (0 : Int32))), (.int (nar .boolean (1 : Int32))), (.int (nar .boolean (0 : Int32))), (.int (nar .boolean (0 : Int32)))] (.int (0 : Int32)) := Arv.set Ar243 qk243 sz243 nn243 hs243 ft243 (fits_nar_bool _) W244 11 rfl (Nat.le_of_ble_eq_true rfl)
        have O := O.wr W244 g_b220
        have N := Fr.snoc X244 N g_b220
        refine gb st244 ?_
        show G T244 (mkF m 86 #[iv i0, iv i1, iv 2, rv w_AT_MOST, iv 0, .unset, .unset] [.ref b220])
        refine gb (fun _ k => XS.astore X244.here hx rfl (hb hby at_86) rfl rfl (l' := #[iv i0, iv i1, iv 2, rv w_AT_MOST, iv 0, rv b220, .unset]) rfl (XS.aload X244.here hx rfl (hb hby at_88) rfl rfl (XS.iloadN X244.here hx rfl (hb hby at_90) rfl (XS.iconst X244.here hx rfl (hb hby at_91) (XS.imul X244.here hx rfl (hb hby at_92) rfl (XS.iload X244.here hx rfl (hb hby at_93) rfl k)))))) ?_
        show G T244 (mkF m 95 #[iv i0, iv i1, iv 2, rv w_AT_MOST, iv 0, rv b220, .unset] [.int 0, .int 6, .ref b220])
        refine gb (fun _ k => XS.iadd X244.here hx rfl (hb hby at_95) rfl (XS.iconst X244.here hx rfl (hb hby at_96) (XS.iadd X244.here hx rfl (hb hby at_97) rfl k))) ?_
        show G T244 (mkF m 98 #[iv i0, iv i1, iv 2, rv w_AT_MOST, iv 0, rv b220, .unset] [.int 7, .ref b220])
        have V'245 := V_b220
        obtain ⟨cl245, Ar245, qk245, sz245, nn245, hs245, ft245⟩ := V'245
        have hin245 : ¬ ((7 : Int32) < 0 ∨ cl245.slots.size ≤ ((7 : Int32)).toNatClampNeg) := inb_of sz245 ⟨by decide, by decide⟩
        have hat245 : cl245.slots[((7 : Int32)).toNatClampNeg]? = some (.int (nar .boolean (1 : Int32))) := hs245.at hin245 rfl
        refine gb (X244.baloadBooleans hx (j := (7 : Int32)) (v := (.int (nar .boolean (1 : Int32)))) (by rw [e244]; exact Ar245.1) (State.isArrayOf_alike hZ.alike Ar245.2.1) Ar245.2.2 hin245 hat245 (g := (mkF m 98 #[iv i0, iv i1, iv 2, rv w_AT_MOST, iv 0, rv b220, .unset] [.int 7, .ref b220])) rfl rfl (hb hby at_98)) ?_
        show G T244 (mkF m 99 #[iv i0, iv i1, iv 2, rv w_AT_MOST, iv 0, rv b220, .unset] [.int (nar .boolean (1 : Int32))])
        refine gb (fun _ k => XS.istore X244.here hx rfl (hb hby at_99) rfl (l' := #[iv i0, iv i1, iv 2, rv w_AT_MOST, iv 0, rv b220, iv (nar .boolean (1 : Int32))]) rfl (XS.aloadN X244.here hx rfl (hb hby at_101) rfl rfl (XS.iloadN X244.here hx rfl (hb hby at_102) rfl k))) ?_
        show G T244 (mkF m 103 #[iv i0, iv i1, iv 2, rv w_AT_MOST, iv 0, rv b220, iv (nar .boolean (1 : Int32))] [.int i1, .ref w_AT_MOST])
        obtain ⟨cq246, kq246, q246a, q246b, q246c⟩ := isOf hZ e244 (E_AT_MOST.ext O.2)
        obtain ⟨_, _, ⟨T246, L246, k246, n246⟩, -, X246, ⟨Lc246, hQ246, l246, y246, z246⟩, st246⟩ := X244.virtualBack hx (y := (⟨"com/example/wrought_gate/wroughtgate/engine/Comparison", "admits", "(I)Z"⟩ : MethodName)) (z := (⟨"com/example/wrought_gate/wroughtgate/engine/Comparison", "admits", "(I)Z"⟩ : MethodName)) hown (mvT hZ (ow hw 8 rfl)) (mvT hZ (ow hw 9 rfl)) (notFace_of_selects (args := #[]) (mvT hZ (ow hw 11 rfl))) (mvT hZ (ow hw 11 rfl)) (mvT hZ (ow hw 10 rfl)) (by decide) (backOf (W := 0) (rm2_2 l Z a0 hw [] w_AT_MOST i1 h244 n0 O (E_AT_MOST.ext O.2) (F_ordinal_AT_MOST.ext O.2)) hZ (ow hw 12 rfl) (ow hw 5 rfl) (by decide) (by decide)) q246a q246c (g := (mkF m 103 #[iv i0, iv i1, iv 2, rv w_AT_MOST, iv 0, rv b220, iv (nar .boolean (1 : Int32))] [.int i1, .ref w_AT_MOST])) rfl (by rw [hml]; rfl) (Steps.refl _) (argsL := [(.int i1)]) (rest := []) (lenOf pd_2 rfl) rfl (by show 2 * 0 + _ ≤ _; exact Nat.le_of_eq rfl) (hb hby at_103) (fun _ _ => ⟨rfl, e244, (by decide : 1 + 0 ≤ _), (by decide : 12 + 0 ≤ _)⟩)
        dsimp only [Pt.U, Pt.locs, Pt.cells, Pt.slots] at X246 l246 y246 z246 st246 hQ246
        subst l246 y246 z246
        obtain ⟨rfl, rfl, e246⟩ := hQ246
        try rw [List.append_nil] at X246
        refine gb (fun _ k => st246.trans k) ?_
        show G T246 (mkF m 106 #[iv i0, iv i1, iv 2, rv w_AT_MOST, iv 0, rv b220, iv (nar .boolean (1 : Int32))] [.int (if ¬ ((0 : Int32) < i1) then (1 : Int32) else (0 : Int32))])
        refine gb (fun _ k => XS.iload X246.here hx rfl (hb hby at_106) rfl (XS.icmpNo X246.here hx rfl (hb hby at_108) rfl (teq (show (if ¬ ((0 : Int32) < i1) then (1 : Int32) else (0 : Int32)) = (nar .boolean (1 : Int32)) by simp only [hA, hB, not_true_eq_false, not_false_eq_true, if_true, if_false]; rfl)).2 (XS.iconst X246.here hx rfl (hb hby at_111) (XS.goto X246.here hx rfl (pc0 := 112) (pc' := 116) rfl (hb hby at_112) (by decide) (by decide) k)))) ?_
        show G T246 (mkF m 116 #[iv i0, iv i1, iv 2, rv w_AT_MOST, iv 0, rv b220, iv (nar .boolean (1 : Int32))] [.int 1])
        exact go X246 (v := (some (.int (1 : Int32)))) (fun h => by rw [Bd.returns] at h; cases h) (fun fs hr => retOut X246 hx Bd.returns rfl (Or.inl ⟨rfl, by simp, _, rfl⟩) (hb hby at_116) hr) (⟨rfl, N⟩) (by decide) (by decide)
  · skip
    rw [hk]
    show G s₁ (mkF m 4 #[iv i0, iv i1, iv 3, .unset, .unset, .unset, .unset] [])
    refine gb (fun _ k => XS.iloadN X0.here hx rfl (hb hby at_4) rfl k) ?_
    show G s₁ (mkF m 5 #[iv i0, iv i1, iv 3, .unset, .unset, .unset, .unset] [.int 3])
    obtain ⟨_, _, ⟨T247, L247, k247, n247⟩, -, X247, ⟨Lc247, hQ247, l247, y247, z247⟩, st247⟩ := Jvm.LawKit.callS X0 hx (y := (⟨"com/example/wrought_gate/wroughtgate/engine/ComparisonAdmitsPinLaw", "pick", "(I)Lcom/example/wrought_gate/wroughtgate/engine/Comparison;"⟩ : MethodName)) hown (mvT hZ (ow hw 0 rfl)) (mvT hZ (ow hw 1 rfl)) (mvT hZ (ow hw 2 rfl)) (mvT hZ (ow hw 3 rfl)) (by decide) (backOf (W := 0) (rm1_3 l Z a0 hw [] h0 n0 O w_LESS_THAN S_LESS_THAN) hZ (ow hw 3 rfl) (ow hw 2 rfl) (by decide) (by decide)) (g := (mkF m 5 #[iv i0, iv i1, iv 3, .unset, .unset, .unset, .unset] [.int 3])) rfl (by rw [hml]; rfl) (argsL := [(.int (3 : Int32))]) (rest := []) (lenOf pd_1 rfl) rfl (by show 2 * 0 + _ ≤ _; exact Nat.le_of_eq rfl) (hb hby at_5) (fun _ _ => ⟨rfl, e0, (by decide : 0 + 0 ≤ _), (by decide : 0 + 0 ≤ _)⟩)
    dsimp only [Pt.U, Pt.locs, Pt.cells, Pt.slots] at X247 l247 y247 z247 st247 hQ247
    subst l247 y247 z247
    obtain ⟨rfl, rfl, e247⟩ := hQ247
    try rw [List.append_nil] at X247
    refine gb st247 ?_
    show G T247 (mkF m 8 #[iv i0, iv i1, iv 3, .unset, .unset, .unset, .unset] [.ref w_LESS_THAN])
    refine gb (fun _ k => XS.astoreN X247.here hx rfl (hb hby at_8) rfl rfl (l' := #[iv i0, iv i1, iv 3, rv w_LESS_THAN, .unset, .unset, .unset]) rfl (XS.iloadN X247.here hx rfl (hb hby at_9) rfl k)) ?_
    show G T247 (mkF m 10 #[iv i0, iv i1, iv 3, rv w_LESS_THAN, .unset, .unset, .unset] [.int i1])
    by_cases hc10 : (0 : Int32) < i1
    · skip
      refine gb (fun _ k => XS.ifNo X247.here hx rfl (hb hby at_10) rfl ((if0 _ _).trans (tlt hc10).2.2.2) (XS.iconst X247.here hx rfl (hb hby at_13) (XS.goto X247.here hx rfl (pc0 := 14) (pc' := 26) rfl (hb hby at_14) (by decide) (by decide) k))) ?_
      show G T247 (mkF m 26 #[iv i0, iv i1, iv 3, rv w_LESS_THAN, .unset, .unset, .unset] [.int 1])
      have hB : (0 : Int32) < i1 := hc10
      have hA : ¬ (i1 < (0 : Int32)) := own_asym hB
      refine gb (fun _ k => XS.istore X247.here hx rfl (hb hby at_26) rfl (l' := #[iv i0, iv i1, iv 3, rv w_LESS_THAN, iv 1, .unset, .unset]) rfl (XS.bipush X247.here hx rfl (hb hby at_28) k)) ?_
      show G T247 (mkF m 30 #[iv i0, iv i1, iv 3, rv w_LESS_THAN, iv 1, .unset, .unset] [.int 12])
      obtain ⟨T248, h248, k248, X248, e248, E248, A248, st248⟩ := newP X247 hx hZ (ow hw 7 rfl) e247 (g := (mkF m 30 #[iv i0, iv i1, iv 3, rv w_LESS_THAN, iv 1, .unset, .unset] [.int 12])) rfl (hb hby at_30) rfl (by decide) (cap := 12) (by decide) (by decide) (by decide) (by decide)
      obtain ⟨b248, g248⟩ : ∃ z, z = h0.size := ⟨_, rfl⟩
      rw [← g248] at A248 st248
      have g_b248 : n0 ≤ b248 := Nat.le_trans (by have := O.2.1; rw [O.1] at this; exact this) (Nat.le_of_eq g248.symm)
      have O := O.ext E248
      have V_b248 : Arv Z h248 b248 k248 .boolean (12 : Int32) [(.int (0 : Int32)), (.int (0 : Int32)), (.int (0 : Int32)), (.int (0 : Int32)), (.int (0 : Int32)), (.int (0 : Int32)), (.int (0 : Int32)), (.int (0 : Int32)), (.int (0 : Int32)), (.int (0 : Int32)), (.int (0 : Int32)), (.int (0 : Int32))] (.int (0 : Int32)) := (Arv.new A248 (by decide)).pad (pad_rep [] (.int (0 : Int32)) 12)
      refine gb st248 ?_
      show G T248 (mkF m 32 #[iv i0, iv i1, iv 3, rv w_LESS_THAN, iv 1, .unset, .unset] [.ref b248])
      refine gb (fun _ k => XS.dup X248.here hx rfl (hb hby at_32) rfl rfl (XS.iconst X248.here hx rfl (hb hby at_33) (XS.iconst X248.here hx rfl (hb hby at_34) k))) ?_
      show G T248 (mkF m 35 #[iv i0, iv i1, iv 3, rv w_LESS_THAN, iv 1, .unset, .unset] [.int 0, .int 0, .ref b248, .ref b248])
      have V'249 := V_b248
      obtain ⟨cl249, Ar249, qk249, sz249, nn249, hs249, ft249⟩ := V'249
      have hin249 : ¬ ((0 : Int32) < 0 ∨ cl249.slots.size ≤ ((0 : Int32)).toNatClampNeg) := inb_of sz249 ⟨by decide, by decide⟩
      obtain ⟨T250, h250, X250, e250, W250, st250⟩ := stZ X248 hx hZ e248 Ar249 (j := (0 : Int32)) hin249 (g := (mkF m 35 #[iv i0, iv i1, iv 3, rv w_LESS_THAN, iv 1, .unset, .unset] [.int 0, .int 0, .ref b248, .ref b248])) rfl rfl (hb hby at_35)
      have V_b248 : Arv Z h250 b248 k248 .boolean (12 : Int32) [(.int (nar .boolean (0 : Int32))), (.int (0 : Int32)), (.int (0 : Int32)), (.int (0 : Int32)), (.int (0 : Int32)), (.int (0 : Int32)), (.int (0 : Int32)), (.int (0 : Int32)), (.int (0 : Int32)), (.int (0 : Int32)), (.int (0 : Int32)), (.int (0 : Int32))] (.int (0 : Int32)) := Arv.set Ar249 qk249 sz249 nn249 hs249 ft249 (fits_nar_bool _) W250 0 rfl (Nat.le_of_ble_eq_true rfl)
      have O := O.wr W250 g_b248
      have N := Fr.snoc X250 N g_b248
      refine gb st250 ?_
      show G T250 (mkF m 36 #[iv i0, iv i1, iv 3, rv w_LESS_THAN, iv 1, .unset, .unset] [.ref b248])
      refine gb (fun _ k => XS.dup X250.here hx rfl (hb hby at_36) rfl rfl (XS.iconst X250.here hx rfl (hb hby at_37) (XS.iconst X250.here hx rfl (hb hby at_38) k))) ?_
      show G T250 (mkF m 39 #[iv i0, iv i1, iv 3, rv w_LESS_THAN, iv 1, .unset, .unset] [.int 1, .int 1, .ref b248, .ref b248])
      have V'251 := V_b248
      obtain ⟨cl251, Ar251, qk251, sz251, nn251, hs251, ft251⟩ := V'251
      have hin251 : ¬ ((1 : Int32) < 0 ∨ cl251.slots.size ≤ ((1 : Int32)).toNatClampNeg) := inb_of sz251 ⟨by decide, by decide⟩
      obtain ⟨T252, h252, X252, e252, W252, st252⟩ := stZ X250 hx hZ e250 Ar251 (j := (1 : Int32)) hin251 (g := (mkF m 39 #[iv i0, iv i1, iv 3, rv w_LESS_THAN, iv 1, .unset, .unset] [.int 1, .int 1, .ref b248, .ref b248])) rfl rfl (hb hby at_39)
      have V_b248 : Arv Z h252 b248 k248 .boolean (12 : Int32) [(.int (nar .boolean (0 : Int32))), (.int (nar .boolean (1 : Int32))), (.int (0 : Int32)), (.int (0 : Int32)), (.int (0 : Int32)), (.int (0 : Int32)), (.int (0 : Int32)), (.int (0 : Int32)), (.int (0 : Int32)), (.int (0 : Int32)), (.int (0 : Int32)), (.int (0 : Int32))] (.int (0 : Int32)) := Arv.set Ar251 qk251 sz251 nn251 hs251 ft251 (fits_nar_bool _) W252 1 rfl (Nat.le_of_ble_eq_true rfl)
      have O := O.wr W252 g_b248
      have N := Fr.snoc X252 N g_b248
      refine gb st252 ?_
      show G T252 (mkF m 40 #[iv i0, iv i1, iv 3, rv w_LESS_THAN, iv 1, .unset, .unset] [.ref b248])
      refine gb (fun _ k => XS.dup X252.here hx rfl (hb hby at_40) rfl rfl (XS.iconst X252.here hx rfl (hb hby at_41) (XS.iconst X252.here hx rfl (hb hby at_42) k))) ?_
      show G T252 (mkF m 43 #[iv i0, iv i1, iv 3, rv w_LESS_THAN, iv 1, .unset, .unset] [.int 1, .int 2, .ref b248, .ref b248])
      have V'253 := V_b248
      obtain ⟨cl253, Ar253, qk253, sz253, nn253, hs253, ft253⟩ := V'253
      have hin253 : ¬ ((2 : Int32) < 0 ∨ cl253.slots.size ≤ ((2 : Int32)).toNatClampNeg) := inb_of sz253 ⟨by decide, by decide⟩
      obtain ⟨T254, h254, X254, e254, W254, st254⟩ := stZ X252 hx hZ e252 Ar253 (j := (2 : Int32)) hin253 (g := (mkF m 43 #[iv i0, iv i1, iv 3, rv w_LESS_THAN, iv 1, .unset, .unset] [.int 1, .int 2, .ref b248, .ref b248])) rfl rfl (hb hby at_43)
      have V_b248 : Arv Z h254 b248 k248 .boolean (12 : Int32) [(.int (nar .boolean (0 : Int32))), (.int (nar .boolean (1 : Int32))), (.int (nar .boolean (1 : Int32))), (.int (0 : Int32)), (.int (0 : Int32)), (.int (0 : Int32)), (.int (0 : Int32)), (.int (0 : Int32)), (.int (0 : Int32)), (.int (0 : Int32)), (.int (0 : Int32)), (.int (0 : Int32))] (.int (0 : Int32)) := Arv.set Ar253 qk253 sz253 nn253 hs253 ft253 (fits_nar_bool _) W254 2 rfl (Nat.le_of_ble_eq_true rfl)
      have O := O.wr W254 g_b248
      have N := Fr.snoc X254 N g_b248
      refine gb st254 ?_
      show G T254 (mkF m 44 #[iv i0, iv i1, iv 3, rv w_LESS_THAN, iv 1, .unset, .unset] [.ref b248])
      refine gb (fun _ k => XS.dup X254.here hx rfl (hb hby at_44) rfl rfl (XS.iconst X254.here hx rfl (hb hby at_45) (XS.iconst X254.here hx rfl (hb hby at_46) k))) ?_
      show G T254 (mkF m 47 #[iv i0, iv i1, iv 3, rv w_LESS_THAN, iv 1, .unset, .unset] [.int 0, .int 3, .ref b248, .ref b248])
      have V'255 := V_b248
      obtain ⟨cl255, Ar255, qk255, sz255, nn255, hs255, ft255⟩ := V'255
      have hin255 : ¬ ((3 : Int32) < 0 ∨ cl255.slots.size ≤ ((3 : Int32)).toNatClampNeg) := inb_of sz255 ⟨by decide, by decide⟩
      obtain ⟨T256, h256, X256, e256, W256, st256⟩ := stZ X254 hx hZ e254 Ar255 (j := (3 : Int32)) hin255 (g := (mkF m 47 #[iv i0, iv i1, iv 3, rv w_LESS_THAN, iv 1, .unset, .unset] [.int 0, .int 3, .ref b248, .ref b248])) rfl rfl (hb hby at_47)
      have V_b248 : Arv Z h256 b248 k248 .boolean (12 : Int32) [(.int (nar .boolean (0 : Int32))), (.int (nar .boolean (1 : Int32))), (.int (nar .boolean (1 : Int32))), (.int (nar .boolean (0 : Int32))), (.int (0 : Int32)), (.int (0 : Int32)), (.int (0 : Int32)), (.int (0 : Int32)), (.int (0 : Int32)), (.int (0 : Int32)), (.int (0 : Int32)), (.int (0 : Int32))] (.int (0 : Int32)) := Arv.set Ar255 qk255 sz255 nn255 hs255 ft255 (fits_nar_bool _) W256 3 rfl (Nat.le_of_ble_eq_true rfl)
      have O := O.wr W256 g_b248
      have N := Fr.snoc X256 N g_b248
      refine gb st256 ?_
      show G T256 (mkF m 48 #[iv i0, iv i1, iv 3, rv w_LESS_THAN, iv 1, .unset, .unset] [.ref b248])
      refine gb (fun _ k => XS.dup X256.here hx rfl (hb hby at_48) rfl rfl (XS.iconst X256.here hx rfl (hb hby at_49) (XS.iconst X256.here hx rfl (hb hby at_50) k))) ?_
      show G T256 (mkF m 51 #[iv i0, iv i1, iv 3, rv w_LESS_THAN, iv 1, .unset, .unset] [.int 0, .int 4, .ref b248, .ref b248])
      have V'257 := V_b248
      obtain ⟨cl257, Ar257, qk257, sz257, nn257, hs257, ft257⟩ := V'257
      have hin257 : ¬ ((4 : Int32) < 0 ∨ cl257.slots.size ≤ ((4 : Int32)).toNatClampNeg) := inb_of sz257 ⟨by decide, by decide⟩
      obtain ⟨T258, h258, X258, e258, W258, st258⟩ := stZ X256 hx hZ e256 Ar257 (j := (4 : Int32)) hin257 (g := (mkF m 51 #[iv i0, iv i1, iv 3, rv w_LESS_THAN, iv 1, .unset, .unset] [.int 0, .int 4, .ref b248, .ref b248])) rfl rfl (hb hby at_51)
      have V_b248 : Arv Z h258 b248 k248 .boolean (12 : Int32) [(.int (nar .boolean (0 : Int32))), (.int (nar .boolean (1 : Int32))), (.int (nar .boolean (1 : Int32))), (.int (nar .boolean (0 : Int32))), (.int (nar .boolean (0 : Int32))), (.int (0 : Int32)), (.int (0 : Int32)), (.int (0 : Int32)), (.int (0 : Int32)), (.int (0 : Int32)), (.int (0 : Int32)), (.int (0 : Int32))] (.int (0 : Int32)) := Arv.set Ar257 qk257 sz257 nn257 hs257 ft257 (fits_nar_bool _) W258 4 rfl (Nat.le_of_ble_eq_true rfl)
      have O := O.wr W258 g_b248
      have N := Fr.snoc X258 N g_b248
      refine gb st258 ?_
      show G T258 (mkF m 52 #[iv i0, iv i1, iv 3, rv w_LESS_THAN, iv 1, .unset, .unset] [.ref b248])
      refine gb (fun _ k => XS.dup X258.here hx rfl (hb hby at_52) rfl rfl (XS.iconst X258.here hx rfl (hb hby at_53) (XS.iconst X258.here hx rfl (hb hby at_54) k))) ?_
      show G T258 (mkF m 55 #[iv i0, iv i1, iv 3, rv w_LESS_THAN, iv 1, .unset, .unset] [.int 1, .int 5, .ref b248, .ref b248])
      have V'259 := V_b248
      obtain ⟨cl259, Ar259, qk259, sz259, nn259, hs259, ft259⟩ := V'259
      have hin259 : ¬ ((5 : Int32) < 0 ∨ cl259.slots.size ≤ ((5 : Int32)).toNatClampNeg) := inb_of sz259 ⟨by decide, by decide⟩
      obtain ⟨T260, h260, X260, e260, W260, st260⟩ := stZ X258 hx hZ e258 Ar259 (j := (5 : Int32)) hin259 (g := (mkF m 55 #[iv i0, iv i1, iv 3, rv w_LESS_THAN, iv 1, .unset, .unset] [.int 1, .int 5, .ref b248, .ref b248])) rfl rfl (hb hby at_55)
      have V_b248 : Arv Z h260 b248 k248 .boolean (12 : Int32) [(.int (nar .boolean (0 : Int32))), (.int (nar .boolean (1 : Int32))), (.int (nar .boolean (1 : Int32))), (.int (nar .boolean (0 : Int32))), (.int (nar .boolean (0 : Int32))), (.int (nar .boolean (1 : Int32))), (.int (0 : Int32)), (.int (0 : Int32)), (.int (0 : Int32)), (.int (0 : Int32)), (.int (0 : Int32)), (.int (0 : Int32))] (.int (0 : Int32)) := Arv.set Ar259 qk259 sz259 nn259 hs259 ft259 (fits_nar_bool _) W260 5 rfl (Nat.le_of_ble_eq_true rfl)
      have O := O.wr W260 g_b248
      have N := Fr.snoc X260 N g_b248
      refine gb st260 ?_
      show G T260 (mkF m 56 #[iv i0, iv i1, iv 3, rv w_LESS_THAN, iv 1, .unset, .unset] [.ref b248])
      refine gb (fun _ k => XS.dup X260.here hx rfl (hb hby at_56) rfl rfl (XS.bipush X260.here hx rfl (hb hby at_57) (XS.iconst X260.here hx rfl (hb hby at_59) k))) ?_
      show G T260 (mkF m 60 #[iv i0, iv i1, iv 3, rv w_LESS_THAN, iv 1, .unset, .unset] [.int 1, .int 6, .ref b248, .ref b248])
      have V'261 := V_b248
      obtain ⟨cl261, Ar261, qk261, sz261, nn261, hs261, ft261⟩ := V'261
      have hin261 : ¬ ((6 : Int32) < 0 ∨ cl261.slots.size ≤ ((6 : Int32)).toNatClampNeg) := inb_of sz261 ⟨by decide, by decide⟩
      obtain ⟨T262, h262, X262, e262, W262, st262⟩ := stZ X260 hx hZ e260 Ar261 (j := (6 : Int32)) hin261 (g := (mkF m 60 #[iv i0, iv i1, iv 3, rv w_LESS_THAN, iv 1, .unset, .unset] [.int 1, .int 6, .ref b248, .ref b248])) rfl rfl (hb hby at_60)
      have V_b248 : Arv Z h262 b248 k248 .boolean (12 : Int32) [(.int (nar .boolean (0 : Int32))), (.int (nar .boolean (1 : Int32))), (.int (nar .boolean (1 : Int32))), (.int (nar .boolean (0 : Int32))), (.int (nar .boolean (0 : Int32))), (.int (nar .boolean (1 : Int32))), (.int (nar .boolean (1 : Int32))), (.int (0 : Int32)), (.int (0 : Int32)), (.int (0 : Int32)), (.int (0 : Int32)), (.int (0 : Int32))] (.int (0 : Int32)) := Arv.set Ar261 qk261 sz261 nn261 hs261 ft261 (fits_nar_bool _) W262 6 rfl (Nat.le_of_ble_eq_true rfl)
      have O := O.wr W262 g_b248
      have N := Fr.snoc X262 N g_b248
      refine gb st262 ?_
      show G T262 (mkF m 61 #[iv i0, iv i1, iv 3, rv w_LESS_THAN, iv 1, .unset, .unset] [.ref b248])
      refine gb (fun _ k => XS.dup X262.here hx rfl (hb hby at_61) rfl rfl (XS.bipush X262.here hx rfl (hb hby at_62) (XS.iconst X262.here hx rfl (hb hby at_64) k))) ?_
      show G T262 (mkF m 65 #[iv i0, iv i1, iv 3, rv w_LESS_THAN, iv 1, .unset, .unset] [.int 1, .int 7, .ref b248, .ref b248])
      have V'263 := V_b248
      obtain ⟨cl263, Ar263, qk263, sz263, nn263, hs263, ft263⟩ := V'263
      have hin263 : ¬ ((7 : Int32) < 0 ∨ cl263.slots.size ≤ ((7 : Int32)).toNatClampNeg) := inb_of sz263 ⟨by decide, by decide⟩
      obtain ⟨T264, h264, X264, e264, W264, st264⟩ := stZ X262 hx hZ e262 Ar263 (j := (7 : Int32)) hin263 (g := (mkF m 65 #[iv i0, iv i1, iv 3, rv w_LESS_THAN, iv 1, .unset, .unset] [.int 1, .int 7, .ref b248, .ref b248])) rfl rfl (hb hby at_65)
      have V_b248 : Arv Z h264 b248 k248 .boolean (12 : Int32) [(.int (nar .boolean (0 : Int32))), (.int (nar .boolean (1 : Int32))), (.int (nar .boolean (1 : Int32))), (.int (nar .boolean (0 : Int32))), (.int (nar .boolean (0 : Int32))), (.int (nar .boolean (1 : Int32))), (.int (nar .boolean (1 : Int32))), (.int (nar .boolean (1 : Int32))), (.int (0 : Int32)), (.int (0 : Int32)), (.int (0 : Int32)), (.int (0 : Int32))] (.int (0 : Int32)) := Arv.set Ar263 qk263 sz263 nn263 hs263 ft263 (fits_nar_bool _) W264 7 rfl (Nat.le_of_ble_eq_true rfl)
      have O := O.wr W264 g_b248
      have N := Fr.snoc X264 N g_b248
      refine gb st264 ?_
      show G T264 (mkF m 66 #[iv i0, iv i1, iv 3, rv w_LESS_THAN, iv 1, .unset, .unset] [.ref b248])
      refine gb (fun _ k => XS.dup X264.here hx rfl (hb hby at_66) rfl rfl (XS.bipush X264.here hx rfl (hb hby at_67) (XS.iconst X264.here hx rfl (hb hby at_69) k))) ?_
      show G T264 (mkF m 70 #[iv i0, iv i1, iv 3, rv w_LESS_THAN, iv 1, .unset, .unset] [.int 0, .int 8, .ref b248, .ref b248])
      have V'265 := V_b248
      obtain ⟨cl265, Ar265, qk265, sz265, nn265, hs265, ft265⟩ := V'265
      have hin265 : ¬ ((8 : Int32) < 0 ∨ cl265.slots.size ≤ ((8 : Int32)).toNatClampNeg) := inb_of sz265 ⟨by decide, by decide⟩
      obtain ⟨T266, h266, X266, e266, W266, st266⟩ := stZ X264 hx hZ e264 Ar265 (j := (8 : Int32)) hin265 (g := (mkF m 70 #[iv i0, iv i1, iv 3, rv w_LESS_THAN, iv 1, .unset, .unset] [.int 0, .int 8, .ref b248, .ref b248])) rfl rfl (hb hby at_70)
      have V_b248 : Arv Z h266 b248 k248 .boolean (12 : Int32) [(.int (nar .boolean (0 : Int32))), (.int (nar .boolean (1 : Int32))), (.int (nar .boolean (1 : Int32))), (.int (nar .boolean (0 : Int32))), (.int (nar .boolean (0 : Int32))), (.int (nar .boolean (1 : Int32))), (.int (nar .boolean (1 : Int32))), (.int (nar .boolean (1 : Int32))), (.int (nar .boolean (0 : Int32))), (.int (0 : Int32)), (.int (0 : Int32)), (.int (0 : Int32))] (.int (0 : Int32)) := Arv.set Ar265 qk265 sz265 nn265 hs265 ft265 (fits_nar_bool _) W266 8 rfl (Nat.le_of_ble_eq_true rfl)
      have O := O.wr W266 g_b248
      have N := Fr.snoc X266 N g_b248
      refine gb st266 ?_
      show G T266 (mkF m 71 #[iv i0, iv i1, iv 3, rv w_LESS_THAN, iv 1, .unset, .unset] [.ref b248])
      refine gb (fun _ k => XS.dup X266.here hx rfl (hb hby at_71) rfl rfl (XS.bipush X266.here hx rfl (hb hby at_72) (XS.iconst X266.here hx rfl (hb hby at_74) k))) ?_
      show G T266 (mkF m 75 #[iv i0, iv i1, iv 3, rv w_LESS_THAN, iv 1, .unset, .unset] [.int 1, .int 9, .ref b248, .ref b248])
      have V'267 := V_b248
      obtain ⟨cl267, Ar267, qk267, sz267, nn267, hs267, ft267⟩ := V'267
      have hin267 : ¬ ((9 : Int32) < 0 ∨ cl267.slots.size ≤ ((9 : Int32)).toNatClampNeg) := inb_of sz267 ⟨by decide, by decide⟩
      obtain ⟨T268, h268, X268, e268, W268, st268⟩ := stZ X266 hx hZ e266 Ar267 (j := (9 : Int32)) hin267 (g := (mkF m 75 #[iv i0, iv i1, iv 3, rv w_LESS_THAN, iv 1, .unset, .unset] [.int 1, .int 9, .ref b248, .ref b248])) rfl rfl (hb hby at_75)
      have V_b248 : Arv Z h268 b248 k248 .boolean (12 : Int32) [(.int (nar .boolean (0 : Int32))), (.int (nar .boolean (1 : Int32))), (.int (nar .boolean (1 : Int32))), (.int (nar .boolean (0 : Int32))), (.int (nar .boolean (0 : Int32))), (.int (nar .boolean (1 : Int32))), (.int (nar .boolean (1 : Int32))), (.int (nar .boolean (1 : Int32))), (.int (nar .boolean (0 : Int32))), (.int (nar .boolean (1 : Int32))), (.int (0 : Int32)), (.int (0 : Int32))] (.int (0 : Int32)) := Arv.set Ar267 qk267 sz267 nn267 hs267 ft267 (fits_nar_bool _) W268 9 rfl (Nat.le_of_ble_eq_true rfl)
      have O := O.wr W268 g_b248
      have N := Fr.snoc X268 N g_b248
      refine gb st268 ?_
      show G T268 (mkF m 76 #[iv i0, iv i1, iv 3, rv w_LESS_THAN, iv 1, .unset, .unset] [.ref b248])
      refine gb (fun _ k => XS.dup X268.here hx rfl (hb hby at_76) rfl rfl (XS.bipush X268.here hx rfl (hb hby at_77) (XS.iconst X268.here hx rfl (hb hby at_79) k))) ?_
      show G T268 (mkF m 80 #[iv i0, iv i1, iv 3, rv w_LESS_THAN, iv 1, .unset, .unset] [.int 0, .int 10, .ref b248, .ref b248])
      have V'269 := V_b248
      obtain ⟨cl269, Ar269, qk269, sz269, nn269, hs269, ft269⟩ := V'269
      have hin269 : ¬ ((10 : Int32) < 0 ∨ cl269.slots.size ≤ ((10 : Int32)).toNatClampNeg) := inb_of sz269 ⟨by decide, by decide⟩
      obtain ⟨T270, h270, X270, e270, W270, st270⟩ := stZ X268 hx hZ e268 Ar269 (j := (10 : Int32)) hin269 (g := (mkF m 80 #[iv i0, iv i1, iv 3, rv w_LESS_THAN, iv 1, .unset, .unset] [.int 0, .int 10, .ref b248, .ref b248])) rfl rfl (hb hby at_80)
      have V_b248 : Arv Z h270 b248 k248 .boolean (12 : Int32) [(.int (nar .boolean (0 : Int32))), (.int (nar .boolean (1 : Int32))), (.int (nar .boolean (1 : Int32))), (.int (nar .boolean (0 : Int32))), (.int (nar .boolean (0 : Int32))), (.int (nar .boolean (1 : Int32))), (.int (nar .boolean (1 : Int32))), (.int (nar .boolean (1 : Int32))), (.int (nar .boolean (0 : Int32))), (.int (nar .boolean (1 : Int32))), (.int (nar .boolean (0 : Int32))), (.int (0 : Int32))] (.int (0 : Int32)) := Arv.set Ar269 qk269 sz269 nn269 hs269 ft269 (fits_nar_bool _) W270 10 rfl (Nat.le_of_ble_eq_true rfl)
      have O := O.wr W270 g_b248
      have N := Fr.snoc X270 N g_b248
      refine gb st270 ?_
      show G T270 (mkF m 81 #[iv i0, iv i1, iv 3, rv w_LESS_THAN, iv 1, .unset, .unset] [.ref b248])
      refine gb (fun _ k => XS.dup X270.here hx rfl (hb hby at_81) rfl rfl (XS.bipush X270.here hx rfl (hb hby at_82) (XS.iconst X270.here hx rfl (hb hby at_84) k))) ?_
      show G T270 (mkF m 85 #[iv i0, iv i1, iv 3, rv w_LESS_THAN, iv 1, .unset, .unset] [.int 0, .int 11, .ref b248, .ref b248])
      have V'271 := V_b248
      obtain ⟨cl271, Ar271, qk271, sz271, nn271, hs271, ft271⟩ := V'271
      have hin271 : ¬ ((11 : Int32) < 0 ∨ cl271.slots.size ≤ ((11 : Int32)).toNatClampNeg) := inb_of sz271 ⟨by decide, by decide⟩
      obtain ⟨T272, h272, X272, e272, W272, st272⟩ := stZ X270 hx hZ e270 Ar271 (j := (11 : Int32)) hin271 (g := (mkF m 85 #[iv i0, iv i1, iv 3, rv w_LESS_THAN, iv 1, .unset, .unset] [.int 0, .int 11, .ref b248, .ref b248])) rfl rfl (hb hby at_85)
      have V_b248 : Arv Z h272 b248 k248 .boolean (12 : Int32) [(.int (nar .boolean (0 : Int32))), (.int (nar .boolean (1 : Int32))), (.int (nar .boolean (1 : Int32))), (.int (nar .boolean (0 : Int32))), (.int (nar .boolean (0 : Int32))), (.int (nar .boolean (1 : Int32))), (.int (nar .boolean (1 : Int32))), (.int (nar .boolean (1 : Int32))), (.int (nar .boolean (0 : Int32))), (.int (nar .boolean (1 : Int32))), (.int (nar .boolean (0 : Int32))), (.int (nar .boolean (0 : Int32)))] (.int (0 : Int32)) := Arv.set Ar271 qk271 sz271 nn271 hs271 ft271 (fits_nar_bool _) W272 11 rfl (Nat.le_of_ble_eq_true rfl)
      have O := O.wr W272 g_b248
      have N := Fr.snoc X272 N g_b248
      refine gb st272 ?_
      show G T272 (mkF m 86 #[iv i0, iv i1, iv 3, rv w_LESS_THAN, iv 1, .unset, .unset] [.ref b248])
      refine gb (fun _ k => XS.astore X272.here hx rfl (hb hby at_86) rfl rfl (l' := #[iv i0, iv i1, iv 3, rv w_LESS_THAN, iv 1, rv b248, .unset]) rfl (XS.aload X272.here hx rfl (hb hby at_88) rfl rfl (XS.iloadN X272.here hx rfl (hb hby at_90) rfl (XS.iconst X272.here hx rfl (hb hby at_91) (XS.imul X272.here hx rfl (hb hby at_92) rfl (XS.iload X272.here hx rfl (hb hby at_93) rfl k)))))) ?_
      show G T272 (mkF m 95 #[iv i0, iv i1, iv 3, rv w_LESS_THAN, iv 1, rv b248, .unset] [.int 1, .int 9, .ref b248])
      refine gb (fun _ k => XS.iadd X272.here hx rfl (hb hby at_95) rfl (XS.iconst X272.here hx rfl (hb hby at_96) (XS.iadd X272.here hx rfl (hb hby at_97) rfl k))) ?_
      show G T272 (mkF m 98 #[iv i0, iv i1, iv 3, rv w_LESS_THAN, iv 1, rv b248, .unset] [.int 11, .ref b248])
      have V'273 := V_b248
      obtain ⟨cl273, Ar273, qk273, sz273, nn273, hs273, ft273⟩ := V'273
      have hin273 : ¬ ((11 : Int32) < 0 ∨ cl273.slots.size ≤ ((11 : Int32)).toNatClampNeg) := inb_of sz273 ⟨by decide, by decide⟩
      have hat273 : cl273.slots[((11 : Int32)).toNatClampNeg]? = some (.int (nar .boolean (0 : Int32))) := hs273.at hin273 rfl
      refine gb (X272.baloadBooleans hx (j := (11 : Int32)) (v := (.int (nar .boolean (0 : Int32)))) (by rw [e272]; exact Ar273.1) (State.isArrayOf_alike hZ.alike Ar273.2.1) Ar273.2.2 hin273 hat273 (g := (mkF m 98 #[iv i0, iv i1, iv 3, rv w_LESS_THAN, iv 1, rv b248, .unset] [.int 11, .ref b248])) rfl rfl (hb hby at_98)) ?_
      show G T272 (mkF m 99 #[iv i0, iv i1, iv 3, rv w_LESS_THAN, iv 1, rv b248, .unset] [.int (nar .boolean (0 : Int32))])
      refine gb (fun _ k => XS.istore X272.here hx rfl (hb hby at_99) rfl (l' := #[iv i0, iv i1, iv 3, rv w_LESS_THAN, iv 1, rv b248, iv (nar .boolean (0 : Int32))]) rfl (XS.aloadN X272.here hx rfl (hb hby at_101) rfl rfl (XS.iloadN X272.here hx rfl (hb hby at_102) rfl k))) ?_
      show G T272 (mkF m 103 #[iv i0, iv i1, iv 3, rv w_LESS_THAN, iv 1, rv b248, iv (nar .boolean (0 : Int32))] [.int i1, .ref w_LESS_THAN])
      obtain ⟨cq274, kq274, q274a, q274b, q274c⟩ := isOf hZ e272 (E_LESS_THAN.ext O.2)
      obtain ⟨_, _, ⟨T274, L274, k274, n274⟩, -, X274, ⟨Lc274, hQ274, l274, y274, z274⟩, st274⟩ := X272.virtualBack hx (y := (⟨"com/example/wrought_gate/wroughtgate/engine/Comparison", "admits", "(I)Z"⟩ : MethodName)) (z := (⟨"com/example/wrought_gate/wroughtgate/engine/Comparison", "admits", "(I)Z"⟩ : MethodName)) hown (mvT hZ (ow hw 8 rfl)) (mvT hZ (ow hw 9 rfl)) (notFace_of_selects (args := #[]) (mvT hZ (ow hw 11 rfl))) (mvT hZ (ow hw 11 rfl)) (mvT hZ (ow hw 10 rfl)) (by decide) (backOf (W := 0) (rm2_3 l Z a0 hw [] w_LESS_THAN i1 h272 n0 O (E_LESS_THAN.ext O.2) (F_ordinal_LESS_THAN.ext O.2)) hZ (ow hw 12 rfl) (ow hw 5 rfl) (by decide) (by decide)) q274a q274c (g := (mkF m 103 #[iv i0, iv i1, iv 3, rv w_LESS_THAN, iv 1, rv b248, iv (nar .boolean (0 : Int32))] [.int i1, .ref w_LESS_THAN])) rfl (by rw [hml]; rfl) (Steps.refl _) (argsL := [(.int i1)]) (rest := []) (lenOf pd_2 rfl) rfl (by show 2 * 0 + _ ≤ _; exact Nat.le_of_eq rfl) (hb hby at_103) (fun _ _ => ⟨rfl, e272, (by decide : 1 + 0 ≤ _), (by decide : 12 + 0 ≤ _)⟩)
      dsimp only [Pt.U, Pt.locs, Pt.cells, Pt.slots] at X274 l274 y274 z274 st274 hQ274
      subst l274 y274 z274
      obtain ⟨rfl, rfl, e274⟩ := hQ274
      try rw [List.append_nil] at X274
      refine gb (fun _ k => st274.trans k) ?_
      show G T274 (mkF m 106 #[iv i0, iv i1, iv 3, rv w_LESS_THAN, iv 1, rv b248, iv (nar .boolean (0 : Int32))] [.int (if i1 < (0 : Int32) then (1 : Int32) else (0 : Int32))])
      refine gb (fun _ k => XS.iload X274.here hx rfl (hb hby at_106) rfl (XS.icmpNo X274.here hx rfl (hb hby at_108) rfl (teq (show (if i1 < (0 : Int32) then (1 : Int32) else (0 : Int32)) = (nar .boolean (0 : Int32)) by simp only [hA, hB, not_true_eq_false, not_false_eq_true, if_true, if_false]; rfl)).2 (XS.iconst X274.here hx rfl (hb hby at_111) (XS.goto X274.here hx rfl (pc0 := 112) (pc' := 116) rfl (hb hby at_112) (by decide) (by decide) k)))) ?_
      show G T274 (mkF m 116 #[iv i0, iv i1, iv 3, rv w_LESS_THAN, iv 1, rv b248, iv (nar .boolean (0 : Int32))] [.int 1])
      exact go X274 (v := (some (.int (1 : Int32)))) (fun h => by rw [Bd.returns] at h; cases h) (fun fs hr => retOut X274 hx Bd.returns rfl (Or.inl ⟨rfl, by simp, _, rfl⟩) (hb hby at_116) hr) (⟨rfl, N⟩) (by decide) (by decide)
    · skip
      refine gb (fun _ k => XS.ifYes X247.here hx rfl (pc0 := 10) (pc' := 17) rfl (hb hby at_10) rfl ((if0 _ _).trans (flt hc10).2.2.2) (by decide) (by decide) (XS.iloadN X247.here hx rfl (hb hby at_17) rfl k)) ?_
      show G T247 (mkF m 18 #[iv i0, iv i1, iv 3, rv w_LESS_THAN, .unset, .unset, .unset] [.int i1])
      by_cases hc18 : i1 < (0 : Int32)
      · skip
        refine gb (fun _ k => XS.ifNo X247.here hx rfl (hb hby at_18) rfl ((if0 _ _).trans (tlt hc18).2.1) (XS.iconst X247.here hx rfl (hb hby at_21) (XS.goto X247.here hx rfl (pc0 := 22) (pc' := 26) rfl (hb hby at_22) (by decide) (by decide) k))) ?_
        show G T247 (mkF m 26 #[iv i0, iv i1, iv 3, rv w_LESS_THAN, .unset, .unset, .unset] [.int (-1)])
        have hA : i1 < (0 : Int32) := hc18
        have hB : ¬ ((0 : Int32) < i1) := own_asym hA
        refine gb (fun _ k => XS.istore X247.here hx rfl (hb hby at_26) rfl (l' := #[iv i0, iv i1, iv 3, rv w_LESS_THAN, iv (-1), .unset, .unset]) rfl (XS.bipush X247.here hx rfl (hb hby at_28) k)) ?_
        show G T247 (mkF m 30 #[iv i0, iv i1, iv 3, rv w_LESS_THAN, iv (-1), .unset, .unset] [.int 12])
        obtain ⟨T275, h275, k275, X275, e275, E275, A275, st275⟩ := newP X247 hx hZ (ow hw 7 rfl) e247 (g := (mkF m 30 #[iv i0, iv i1, iv 3, rv w_LESS_THAN, iv (-1), .unset, .unset] [.int 12])) rfl (hb hby at_30) rfl (by decide) (cap := 12) (by decide) (by decide) (by decide) (by decide)
        obtain ⟨b275, g275⟩ : ∃ z, z = h0.size := ⟨_, rfl⟩
        rw [← g275] at A275 st275
        have g_b275 : n0 ≤ b275 := Nat.le_trans (by have := O.2.1; rw [O.1] at this; exact this) (Nat.le_of_eq g275.symm)
        have O := O.ext E275
        have V_b275 : Arv Z h275 b275 k275 .boolean (12 : Int32) [(.int (0 : Int32)), (.int (0 : Int32)), (.int (0 : Int32)), (.int (0 : Int32)), (.int (0 : Int32)), (.int (0 : Int32)), (.int (0 : Int32)), (.int (0 : Int32)), (.int (0 : Int32)), (.int (0 : Int32)), (.int (0 : Int32)), (.int (0 : Int32))] (.int (0 : Int32)) := (Arv.new A275 (by decide)).pad (pad_rep [] (.int (0 : Int32)) 12)
        refine gb st275 ?_
        show G T275 (mkF m 32 #[iv i0, iv i1, iv 3, rv w_LESS_THAN, iv (-1), .unset, .unset] [.ref b275])
        refine gb (fun _ k => XS.dup X275.here hx rfl (hb hby at_32) rfl rfl (XS.iconst X275.here hx rfl (hb hby at_33) (XS.iconst X275.here hx rfl (hb hby at_34) k))) ?_
        show G T275 (mkF m 35 #[iv i0, iv i1, iv 3, rv w_LESS_THAN, iv (-1), .unset, .unset] [.int 0, .int 0, .ref b275, .ref b275])
        have V'276 := V_b275
        obtain ⟨cl276, Ar276, qk276, sz276, nn276, hs276, ft276⟩ := V'276
        have hin276 : ¬ ((0 : Int32) < 0 ∨ cl276.slots.size ≤ ((0 : Int32)).toNatClampNeg) := inb_of sz276 ⟨by decide, by decide⟩
        obtain ⟨T277, h277, X277, e277, W277, st277⟩ := stZ X275 hx hZ e275 Ar276 (j := (0 : Int32)) hin276 (g := (mkF m 35 #[iv i0, iv i1, iv 3, rv w_LESS_THAN, iv (-1), .unset, .unset] [.int 0, .int 0, .ref b275, .ref b275])) rfl rfl (hb hby at_35)
        have V_b275 : Arv Z h277 b275 k275 .boolean (12 : Int32) [(.int (nar .boolean (0 : Int32))), (.int (0 : Int32)), (.int (0 : Int32)), (.int (0 : Int32)), (.int (0 : Int32)), (.int (0 : Int32)), (.int (0 : Int32)), (.int (0 : Int32)), (.int (0 : Int32)), (.int (0 : Int32)), (.int (0 : Int32)), (.int (0 : Int32))] (.int (0 : Int32)) := Arv.set Ar276 qk276 sz276 nn276 hs276 ft276 (fits_nar_bool _) W277 0 rfl (Nat.le_of_ble_eq_true rfl)
        have O := O.wr W277 g_b275
        have N := Fr.snoc X277 N g_b275
        refine gb st277 ?_
        show G T277 (mkF m 36 #[iv i0, iv i1, iv 3, rv w_LESS_THAN, iv (-1), .unset, .unset] [.ref b275])
        refine gb (fun _ k => XS.dup X277.here hx rfl (hb hby at_36) rfl rfl (XS.iconst X277.here hx rfl (hb hby at_37) (XS.iconst X277.here hx rfl (hb hby at_38) k))) ?_
        show G T277 (mkF m 39 #[iv i0, iv i1, iv 3, rv w_LESS_THAN, iv (-1), .unset, .unset] [.int 1, .int 1, .ref b275, .ref b275])
        have V'278 := V_b275
        obtain ⟨cl278, Ar278, qk278, sz278, nn278, hs278, ft278⟩ := V'278
        have hin278 : ¬ ((1 : Int32) < 0 ∨ cl278.slots.size ≤ ((1 : Int32)).toNatClampNeg) := inb_of sz278 ⟨by decide, by decide⟩
        obtain ⟨T279, h279, X279, e279, W279, st279⟩ := stZ X277 hx hZ e277 Ar278 (j := (1 : Int32)) hin278 (g := (mkF m 39 #[iv i0, iv i1, iv 3, rv w_LESS_THAN, iv (-1), .unset, .unset] [.int 1, .int 1, .ref b275, .ref b275])) rfl rfl (hb hby at_39)
        have V_b275 : Arv Z h279 b275 k275 .boolean (12 : Int32) [(.int (nar .boolean (0 : Int32))), (.int (nar .boolean (1 : Int32))), (.int (0 : Int32)), (.int (0 : Int32)), (.int (0 : Int32)), (.int (0 : Int32)), (.int (0 : Int32)), (.int (0 : Int32)), (.int (0 : Int32)), (.int (0 : Int32)), (.int (0 : Int32)), (.int (0 : Int32))] (.int (0 : Int32)) := Arv.set Ar278 qk278 sz278 nn278 hs278 ft278 (fits_nar_bool _) W279 1 rfl (Nat.le_of_ble_eq_true rfl)
        have O := O.wr W279 g_b275
        have N := Fr.snoc X279 N g_b275
        refine gb st279 ?_
        show G T279 (mkF m 40 #[iv i0, iv i1, iv 3, rv w_LESS_THAN, iv (-1), .unset, .unset] [.ref b275])
        refine gb (fun _ k => XS.dup X279.here hx rfl (hb hby at_40) rfl rfl (XS.iconst X279.here hx rfl (hb hby at_41) (XS.iconst X279.here hx rfl (hb hby at_42) k))) ?_
        show G T279 (mkF m 43 #[iv i0, iv i1, iv 3, rv w_LESS_THAN, iv (-1), .unset, .unset] [.int 1, .int 2, .ref b275, .ref b275])
        have V'280 := V_b275
        obtain ⟨cl280, Ar280, qk280, sz280, nn280, hs280, ft280⟩ := V'280
        have hin280 : ¬ ((2 : Int32) < 0 ∨ cl280.slots.size ≤ ((2 : Int32)).toNatClampNeg) := inb_of sz280 ⟨by decide, by decide⟩
        obtain ⟨T281, h281, X281, e281, W281, st281⟩ := stZ X279 hx hZ e279 Ar280 (j := (2 : Int32)) hin280 (g := (mkF m 43 #[iv i0, iv i1, iv 3, rv w_LESS_THAN, iv (-1), .unset, .unset] [.int 1, .int 2, .ref b275, .ref b275])) rfl rfl (hb hby at_43)
        have V_b275 : Arv Z h281 b275 k275 .boolean (12 : Int32) [(.int (nar .boolean (0 : Int32))), (.int (nar .boolean (1 : Int32))), (.int (nar .boolean (1 : Int32))), (.int (0 : Int32)), (.int (0 : Int32)), (.int (0 : Int32)), (.int (0 : Int32)), (.int (0 : Int32)), (.int (0 : Int32)), (.int (0 : Int32)), (.int (0 : Int32)), (.int (0 : Int32))] (.int (0 : Int32)) := Arv.set Ar280 qk280 sz280 nn280 hs280 ft280 (fits_nar_bool _) W281 2 rfl (Nat.le_of_ble_eq_true rfl)
        have O := O.wr W281 g_b275
        have N := Fr.snoc X281 N g_b275
        refine gb st281 ?_
        show G T281 (mkF m 44 #[iv i0, iv i1, iv 3, rv w_LESS_THAN, iv (-1), .unset, .unset] [.ref b275])
        refine gb (fun _ k => XS.dup X281.here hx rfl (hb hby at_44) rfl rfl (XS.iconst X281.here hx rfl (hb hby at_45) (XS.iconst X281.here hx rfl (hb hby at_46) k))) ?_
        show G T281 (mkF m 47 #[iv i0, iv i1, iv 3, rv w_LESS_THAN, iv (-1), .unset, .unset] [.int 0, .int 3, .ref b275, .ref b275])
        have V'282 := V_b275
        obtain ⟨cl282, Ar282, qk282, sz282, nn282, hs282, ft282⟩ := V'282
        have hin282 : ¬ ((3 : Int32) < 0 ∨ cl282.slots.size ≤ ((3 : Int32)).toNatClampNeg) := inb_of sz282 ⟨by decide, by decide⟩
        obtain ⟨T283, h283, X283, e283, W283, st283⟩ := stZ X281 hx hZ e281 Ar282 (j := (3 : Int32)) hin282 (g := (mkF m 47 #[iv i0, iv i1, iv 3, rv w_LESS_THAN, iv (-1), .unset, .unset] [.int 0, .int 3, .ref b275, .ref b275])) rfl rfl (hb hby at_47)
        have V_b275 : Arv Z h283 b275 k275 .boolean (12 : Int32) [(.int (nar .boolean (0 : Int32))), (.int (nar .boolean (1 : Int32))), (.int (nar .boolean (1 : Int32))), (.int (nar .boolean (0 : Int32))), (.int (0 : Int32)), (.int (0 : Int32)), (.int (0 : Int32)), (.int (0 : Int32)), (.int (0 : Int32)), (.int (0 : Int32)), (.int (0 : Int32)), (.int (0 : Int32))] (.int (0 : Int32)) := Arv.set Ar282 qk282 sz282 nn282 hs282 ft282 (fits_nar_bool _) W283 3 rfl (Nat.le_of_ble_eq_true rfl)
        have O := O.wr W283 g_b275
        have N := Fr.snoc X283 N g_b275
        refine gb st283 ?_
        show G T283 (mkF m 48 #[iv i0, iv i1, iv 3, rv w_LESS_THAN, iv (-1), .unset, .unset] [.ref b275])
        refine gb (fun _ k => XS.dup X283.here hx rfl (hb hby at_48) rfl rfl (XS.iconst X283.here hx rfl (hb hby at_49) (XS.iconst X283.here hx rfl (hb hby at_50) k))) ?_
        show G T283 (mkF m 51 #[iv i0, iv i1, iv 3, rv w_LESS_THAN, iv (-1), .unset, .unset] [.int 0, .int 4, .ref b275, .ref b275])
        have V'284 := V_b275
        obtain ⟨cl284, Ar284, qk284, sz284, nn284, hs284, ft284⟩ := V'284
        have hin284 : ¬ ((4 : Int32) < 0 ∨ cl284.slots.size ≤ ((4 : Int32)).toNatClampNeg) := inb_of sz284 ⟨by decide, by decide⟩
        obtain ⟨T285, h285, X285, e285, W285, st285⟩ := stZ X283 hx hZ e283 Ar284 (j := (4 : Int32)) hin284 (g := (mkF m 51 #[iv i0, iv i1, iv 3, rv w_LESS_THAN, iv (-1), .unset, .unset] [.int 0, .int 4, .ref b275, .ref b275])) rfl rfl (hb hby at_51)
        have V_b275 : Arv Z h285 b275 k275 .boolean (12 : Int32) [(.int (nar .boolean (0 : Int32))), (.int (nar .boolean (1 : Int32))), (.int (nar .boolean (1 : Int32))), (.int (nar .boolean (0 : Int32))), (.int (nar .boolean (0 : Int32))), (.int (0 : Int32)), (.int (0 : Int32)), (.int (0 : Int32)), (.int (0 : Int32)), (.int (0 : Int32)), (.int (0 : Int32)), (.int (0 : Int32))] (.int (0 : Int32)) := Arv.set Ar284 qk284 sz284 nn284 hs284 ft284 (fits_nar_bool _) W285 4 rfl (Nat.le_of_ble_eq_true rfl)
        have O := O.wr W285 g_b275
        have N := Fr.snoc X285 N g_b275
        refine gb st285 ?_
        show G T285 (mkF m 52 #[iv i0, iv i1, iv 3, rv w_LESS_THAN, iv (-1), .unset, .unset] [.ref b275])
        refine gb (fun _ k => XS.dup X285.here hx rfl (hb hby at_52) rfl rfl (XS.iconst X285.here hx rfl (hb hby at_53) (XS.iconst X285.here hx rfl (hb hby at_54) k))) ?_
        show G T285 (mkF m 55 #[iv i0, iv i1, iv 3, rv w_LESS_THAN, iv (-1), .unset, .unset] [.int 1, .int 5, .ref b275, .ref b275])
        have V'286 := V_b275
        obtain ⟨cl286, Ar286, qk286, sz286, nn286, hs286, ft286⟩ := V'286
        have hin286 : ¬ ((5 : Int32) < 0 ∨ cl286.slots.size ≤ ((5 : Int32)).toNatClampNeg) := inb_of sz286 ⟨by decide, by decide⟩
        obtain ⟨T287, h287, X287, e287, W287, st287⟩ := stZ X285 hx hZ e285 Ar286 (j := (5 : Int32)) hin286 (g := (mkF m 55 #[iv i0, iv i1, iv 3, rv w_LESS_THAN, iv (-1), .unset, .unset] [.int 1, .int 5, .ref b275, .ref b275])) rfl rfl (hb hby at_55)
        have V_b275 : Arv Z h287 b275 k275 .boolean (12 : Int32) [(.int (nar .boolean (0 : Int32))), (.int (nar .boolean (1 : Int32))), (.int (nar .boolean (1 : Int32))), (.int (nar .boolean (0 : Int32))), (.int (nar .boolean (0 : Int32))), (.int (nar .boolean (1 : Int32))), (.int (0 : Int32)), (.int (0 : Int32)), (.int (0 : Int32)), (.int (0 : Int32)), (.int (0 : Int32)), (.int (0 : Int32))] (.int (0 : Int32)) := Arv.set Ar286 qk286 sz286 nn286 hs286 ft286 (fits_nar_bool _) W287 5 rfl (Nat.le_of_ble_eq_true rfl)
        have O := O.wr W287 g_b275
        have N := Fr.snoc X287 N g_b275
        refine gb st287 ?_
        show G T287 (mkF m 56 #[iv i0, iv i1, iv 3, rv w_LESS_THAN, iv (-1), .unset, .unset] [.ref b275])
        refine gb (fun _ k => XS.dup X287.here hx rfl (hb hby at_56) rfl rfl (XS.bipush X287.here hx rfl (hb hby at_57) (XS.iconst X287.here hx rfl (hb hby at_59) k))) ?_
        show G T287 (mkF m 60 #[iv i0, iv i1, iv 3, rv w_LESS_THAN, iv (-1), .unset, .unset] [.int 1, .int 6, .ref b275, .ref b275])
        have V'288 := V_b275
        obtain ⟨cl288, Ar288, qk288, sz288, nn288, hs288, ft288⟩ := V'288
        have hin288 : ¬ ((6 : Int32) < 0 ∨ cl288.slots.size ≤ ((6 : Int32)).toNatClampNeg) := inb_of sz288 ⟨by decide, by decide⟩
        obtain ⟨T289, h289, X289, e289, W289, st289⟩ := stZ X287 hx hZ e287 Ar288 (j := (6 : Int32)) hin288 (g := (mkF m 60 #[iv i0, iv i1, iv 3, rv w_LESS_THAN, iv (-1), .unset, .unset] [.int 1, .int 6, .ref b275, .ref b275])) rfl rfl (hb hby at_60)
        have V_b275 : Arv Z h289 b275 k275 .boolean (12 : Int32) [(.int (nar .boolean (0 : Int32))), (.int (nar .boolean (1 : Int32))), (.int (nar .boolean (1 : Int32))), (.int (nar .boolean (0 : Int32))), (.int (nar .boolean (0 : Int32))), (.int (nar .boolean (1 : Int32))), (.int (nar .boolean (1 : Int32))), (.int (0 : Int32)), (.int (0 : Int32)), (.int (0 : Int32)), (.int (0 : Int32)), (.int (0 : Int32))] (.int (0 : Int32)) := Arv.set Ar288 qk288 sz288 nn288 hs288 ft288 (fits_nar_bool _) W289 6 rfl (Nat.le_of_ble_eq_true rfl)
        have O := O.wr W289 g_b275
        have N := Fr.snoc X289 N g_b275
        refine gb st289 ?_
        show G T289 (mkF m 61 #[iv i0, iv i1, iv 3, rv w_LESS_THAN, iv (-1), .unset, .unset] [.ref b275])
        refine gb (fun _ k => XS.dup X289.here hx rfl (hb hby at_61) rfl rfl (XS.bipush X289.here hx rfl (hb hby at_62) (XS.iconst X289.here hx rfl (hb hby at_64) k))) ?_
        show G T289 (mkF m 65 #[iv i0, iv i1, iv 3, rv w_LESS_THAN, iv (-1), .unset, .unset] [.int 1, .int 7, .ref b275, .ref b275])
        have V'290 := V_b275
        obtain ⟨cl290, Ar290, qk290, sz290, nn290, hs290, ft290⟩ := V'290
        have hin290 : ¬ ((7 : Int32) < 0 ∨ cl290.slots.size ≤ ((7 : Int32)).toNatClampNeg) := inb_of sz290 ⟨by decide, by decide⟩
        obtain ⟨T291, h291, X291, e291, W291, st291⟩ := stZ X289 hx hZ e289 Ar290 (j := (7 : Int32)) hin290 (g := (mkF m 65 #[iv i0, iv i1, iv 3, rv w_LESS_THAN, iv (-1), .unset, .unset] [.int 1, .int 7, .ref b275, .ref b275])) rfl rfl (hb hby at_65)
        have V_b275 : Arv Z h291 b275 k275 .boolean (12 : Int32) [(.int (nar .boolean (0 : Int32))), (.int (nar .boolean (1 : Int32))), (.int (nar .boolean (1 : Int32))), (.int (nar .boolean (0 : Int32))), (.int (nar .boolean (0 : Int32))), (.int (nar .boolean (1 : Int32))), (.int (nar .boolean (1 : Int32))), (.int (nar .boolean (1 : Int32))), (.int (0 : Int32)), (.int (0 : Int32)), (.int (0 : Int32)), (.int (0 : Int32))] (.int (0 : Int32)) := Arv.set Ar290 qk290 sz290 nn290 hs290 ft290 (fits_nar_bool _) W291 7 rfl (Nat.le_of_ble_eq_true rfl)
        have O := O.wr W291 g_b275
        have N := Fr.snoc X291 N g_b275
        refine gb st291 ?_
        show G T291 (mkF m 66 #[iv i0, iv i1, iv 3, rv w_LESS_THAN, iv (-1), .unset, .unset] [.ref b275])
        refine gb (fun _ k => XS.dup X291.here hx rfl (hb hby at_66) rfl rfl (XS.bipush X291.here hx rfl (hb hby at_67) (XS.iconst X291.here hx rfl (hb hby at_69) k))) ?_
        show G T291 (mkF m 70 #[iv i0, iv i1, iv 3, rv w_LESS_THAN, iv (-1), .unset, .unset] [.int 0, .int 8, .ref b275, .ref b275])
        have V'292 := V_b275
        obtain ⟨cl292, Ar292, qk292, sz292, nn292, hs292, ft292⟩ := V'292
        have hin292 : ¬ ((8 : Int32) < 0 ∨ cl292.slots.size ≤ ((8 : Int32)).toNatClampNeg) := inb_of sz292 ⟨by decide, by decide⟩
        obtain ⟨T293, h293, X293, e293, W293, st293⟩ := stZ X291 hx hZ e291 Ar292 (j := (8 : Int32)) hin292 (g := (mkF m 70 #[iv i0, iv i1, iv 3, rv w_LESS_THAN, iv (-1), .unset, .unset] [.int 0, .int 8, .ref b275, .ref b275])) rfl rfl (hb hby at_70)
        have V_b275 : Arv Z h293 b275 k275 .boolean (12 : Int32) [(.int (nar .boolean (0 : Int32))), (.int (nar .boolean (1 : Int32))), (.int (nar .boolean (1 : Int32))), (.int (nar .boolean (0 : Int32))), (.int (nar .boolean (0 : Int32))), (.int (nar .boolean (1 : Int32))), (.int (nar .boolean (1 : Int32))), (.int (nar .boolean (1 : Int32))), (.int (nar .boolean (0 : Int32))), (.int (0 : Int32)), (.int (0 : Int32)), (.int (0 : Int32))] (.int (0 : Int32)) := Arv.set Ar292 qk292 sz292 nn292 hs292 ft292 (fits_nar_bool _) W293 8 rfl (Nat.le_of_ble_eq_true rfl)
        have O := O.wr W293 g_b275
        have N := Fr.snoc X293 N g_b275
        refine gb st293 ?_
        show G T293 (mkF m 71 #[iv i0, iv i1, iv 3, rv w_LESS_THAN, iv (-1), .unset, .unset] [.ref b275])
        refine gb (fun _ k => XS.dup X293.here hx rfl (hb hby at_71) rfl rfl (XS.bipush X293.here hx rfl (hb hby at_72) (XS.iconst X293.here hx rfl (hb hby at_74) k))) ?_
        show G T293 (mkF m 75 #[iv i0, iv i1, iv 3, rv w_LESS_THAN, iv (-1), .unset, .unset] [.int 1, .int 9, .ref b275, .ref b275])
        have V'294 := V_b275
        obtain ⟨cl294, Ar294, qk294, sz294, nn294, hs294, ft294⟩ := V'294
        have hin294 : ¬ ((9 : Int32) < 0 ∨ cl294.slots.size ≤ ((9 : Int32)).toNatClampNeg) := inb_of sz294 ⟨by decide, by decide⟩
        obtain ⟨T295, h295, X295, e295, W295, st295⟩ := stZ X293 hx hZ e293 Ar294 (j := (9 : Int32)) hin294 (g := (mkF m 75 #[iv i0, iv i1, iv 3, rv w_LESS_THAN, iv (-1), .unset, .unset] [.int 1, .int 9, .ref b275, .ref b275])) rfl rfl (hb hby at_75)
        have V_b275 : Arv Z h295 b275 k275 .boolean (12 : Int32) [(.int (nar .boolean (0 : Int32))), (.int (nar .boolean (1 : Int32))), (.int (nar .boolean (1 : Int32))), (.int (nar .boolean (0 : Int32))), (.int (nar .boolean (0 : Int32))), (.int (nar .boolean (1 : Int32))), (.int (nar .boolean (1 : Int32))), (.int (nar .boolean (1 : Int32))), (.int (nar .boolean (0 : Int32))), (.int (nar .boolean (1 : Int32))), (.int (0 : Int32)), (.int (0 : Int32))] (.int (0 : Int32)) := Arv.set Ar294 qk294 sz294 nn294 hs294 ft294 (fits_nar_bool _) W295 9 rfl (Nat.le_of_ble_eq_true rfl)
        have O := O.wr W295 g_b275
        have N := Fr.snoc X295 N g_b275
        refine gb st295 ?_
        show G T295 (mkF m 76 #[iv i0, iv i1, iv 3, rv w_LESS_THAN, iv (-1), .unset, .unset] [.ref b275])
        refine gb (fun _ k => XS.dup X295.here hx rfl (hb hby at_76) rfl rfl (XS.bipush X295.here hx rfl (hb hby at_77) (XS.iconst X295.here hx rfl (hb hby at_79) k))) ?_
        show G T295 (mkF m 80 #[iv i0, iv i1, iv 3, rv w_LESS_THAN, iv (-1), .unset, .unset] [.int 0, .int 10, .ref b275, .ref b275])
        have V'296 := V_b275
        obtain ⟨cl296, Ar296, qk296, sz296, nn296, hs296, ft296⟩ := V'296
        have hin296 : ¬ ((10 : Int32) < 0 ∨ cl296.slots.size ≤ ((10 : Int32)).toNatClampNeg) := inb_of sz296 ⟨by decide, by decide⟩
        obtain ⟨T297, h297, X297, e297, W297, st297⟩ := stZ X295 hx hZ e295 Ar296 (j := (10 : Int32)) hin296 (g := (mkF m 80 #[iv i0, iv i1, iv 3, rv w_LESS_THAN, iv (-1), .unset, .unset] [.int 0, .int 10, .ref b275, .ref b275])) rfl rfl (hb hby at_80)
        have V_b275 : Arv Z h297 b275 k275 .boolean (12 : Int32) [(.int (nar .boolean (0 : Int32))), (.int (nar .boolean (1 : Int32))), (.int (nar .boolean (1 : Int32))), (.int (nar .boolean (0 : Int32))), (.int (nar .boolean (0 : Int32))), (.int (nar .boolean (1 : Int32))), (.int (nar .boolean (1 : Int32))), (.int (nar .boolean (1 : Int32))), (.int (nar .boolean (0 : Int32))), (.int (nar .boolean (1 : Int32))), (.int (nar .boolean (0 : Int32))), (.int (0 : Int32))] (.int (0 : Int32)) := Arv.set Ar296 qk296 sz296 nn296 hs296 ft296 (fits_nar_bool _) W297 10 rfl (Nat.le_of_ble_eq_true rfl)
        have O := O.wr W297 g_b275
        have N := Fr.snoc X297 N g_b275
        refine gb st297 ?_
        show G T297 (mkF m 81 #[iv i0, iv i1, iv 3, rv w_LESS_THAN, iv (-1), .unset, .unset] [.ref b275])
        refine gb (fun _ k => XS.dup X297.here hx rfl (hb hby at_81) rfl rfl (XS.bipush X297.here hx rfl (hb hby at_82) (XS.iconst X297.here hx rfl (hb hby at_84) k))) ?_
        show G T297 (mkF m 85 #[iv i0, iv i1, iv 3, rv w_LESS_THAN, iv (-1), .unset, .unset] [.int 0, .int 11, .ref b275, .ref b275])
        have V'298 := V_b275
        obtain ⟨cl298, Ar298, qk298, sz298, nn298, hs298, ft298⟩ := V'298
        have hin298 : ¬ ((11 : Int32) < 0 ∨ cl298.slots.size ≤ ((11 : Int32)).toNatClampNeg) := inb_of sz298 ⟨by decide, by decide⟩
        obtain ⟨T299, h299, X299, e299, W299, st299⟩ := stZ X297 hx hZ e297 Ar298 (j := (11 : Int32)) hin298 (g := (mkF m 85 #[iv i0, iv i1, iv 3, rv w_LESS_THAN, iv (-1), .unset, .unset] [.int 0, .int 11, .ref b275, .ref b275])) rfl rfl (hb hby at_85)
        have V_b275 : Arv Z h299 b275 k275 .boolean (12 : Int32) [(.int (nar .boolean (0 : Int32))), (.int (nar .boolean (1 : Int32))), (.int (nar .boolean (1 : Int32))), (.int (nar .boolean (0 : Int32))), (.int (nar .boolean (0 : Int32))), (.int (nar .boolean (1 : Int32))), (.int (nar .boolean (1 : Int32))), (.int (nar .boolean (1 : Int32))), (.int (nar .boolean (0 : Int32))), (.int (nar .boolean (1 : Int32))), (.int (nar .boolean (0 : Int32))), (.int (nar .boolean (0 : Int32)))] (.int (0 : Int32)) := Arv.set Ar298 qk298 sz298 nn298 hs298 ft298 (fits_nar_bool _) W299 11 rfl (Nat.le_of_ble_eq_true rfl)
        have O := O.wr W299 g_b275
        have N := Fr.snoc X299 N g_b275
        refine gb st299 ?_
        show G T299 (mkF m 86 #[iv i0, iv i1, iv 3, rv w_LESS_THAN, iv (-1), .unset, .unset] [.ref b275])
        refine gb (fun _ k => XS.astore X299.here hx rfl (hb hby at_86) rfl rfl (l' := #[iv i0, iv i1, iv 3, rv w_LESS_THAN, iv (-1), rv b275, .unset]) rfl (XS.aload X299.here hx rfl (hb hby at_88) rfl rfl (XS.iloadN X299.here hx rfl (hb hby at_90) rfl (XS.iconst X299.here hx rfl (hb hby at_91) (XS.imul X299.here hx rfl (hb hby at_92) rfl (XS.iload X299.here hx rfl (hb hby at_93) rfl k)))))) ?_
        show G T299 (mkF m 95 #[iv i0, iv i1, iv 3, rv w_LESS_THAN, iv (-1), rv b275, .unset] [.int (-1), .int 9, .ref b275])
        refine gb (fun _ k => XS.iadd X299.here hx rfl (hb hby at_95) rfl (XS.iconst X299.here hx rfl (hb hby at_96) (XS.iadd X299.here hx rfl (hb hby at_97) rfl k))) ?_
        show G T299 (mkF m 98 #[iv i0, iv i1, iv 3, rv w_LESS_THAN, iv (-1), rv b275, .unset] [.int 9, .ref b275])
        have V'300 := V_b275
        obtain ⟨cl300, Ar300, qk300, sz300, nn300, hs300, ft300⟩ := V'300
        have hin300 : ¬ ((9 : Int32) < 0 ∨ cl300.slots.size ≤ ((9 : Int32)).toNatClampNeg) := inb_of sz300 ⟨by decide, by decide⟩
        have hat300 : cl300.slots[((9 : Int32)).toNatClampNeg]? = some (.int (nar .boolean (1 : Int32))) := hs300.at hin300 rfl
        refine gb (X299.baloadBooleans hx (j := (9 : Int32)) (v := (.int (nar .boolean (1 : Int32)))) (by rw [e299]; exact Ar300.1) (State.isArrayOf_alike hZ.alike Ar300.2.1) Ar300.2.2 hin300 hat300 (g := (mkF m 98 #[iv i0, iv i1, iv 3, rv w_LESS_THAN, iv (-1), rv b275, .unset] [.int 9, .ref b275])) rfl rfl (hb hby at_98)) ?_
        show G T299 (mkF m 99 #[iv i0, iv i1, iv 3, rv w_LESS_THAN, iv (-1), rv b275, .unset] [.int (nar .boolean (1 : Int32))])
        refine gb (fun _ k => XS.istore X299.here hx rfl (hb hby at_99) rfl (l' := #[iv i0, iv i1, iv 3, rv w_LESS_THAN, iv (-1), rv b275, iv (nar .boolean (1 : Int32))]) rfl (XS.aloadN X299.here hx rfl (hb hby at_101) rfl rfl (XS.iloadN X299.here hx rfl (hb hby at_102) rfl k))) ?_
        show G T299 (mkF m 103 #[iv i0, iv i1, iv 3, rv w_LESS_THAN, iv (-1), rv b275, iv (nar .boolean (1 : Int32))] [.int i1, .ref w_LESS_THAN])
        obtain ⟨cq301, kq301, q301a, q301b, q301c⟩ := isOf hZ e299 (E_LESS_THAN.ext O.2)
        obtain ⟨_, _, ⟨T301, L301, k301, n301⟩, -, X301, ⟨Lc301, hQ301, l301, y301, z301⟩, st301⟩ := X299.virtualBack hx (y := (⟨"com/example/wrought_gate/wroughtgate/engine/Comparison", "admits", "(I)Z"⟩ : MethodName)) (z := (⟨"com/example/wrought_gate/wroughtgate/engine/Comparison", "admits", "(I)Z"⟩ : MethodName)) hown (mvT hZ (ow hw 8 rfl)) (mvT hZ (ow hw 9 rfl)) (notFace_of_selects (args := #[]) (mvT hZ (ow hw 11 rfl))) (mvT hZ (ow hw 11 rfl)) (mvT hZ (ow hw 10 rfl)) (by decide) (backOf (W := 0) (rm2_3 l Z a0 hw [] w_LESS_THAN i1 h299 n0 O (E_LESS_THAN.ext O.2) (F_ordinal_LESS_THAN.ext O.2)) hZ (ow hw 12 rfl) (ow hw 5 rfl) (by decide) (by decide)) q301a q301c (g := (mkF m 103 #[iv i0, iv i1, iv 3, rv w_LESS_THAN, iv (-1), rv b275, iv (nar .boolean (1 : Int32))] [.int i1, .ref w_LESS_THAN])) rfl (by rw [hml]; rfl) (Steps.refl _) (argsL := [(.int i1)]) (rest := []) (lenOf pd_2 rfl) rfl (by show 2 * 0 + _ ≤ _; exact Nat.le_of_eq rfl) (hb hby at_103) (fun _ _ => ⟨rfl, e299, (by decide : 1 + 0 ≤ _), (by decide : 12 + 0 ≤ _)⟩)
        dsimp only [Pt.U, Pt.locs, Pt.cells, Pt.slots] at X301 l301 y301 z301 st301 hQ301
        subst l301 y301 z301
        obtain ⟨rfl, rfl, e301⟩ := hQ301
        try rw [List.append_nil] at X301
        refine gb (fun _ k => st301.trans k) ?_
        show G T301 (mkF m 106 #[iv i0, iv i1, iv 3, rv w_LESS_THAN, iv (-1), rv b275, iv (nar .boolean (1 : Int32))] [.int (if i1 < (0 : Int32) then (1 : Int32) else (0 : Int32))])
        refine gb (fun _ k => XS.iload X301.here hx rfl (hb hby at_106) rfl (XS.icmpNo X301.here hx rfl (hb hby at_108) rfl (teq (show (if i1 < (0 : Int32) then (1 : Int32) else (0 : Int32)) = (nar .boolean (1 : Int32)) by simp only [hA, hB, not_true_eq_false, not_false_eq_true, if_true, if_false]; rfl)).2 (XS.iconst X301.here hx rfl (hb hby at_111) (XS.goto X301.here hx rfl (pc0 := 112) (pc' := 116) rfl (hb hby at_112) (by decide) (by decide) k)))) ?_
        show G T301 (mkF m 116 #[iv i0, iv i1, iv 3, rv w_LESS_THAN, iv (-1), rv b275, iv (nar .boolean (1 : Int32))] [.int 1])
        exact go X301 (v := (some (.int (1 : Int32)))) (fun h => by rw [Bd.returns] at h; cases h) (fun fs hr => retOut X301 hx Bd.returns rfl (Or.inl ⟨rfl, by simp, _, rfl⟩) (hb hby at_116) hr) (⟨rfl, N⟩) (by decide) (by decide)
      · skip
        refine gb (fun _ k => XS.ifYes X247.here hx rfl (pc0 := 18) (pc' := 25) rfl (hb hby at_18) rfl ((if0 _ _).trans (flt hc18).2.1) (by decide) (by decide) (XS.iconst X247.here hx rfl (hb hby at_25) k)) ?_
        show G T247 (mkF m 26 #[iv i0, iv i1, iv 3, rv w_LESS_THAN, .unset, .unset, .unset] [.int 0])
        have hA : ¬ (i1 < (0 : Int32)) := hc18
        have hB : ¬ ((0 : Int32) < i1) := hc10
        refine gb (fun _ k => XS.istore X247.here hx rfl (hb hby at_26) rfl (l' := #[iv i0, iv i1, iv 3, rv w_LESS_THAN, iv 0, .unset, .unset]) rfl (XS.bipush X247.here hx rfl (hb hby at_28) k)) ?_
        show G T247 (mkF m 30 #[iv i0, iv i1, iv 3, rv w_LESS_THAN, iv 0, .unset, .unset] [.int 12])
        obtain ⟨T302, h302, k302, X302, e302, E302, A302, st302⟩ := newP X247 hx hZ (ow hw 7 rfl) e247 (g := (mkF m 30 #[iv i0, iv i1, iv 3, rv w_LESS_THAN, iv 0, .unset, .unset] [.int 12])) rfl (hb hby at_30) rfl (by decide) (cap := 12) (by decide) (by decide) (by decide) (by decide)
        obtain ⟨b302, g302⟩ : ∃ z, z = h0.size := ⟨_, rfl⟩
        rw [← g302] at A302 st302
        have g_b302 : n0 ≤ b302 := Nat.le_trans (by have := O.2.1; rw [O.1] at this; exact this) (Nat.le_of_eq g302.symm)
        have O := O.ext E302
        have V_b302 : Arv Z h302 b302 k302 .boolean (12 : Int32) [(.int (0 : Int32)), (.int (0 : Int32)), (.int (0 : Int32)), (.int (0 : Int32)), (.int (0 : Int32)), (.int (0 : Int32)), (.int (0 : Int32)), (.int (0 : Int32)), (.int (0 : Int32)), (.int (0 : Int32)), (.int (0 : Int32)), (.int (0 : Int32))] (.int (0 : Int32)) := (Arv.new A302 (by decide)).pad (pad_rep [] (.int (0 : Int32)) 12)
        refine gb st302 ?_
        show G T302 (mkF m 32 #[iv i0, iv i1, iv 3, rv w_LESS_THAN, iv 0, .unset, .unset] [.ref b302])
        refine gb (fun _ k => XS.dup X302.here hx rfl (hb hby at_32) rfl rfl (XS.iconst X302.here hx rfl (hb hby at_33) (XS.iconst X302.here hx rfl (hb hby at_34) k))) ?_
        show G T302 (mkF m 35 #[iv i0, iv i1, iv 3, rv w_LESS_THAN, iv 0, .unset, .unset] [.int 0, .int 0, .ref b302, .ref b302])
        have V'303 := V_b302
        obtain ⟨cl303, Ar303, qk303, sz303, nn303, hs303, ft303⟩ := V'303
        have hin303 : ¬ ((0 : Int32) < 0 ∨ cl303.slots.size ≤ ((0 : Int32)).toNatClampNeg) := inb_of sz303 ⟨by decide, by decide⟩
        obtain ⟨T304, h304, X304, e304, W304, st304⟩ := stZ X302 hx hZ e302 Ar303 (j := (0 : Int32)) hin303 (g := (mkF m 35 #[iv i0, iv i1, iv 3, rv w_LESS_THAN, iv 0, .unset, .unset] [.int 0, .int 0, .ref b302, .ref b302])) rfl rfl (hb hby at_35)
        have V_b302 : Arv Z h304 b302 k302 .boolean (12 : Int32) [(.int (nar .boolean (0 : Int32))), (.int (0 : Int32)), (.int (0 : Int32)), (.int (0 : Int32)), (.int (0 : Int32)), (.int (0 : Int32)), (.int (0 : Int32)), (.int (0 : Int32)), (.int (0 : Int32)), (.int (0 : Int32)), (.int (0 : Int32)), (.int (0 : Int32))] (.int (0 : Int32)) := Arv.set Ar303 qk303 sz303 nn303 hs303 ft303 (fits_nar_bool _) W304 0 rfl (Nat.le_of_ble_eq_true rfl)
        have O := O.wr W304 g_b302
        have N := Fr.snoc X304 N g_b302
        refine gb st304 ?_
        show G T304 (mkF m 36 #[iv i0, iv i1, iv 3, rv w_LESS_THAN, iv 0, .unset, .unset] [.ref b302])
        refine gb (fun _ k => XS.dup X304.here hx rfl (hb hby at_36) rfl rfl (XS.iconst X304.here hx rfl (hb hby at_37) (XS.iconst X304.here hx rfl (hb hby at_38) k))) ?_
        show G T304 (mkF m 39 #[iv i0, iv i1, iv 3, rv w_LESS_THAN, iv 0, .unset, .unset] [.int 1, .int 1, .ref b302, .ref b302])
        have V'305 := V_b302
        obtain ⟨cl305, Ar305, qk305, sz305, nn305, hs305, ft305⟩ := V'305
        have hin305 : ¬ ((1 : Int32) < 0 ∨ cl305.slots.size ≤ ((1 : Int32)).toNatClampNeg) := inb_of sz305 ⟨by decide, by decide⟩
        obtain ⟨T306, h306, X306, e306, W306, st306⟩ := stZ X304 hx hZ e304 Ar305 (j := (1 : Int32)) hin305 (g := (mkF m 39 #[iv i0, iv i1, iv 3, rv w_LESS_THAN, iv 0, .unset, .unset] [.int 1, .int 1, .ref b302, .ref b302])) rfl rfl (hb hby at_39)
        have V_b302 : Arv Z h306 b302 k302 .boolean (12 : Int32) [(.int (nar .boolean (0 : Int32))), (.int (nar .boolean (1 : Int32))), (.int (0 : Int32)), (.int (0 : Int32)), (.int (0 : Int32)), (.int (0 : Int32)), (.int (0 : Int32)), (.int (0 : Int32)), (.int (0 : Int32)), (.int (0 : Int32)), (.int (0 : Int32)), (.int (0 : Int32))] (.int (0 : Int32)) := Arv.set Ar305 qk305 sz305 nn305 hs305 ft305 (fits_nar_bool _) W306 1 rfl (Nat.le_of_ble_eq_true rfl)
        have O := O.wr W306 g_b302
        have N := Fr.snoc X306 N g_b302
        refine gb st306 ?_
        show G T306 (mkF m 40 #[iv i0, iv i1, iv 3, rv w_LESS_THAN, iv 0, .unset, .unset] [.ref b302])
        refine gb (fun _ k => XS.dup X306.here hx rfl (hb hby at_40) rfl rfl (XS.iconst X306.here hx rfl (hb hby at_41) (XS.iconst X306.here hx rfl (hb hby at_42) k))) ?_
        show G T306 (mkF m 43 #[iv i0, iv i1, iv 3, rv w_LESS_THAN, iv 0, .unset, .unset] [.int 1, .int 2, .ref b302, .ref b302])
        have V'307 := V_b302
        obtain ⟨cl307, Ar307, qk307, sz307, nn307, hs307, ft307⟩ := V'307
        have hin307 : ¬ ((2 : Int32) < 0 ∨ cl307.slots.size ≤ ((2 : Int32)).toNatClampNeg) := inb_of sz307 ⟨by decide, by decide⟩
        obtain ⟨T308, h308, X308, e308, W308, st308⟩ := stZ X306 hx hZ e306 Ar307 (j := (2 : Int32)) hin307 (g := (mkF m 43 #[iv i0, iv i1, iv 3, rv w_LESS_THAN, iv 0, .unset, .unset] [.int 1, .int 2, .ref b302, .ref b302])) rfl rfl (hb hby at_43)
        have V_b302 : Arv Z h308 b302 k302 .boolean (12 : Int32) [(.int (nar .boolean (0 : Int32))), (.int (nar .boolean (1 : Int32))), (.int (nar .boolean (1 : Int32))), (.int (0 : Int32)), (.int (0 : Int32)), (.int (0 : Int32)), (.int (0 : Int32)), (.int (0 : Int32)), (.int (0 : Int32)), (.int (0 : Int32)), (.int (0 : Int32)), (.int (0 : Int32))] (.int (0 : Int32)) := Arv.set Ar307 qk307 sz307 nn307 hs307 ft307 (fits_nar_bool _) W308 2 rfl (Nat.le_of_ble_eq_true rfl)
        have O := O.wr W308 g_b302
        have N := Fr.snoc X308 N g_b302
        refine gb st308 ?_
        show G T308 (mkF m 44 #[iv i0, iv i1, iv 3, rv w_LESS_THAN, iv 0, .unset, .unset] [.ref b302])
        refine gb (fun _ k => XS.dup X308.here hx rfl (hb hby at_44) rfl rfl (XS.iconst X308.here hx rfl (hb hby at_45) (XS.iconst X308.here hx rfl (hb hby at_46) k))) ?_
        show G T308 (mkF m 47 #[iv i0, iv i1, iv 3, rv w_LESS_THAN, iv 0, .unset, .unset] [.int 0, .int 3, .ref b302, .ref b302])
        have V'309 := V_b302
        obtain ⟨cl309, Ar309, qk309, sz309, nn309, hs309, ft309⟩ := V'309
        have hin309 : ¬ ((3 : Int32) < 0 ∨ cl309.slots.size ≤ ((3 : Int32)).toNatClampNeg) := inb_of sz309 ⟨by decide, by decide⟩
        obtain ⟨T310, h310, X310, e310, W310, st310⟩ := stZ X308 hx hZ e308 Ar309 (j := (3 : Int32)) hin309 (g := (mkF m 47 #[iv i0, iv i1, iv 3, rv w_LESS_THAN, iv 0, .unset, .unset] [.int 0, .int 3, .ref b302, .ref b302])) rfl rfl (hb hby at_47)
        have V_b302 : Arv Z h310 b302 k302 .boolean (12 : Int32) [(.int (nar .boolean (0 : Int32))), (.int (nar .boolean (1 : Int32))), (.int (nar .boolean (1 : Int32))), (.int (nar .boolean (0 : Int32))), (.int (0 : Int32)), (.int (0 : Int32)), (.int (0 : Int32)), (.int (0 : Int32)), (.int (0 : Int32)), (.int (0 : Int32)), (.int (0 : Int32)), (.int (0 : Int32))] (.int (0 : Int32)) := Arv.set Ar309 qk309 sz309 nn309 hs309 ft309 (fits_nar_bool _) W310 3 rfl (Nat.le_of_ble_eq_true rfl)
        have O := O.wr W310 g_b302
        have N := Fr.snoc X310 N g_b302
        refine gb st310 ?_
        show G T310 (mkF m 48 #[iv i0, iv i1, iv 3, rv w_LESS_THAN, iv 0, .unset, .unset] [.ref b302])
        refine gb (fun _ k => XS.dup X310.here hx rfl (hb hby at_48) rfl rfl (XS.iconst X310.here hx rfl (hb hby at_49) (XS.iconst X310.here hx rfl (hb hby at_50) k))) ?_
        show G T310 (mkF m 51 #[iv i0, iv i1, iv 3, rv w_LESS_THAN, iv 0, .unset, .unset] [.int 0, .int 4, .ref b302, .ref b302])
        have V'311 := V_b302
        obtain ⟨cl311, Ar311, qk311, sz311, nn311, hs311, ft311⟩ := V'311
        have hin311 : ¬ ((4 : Int32) < 0 ∨ cl311.slots.size ≤ ((4 : Int32)).toNatClampNeg) := inb_of sz311 ⟨by decide, by decide⟩
        obtain ⟨T312, h312, X312, e312, W312, st312⟩ := stZ X310 hx hZ e310 Ar311 (j := (4 : Int32)) hin311 (g := (mkF m 51 #[iv i0, iv i1, iv 3, rv w_LESS_THAN, iv 0, .unset, .unset] [.int 0, .int 4, .ref b302, .ref b302])) rfl rfl (hb hby at_51)
        have V_b302 : Arv Z h312 b302 k302 .boolean (12 : Int32) [(.int (nar .boolean (0 : Int32))), (.int (nar .boolean (1 : Int32))), (.int (nar .boolean (1 : Int32))), (.int (nar .boolean (0 : Int32))), (.int (nar .boolean (0 : Int32))), (.int (0 : Int32)), (.int (0 : Int32)), (.int (0 : Int32)), (.int (0 : Int32)), (.int (0 : Int32)), (.int (0 : Int32)), (.int (0 : Int32))] (.int (0 : Int32)) := Arv.set Ar311 qk311 sz311 nn311 hs311 ft311 (fits_nar_bool _) W312 4 rfl (Nat.le_of_ble_eq_true rfl)
        have O := O.wr W312 g_b302
        have N := Fr.snoc X312 N g_b302
        refine gb st312 ?_
        show G T312 (mkF m 52 #[iv i0, iv i1, iv 3, rv w_LESS_THAN, iv 0, .unset, .unset] [.ref b302])
        refine gb (fun _ k => XS.dup X312.here hx rfl (hb hby at_52) rfl rfl (XS.iconst X312.here hx rfl (hb hby at_53) (XS.iconst X312.here hx rfl (hb hby at_54) k))) ?_
        show G T312 (mkF m 55 #[iv i0, iv i1, iv 3, rv w_LESS_THAN, iv 0, .unset, .unset] [.int 1, .int 5, .ref b302, .ref b302])
        have V'313 := V_b302
        obtain ⟨cl313, Ar313, qk313, sz313, nn313, hs313, ft313⟩ := V'313
        have hin313 : ¬ ((5 : Int32) < 0 ∨ cl313.slots.size ≤ ((5 : Int32)).toNatClampNeg) := inb_of sz313 ⟨by decide, by decide⟩
        obtain ⟨T314, h314, X314, e314, W314, st314⟩ := stZ X312 hx hZ e312 Ar313 (j := (5 : Int32)) hin313 (g := (mkF m 55 #[iv i0, iv i1, iv 3, rv w_LESS_THAN, iv 0, .unset, .unset] [.int 1, .int 5, .ref b302, .ref b302])) rfl rfl (hb hby at_55)
        have V_b302 : Arv Z h314 b302 k302 .boolean (12 : Int32) [(.int (nar .boolean (0 : Int32))), (.int (nar .boolean (1 : Int32))), (.int (nar .boolean (1 : Int32))), (.int (nar .boolean (0 : Int32))), (.int (nar .boolean (0 : Int32))), (.int (nar .boolean (1 : Int32))), (.int (0 : Int32)), (.int (0 : Int32)), (.int (0 : Int32)), (.int (0 : Int32)), (.int (0 : Int32)), (.int (0 : Int32))] (.int (0 : Int32)) := Arv.set Ar313 qk313 sz313 nn313 hs313 ft313 (fits_nar_bool _) W314 5 rfl (Nat.le_of_ble_eq_true rfl)
        have O := O.wr W314 g_b302
        have N := Fr.snoc X314 N g_b302
        refine gb st314 ?_
        show G T314 (mkF m 56 #[iv i0, iv i1, iv 3, rv w_LESS_THAN, iv 0, .unset, .unset] [.ref b302])
        refine gb (fun _ k => XS.dup X314.here hx rfl (hb hby at_56) rfl rfl (XS.bipush X314.here hx rfl (hb hby at_57) (XS.iconst X314.here hx rfl (hb hby at_59) k))) ?_
        show G T314 (mkF m 60 #[iv i0, iv i1, iv 3, rv w_LESS_THAN, iv 0, .unset, .unset] [.int 1, .int 6, .ref b302, .ref b302])
        have V'315 := V_b302
        obtain ⟨cl315, Ar315, qk315, sz315, nn315, hs315, ft315⟩ := V'315
        have hin315 : ¬ ((6 : Int32) < 0 ∨ cl315.slots.size ≤ ((6 : Int32)).toNatClampNeg) := inb_of sz315 ⟨by decide, by decide⟩
        obtain ⟨T316, h316, X316, e316, W316, st316⟩ := stZ X314 hx hZ e314 Ar315 (j := (6 : Int32)) hin315 (g := (mkF m 60 #[iv i0, iv i1, iv 3, rv w_LESS_THAN, iv 0, .unset, .unset] [.int 1, .int 6, .ref b302, .ref b302])) rfl rfl (hb hby at_60)
        have V_b302 : Arv Z h316 b302 k302 .boolean (12 : Int32) [(.int (nar .boolean (0 : Int32))), (.int (nar .boolean (1 : Int32))), (.int (nar .boolean (1 : Int32))), (.int (nar .boolean (0 : Int32))), (.int (nar .boolean (0 : Int32))), (.int (nar .boolean (1 : Int32))), (.int (nar .boolean (1 : Int32))), (.int (0 : Int32)), (.int (0 : Int32)), (.int (0 : Int32)), (.int (0 : Int32)), (.int (0 : Int32))] (.int (0 : Int32)) := Arv.set Ar315 qk315 sz315 nn315 hs315 ft315 (fits_nar_bool _) W316 6 rfl (Nat.le_of_ble_eq_true rfl)
        have O := O.wr W316 g_b302
        have N := Fr.snoc X316 N g_b302
        refine gb st316 ?_
        show G T316 (mkF m 61 #[iv i0, iv i1, iv 3, rv w_LESS_THAN, iv 0, .unset, .unset] [.ref b302])
        refine gb (fun _ k => XS.dup X316.here hx rfl (hb hby at_61) rfl rfl (XS.bipush X316.here hx rfl (hb hby at_62) (XS.iconst X316.here hx rfl (hb hby at_64) k))) ?_
        show G T316 (mkF m 65 #[iv i0, iv i1, iv 3, rv w_LESS_THAN, iv 0, .unset, .unset] [.int 1, .int 7, .ref b302, .ref b302])
        have V'317 := V_b302
        obtain ⟨cl317, Ar317, qk317, sz317, nn317, hs317, ft317⟩ := V'317
        have hin317 : ¬ ((7 : Int32) < 0 ∨ cl317.slots.size ≤ ((7 : Int32)).toNatClampNeg) := inb_of sz317 ⟨by decide, by decide⟩
        obtain ⟨T318, h318, X318, e318, W318, st318⟩ := stZ X316 hx hZ e316 Ar317 (j := (7 : Int32)) hin317 (g := (mkF m 65 #[iv i0, iv i1, iv 3, rv w_LESS_THAN, iv 0, .unset, .unset] [.int 1, .int 7, .ref b302, .ref b302])) rfl rfl (hb hby at_65)
        have V_b302 : Arv Z h318 b302 k302 .boolean (12 : Int32) [(.int (nar .boolean (0 : Int32))), (.int (nar .boolean (1 : Int32))), (.int (nar .boolean (1 : Int32))), (.int (nar .boolean (0 : Int32))), (.int (nar .boolean (0 : Int32))), (.int (nar .boolean (1 : Int32))), (.int (nar .boolean (1 : Int32))), (.int (nar .boolean (1 : Int32))), (.int (0 : Int32)), (.int (0 : Int32)), (.int (0 : Int32)), (.int (0 : Int32))] (.int (0 : Int32)) := Arv.set Ar317 qk317 sz317 nn317 hs317 ft317 (fits_nar_bool _) W318 7 rfl (Nat.le_of_ble_eq_true rfl)
        have O := O.wr W318 g_b302
        have N := Fr.snoc X318 N g_b302
        refine gb st318 ?_
        show G T318 (mkF m 66 #[iv i0, iv i1, iv 3, rv w_LESS_THAN, iv 0, .unset, .unset] [.ref b302])
        refine gb (fun _ k => XS.dup X318.here hx rfl (hb hby at_66) rfl rfl (XS.bipush X318.here hx rfl (hb hby at_67) (XS.iconst X318.here hx rfl (hb hby at_69) k))) ?_
        show G T318 (mkF m 70 #[iv i0, iv i1, iv 3, rv w_LESS_THAN, iv 0, .unset, .unset] [.int 0, .int 8, .ref b302, .ref b302])
        have V'319 := V_b302
        obtain ⟨cl319, Ar319, qk319, sz319, nn319, hs319, ft319⟩ := V'319
        have hin319 : ¬ ((8 : Int32) < 0 ∨ cl319.slots.size ≤ ((8 : Int32)).toNatClampNeg) := inb_of sz319 ⟨by decide, by decide⟩
        obtain ⟨T320, h320, X320, e320, W320, st320⟩ := stZ X318 hx hZ e318 Ar319 (j := (8 : Int32)) hin319 (g := (mkF m 70 #[iv i0, iv i1, iv 3, rv w_LESS_THAN, iv 0, .unset, .unset] [.int 0, .int 8, .ref b302, .ref b302])) rfl rfl (hb hby at_70)
        have V_b302 : Arv Z h320 b302 k302 .boolean (12 : Int32) [(.int (nar .boolean (0 : Int32))), (.int (nar .boolean (1 : Int32))), (.int (nar .boolean (1 : Int32))), (.int (nar .boolean (0 : Int32))), (.int (nar .boolean (0 : Int32))), (.int (nar .boolean (1 : Int32))), (.int (nar .boolean (1 : Int32))), (.int (nar .boolean (1 : Int32))), (.int (nar .boolean (0 : Int32))), (.int (0 : Int32)), (.int (0 : Int32)), (.int (0 : Int32))] (.int (0 : Int32)) := Arv.set Ar319 qk319 sz319 nn319 hs319 ft319 (fits_nar_bool _) W320 8 rfl (Nat.le_of_ble_eq_true rfl)
        have O := O.wr W320 g_b302
        have N := Fr.snoc X320 N g_b302
        refine gb st320 ?_
        show G T320 (mkF m 71 #[iv i0, iv i1, iv 3, rv w_LESS_THAN, iv 0, .unset, .unset] [.ref b302])
        refine gb (fun _ k => XS.dup X320.here hx rfl (hb hby at_71) rfl rfl (XS.bipush X320.here hx rfl (hb hby at_72) (XS.iconst X320.here hx rfl (hb hby at_74) k))) ?_
        show G T320 (mkF m 75 #[iv i0, iv i1, iv 3, rv w_LESS_THAN, iv 0, .unset, .unset] [.int 1, .int 9, .ref b302, .ref b302])
        have V'321 := V_b302
        obtain ⟨cl321, Ar321, qk321, sz321, nn321, hs321, ft321⟩ := V'321
        have hin321 : ¬ ((9 : Int32) < 0 ∨ cl321.slots.size ≤ ((9 : Int32)).toNatClampNeg) := inb_of sz321 ⟨by decide, by decide⟩
        obtain ⟨T322, h322, X322, e322, W322, st322⟩ := stZ X320 hx hZ e320 Ar321 (j := (9 : Int32)) hin321 (g := (mkF m 75 #[iv i0, iv i1, iv 3, rv w_LESS_THAN, iv 0, .unset, .unset] [.int 1, .int 9, .ref b302, .ref b302])) rfl rfl (hb hby at_75)
        have V_b302 : Arv Z h322 b302 k302 .boolean (12 : Int32) [(.int (nar .boolean (0 : Int32))), (.int (nar .boolean (1 : Int32))), (.int (nar .boolean (1 : Int32))), (.int (nar .boolean (0 : Int32))), (.int (nar .boolean (0 : Int32))), (.int (nar .boolean (1 : Int32))), (.int (nar .boolean (1 : Int32))), (.int (nar .boolean (1 : Int32))), (.int (nar .boolean (0 : Int32))), (.int (nar .boolean (1 : Int32))), (.int (0 : Int32)), (.int (0 : Int32))] (.int (0 : Int32)) := Arv.set Ar321 qk321 sz321 nn321 hs321 ft321 (fits_nar_bool _) W322 9 rfl (Nat.le_of_ble_eq_true rfl)
        have O := O.wr W322 g_b302
        have N := Fr.snoc X322 N g_b302
        refine gb st322 ?_
        show G T322 (mkF m 76 #[iv i0, iv i1, iv 3, rv w_LESS_THAN, iv 0, .unset, .unset] [.ref b302])
        refine gb (fun _ k => XS.dup X322.here hx rfl (hb hby at_76) rfl rfl (XS.bipush X322.here hx rfl (hb hby at_77) (XS.iconst X322.here hx rfl (hb hby at_79) k))) ?_
        show G T322 (mkF m 80 #[iv i0, iv i1, iv 3, rv w_LESS_THAN, iv 0, .unset, .unset] [.int 0, .int 10, .ref b302, .ref b302])
        have V'323 := V_b302
        obtain ⟨cl323, Ar323, qk323, sz323, nn323, hs323, ft323⟩ := V'323
        have hin323 : ¬ ((10 : Int32) < 0 ∨ cl323.slots.size ≤ ((10 : Int32)).toNatClampNeg) := inb_of sz323 ⟨by decide, by decide⟩
        obtain ⟨T324, h324, X324, e324, W324, st324⟩ := stZ X322 hx hZ e322 Ar323 (j := (10 : Int32)) hin323 (g := (mkF m 80 #[iv i0, iv i1, iv 3, rv w_LESS_THAN, iv 0, .unset, .unset] [.int 0, .int 10, .ref b302, .ref b302])) rfl rfl (hb hby at_80)
        have V_b302 : Arv Z h324 b302 k302 .boolean (12 : Int32) [(.int (nar .boolean (0 : Int32))), (.int (nar .boolean (1 : Int32))), (.int (nar .boolean (1 : Int32))), (.int (nar .boolean (0 : Int32))), (.int (nar .boolean (0 : Int32))), (.int (nar .boolean (1 : Int32))), (.int (nar .boolean (1 : Int32))), (.int (nar .boolean (1 : Int32))), (.int (nar .boolean (0 : Int32))), (.int (nar .boolean (1 : Int32))), (.int (nar .boolean (0 : Int32))), (.int (0 : Int32))] (.int (0 : Int32)) := Arv.set Ar323 qk323 sz323 nn323 hs323 ft323 (fits_nar_bool _) W324 10 rfl (Nat.le_of_ble_eq_true rfl)
        have O := O.wr W324 g_b302
        have N := Fr.snoc X324 N g_b302
        refine gb st324 ?_
        show G T324 (mkF m 81 #[iv i0, iv i1, iv 3, rv w_LESS_THAN, iv 0, .unset, .unset] [.ref b302])
        refine gb (fun _ k => XS.dup X324.here hx rfl (hb hby at_81) rfl rfl (XS.bipush X324.here hx rfl (hb hby at_82) (XS.iconst X324.here hx rfl (hb hby at_84) k))) ?_
        show G T324 (mkF m 85 #[iv i0, iv i1, iv 3, rv w_LESS_THAN, iv 0, .unset, .unset] [.int 0, .int 11, .ref b302, .ref b302])
        have V'325 := V_b302
        obtain ⟨cl325, Ar325, qk325, sz325, nn325, hs325, ft325⟩ := V'325
        have hin325 : ¬ ((11 : Int32) < 0 ∨ cl325.slots.size ≤ ((11 : Int32)).toNatClampNeg) := inb_of sz325 ⟨by decide, by decide⟩
        obtain ⟨T326, h326, X326, e326, W326, st326⟩ := stZ X324 hx hZ e324 Ar325 (j := (11 : Int32)) hin325 (g := (mkF m 85 #[iv i0, iv i1, iv 3, rv w_LESS_THAN, iv 0, .unset, .unset] [.int 0, .int 11, .ref b302, .ref b302])) rfl rfl (hb hby at_85)
        have V_b302 : Arv Z h326 b302 k302 .boolean (12 : Int32) [(.int (nar .boolean (0 : Int32))), (.int (nar .boolean (1 : Int32))), (.int (nar .boolean (1 : Int32))), (.int (nar .boolean (0 : Int32))), (.int (nar .boolean (0 : Int32))), (.int (nar .boolean (1 : Int32))), (.int (nar .boolean (1 : Int32))), (.int (nar .boolean (1 : Int32))), (.int (nar .boolean (0 : Int32))), (.int (nar .boolean (1 : Int32))), (.int (nar .boolean (0 : Int32))), (.int (nar .boolean (0 : Int32)))] (.int (0 : Int32)) := Arv.set Ar325 qk325 sz325 nn325 hs325 ft325 (fits_nar_bool _) W326 11 rfl (Nat.le_of_ble_eq_true rfl)
        have O := O.wr W326 g_b302
        have N := Fr.snoc X326 N g_b302
        refine gb st326 ?_
        show G T326 (mkF m 86 #[iv i0, iv i1, iv 3, rv w_LESS_THAN, iv 0, .unset, .unset] [.ref b302])
        refine gb (fun _ k => XS.astore X326.here hx rfl (hb hby at_86) rfl rfl (l' := #[iv i0, iv i1, iv 3, rv w_LESS_THAN, iv 0, rv b302, .unset]) rfl (XS.aload X326.here hx rfl (hb hby at_88) rfl rfl (XS.iloadN X326.here hx rfl (hb hby at_90) rfl (XS.iconst X326.here hx rfl (hb hby at_91) (XS.imul X326.here hx rfl (hb hby at_92) rfl (XS.iload X326.here hx rfl (hb hby at_93) rfl k)))))) ?_
        show G T326 (mkF m 95 #[iv i0, iv i1, iv 3, rv w_LESS_THAN, iv 0, rv b302, .unset] [.int 0, .int 9, .ref b302])
        refine gb (fun _ k => XS.iadd X326.here hx rfl (hb hby at_95) rfl (XS.iconst X326.here hx rfl (hb hby at_96) (XS.iadd X326.here hx rfl (hb hby at_97) rfl k))) ?_
        show G T326 (mkF m 98 #[iv i0, iv i1, iv 3, rv w_LESS_THAN, iv 0, rv b302, .unset] [.int 10, .ref b302])
        have V'327 := V_b302
        obtain ⟨cl327, Ar327, qk327, sz327, nn327, hs327, ft327⟩ := V'327
        have hin327 : ¬ ((10 : Int32) < 0 ∨ cl327.slots.size ≤ ((10 : Int32)).toNatClampNeg) := inb_of sz327 ⟨by decide, by decide⟩
        have hat327 : cl327.slots[((10 : Int32)).toNatClampNeg]? = some (.int (nar .boolean (0 : Int32))) := hs327.at hin327 rfl
        refine gb (X326.baloadBooleans hx (j := (10 : Int32)) (v := (.int (nar .boolean (0 : Int32)))) (by rw [e326]; exact Ar327.1) (State.isArrayOf_alike hZ.alike Ar327.2.1) Ar327.2.2 hin327 hat327 (g := (mkF m 98 #[iv i0, iv i1, iv 3, rv w_LESS_THAN, iv 0, rv b302, .unset] [.int 10, .ref b302])) rfl rfl (hb hby at_98)) ?_
        show G T326 (mkF m 99 #[iv i0, iv i1, iv 3, rv w_LESS_THAN, iv 0, rv b302, .unset] [.int (nar .boolean (0 : Int32))])
        refine gb (fun _ k => XS.istore X326.here hx rfl (hb hby at_99) rfl (l' := #[iv i0, iv i1, iv 3, rv w_LESS_THAN, iv 0, rv b302, iv (nar .boolean (0 : Int32))]) rfl (XS.aloadN X326.here hx rfl (hb hby at_101) rfl rfl (XS.iloadN X326.here hx rfl (hb hby at_102) rfl k))) ?_
        show G T326 (mkF m 103 #[iv i0, iv i1, iv 3, rv w_LESS_THAN, iv 0, rv b302, iv (nar .boolean (0 : Int32))] [.int i1, .ref w_LESS_THAN])
        obtain ⟨cq328, kq328, q328a, q328b, q328c⟩ := isOf hZ e326 (E_LESS_THAN.ext O.2)
        obtain ⟨_, _, ⟨T328, L328, k328, n328⟩, -, X328, ⟨Lc328, hQ328, l328, y328, z328⟩, st328⟩ := X326.virtualBack hx (y := (⟨"com/example/wrought_gate/wroughtgate/engine/Comparison", "admits", "(I)Z"⟩ : MethodName)) (z := (⟨"com/example/wrought_gate/wroughtgate/engine/Comparison", "admits", "(I)Z"⟩ : MethodName)) hown (mvT hZ (ow hw 8 rfl)) (mvT hZ (ow hw 9 rfl)) (notFace_of_selects (args := #[]) (mvT hZ (ow hw 11 rfl))) (mvT hZ (ow hw 11 rfl)) (mvT hZ (ow hw 10 rfl)) (by decide) (backOf (W := 0) (rm2_3 l Z a0 hw [] w_LESS_THAN i1 h326 n0 O (E_LESS_THAN.ext O.2) (F_ordinal_LESS_THAN.ext O.2)) hZ (ow hw 12 rfl) (ow hw 5 rfl) (by decide) (by decide)) q328a q328c (g := (mkF m 103 #[iv i0, iv i1, iv 3, rv w_LESS_THAN, iv 0, rv b302, iv (nar .boolean (0 : Int32))] [.int i1, .ref w_LESS_THAN])) rfl (by rw [hml]; rfl) (Steps.refl _) (argsL := [(.int i1)]) (rest := []) (lenOf pd_2 rfl) rfl (by show 2 * 0 + _ ≤ _; exact Nat.le_of_eq rfl) (hb hby at_103) (fun _ _ => ⟨rfl, e326, (by decide : 1 + 0 ≤ _), (by decide : 12 + 0 ≤ _)⟩)
        dsimp only [Pt.U, Pt.locs, Pt.cells, Pt.slots] at X328 l328 y328 z328 st328 hQ328
        subst l328 y328 z328
        obtain ⟨rfl, rfl, e328⟩ := hQ328
        try rw [List.append_nil] at X328
        refine gb (fun _ k => st328.trans k) ?_
        show G T328 (mkF m 106 #[iv i0, iv i1, iv 3, rv w_LESS_THAN, iv 0, rv b302, iv (nar .boolean (0 : Int32))] [.int (if i1 < (0 : Int32) then (1 : Int32) else (0 : Int32))])
        refine gb (fun _ k => XS.iload X328.here hx rfl (hb hby at_106) rfl (XS.icmpNo X328.here hx rfl (hb hby at_108) rfl (teq (show (if i1 < (0 : Int32) then (1 : Int32) else (0 : Int32)) = (nar .boolean (0 : Int32)) by simp only [hA, hB, not_true_eq_false, not_false_eq_true, if_true, if_false]; rfl)).2 (XS.iconst X328.here hx rfl (hb hby at_111) (XS.goto X328.here hx rfl (pc0 := 112) (pc' := 116) rfl (hb hby at_112) (by decide) (by decide) k)))) ?_
        show G T328 (mkF m 116 #[iv i0, iv i1, iv 3, rv w_LESS_THAN, iv 0, rv b302, iv (nar .boolean (0 : Int32))] [.int 1])
        exact go X328 (v := (some (.int (1 : Int32)))) (fun h => by rw [Bd.returns] at h; cases h) (fun fs hr => retOut X328 hx Bd.returns rfl (Or.inl ⟨rfl, by simp, _, rfl⟩) (hb hby at_116) hr) (⟨rfl, N⟩) (by decide) (by decide)
set_option maxRecDepth 65536 in
set_option maxHeartbeats 40000000 in
theorem comes_1 {Post : Tables → Env → Array Value → State → Outcome → State → Prop} (hpost : ∀ tb e args s v u, (limb_1_1.after args s (.returned v) u = true ∧ limb_1_2.after args s (.returned v) u = true ∧ True) → FrameEnd s (.returned v) u (Jvm.fieldLocs frame_1_writes args s ++ Jvm.arrayLocs frame_1_arrays args s ++ Jvm.staticLocs frame_1_statics s) 16 128 → Post tb e args s (.returned v) u) :
    ArmFor flags0 classFile x code maxLocals ret World_1 tables_1 room_1 Calls_1 rest_1 Pre_1 Post := by
  intro l hfl _ _ p e ha hc hk s m args below hf hA hF happ hP
  obtain ⟨hcalls, hrest, hpre⟩ := hP
  obtain ⟨-, -, -, hnamed, -, -, -, hat⟩ := (Spec.applies_iff hf).mp happ
  obtain ⟨hg, hn⟩ := and_e (Cond.before_iff.mp (show (Jvm.Cond.and given_1 narrow_1).before args s = true from hpre))
  obtain ⟨g1, g2⟩ := and_e hg
  obtain ⟨g3, g4⟩ := and_e g2
  obtain ⟨g5, g6⟩ := and_e hn
  obtain ⟨g7, g8⟩ := and_e g6
  obtain ⟨g9, g10⟩ := and_e g8
  obtain ⟨g11, g12⟩ := and_e g10
  obtain ⟨g13, g14⟩ := and_e g12
  obtain ⟨g15, g16⟩ := and_e g14
  obtain ⟨g17, g18⟩ := and_e g16
  obtain ⟨w0, w1, rfl⟩ : ∃ w0 w1 : Value, args = #[w0, w1] := by
    have hs : args.size = 2 := by simpa [Cond.value, given_1] using g1
    obtain ⟨L⟩ := args
    match L, hs with
    | [w0, w1], _ => exact ⟨w0, w1, rfl⟩
  have hw := fun d (hd : d ∈ tables_1) => atoms_spec (ws := Jvm.Cond.code x code maxLocals ret :: tables_1) hat d (List.mem_cons_of_mem _ hd)
  have hfit : Fit s := fun {y c} hc i hi => by
    obtain ⟨ha, rfl⟩ := Array.getElem?_eq_some_iff.mp hc
    have q := List.all_eq_true.mp ((Array.all_eq_true_iff_forall_mem.mp hF) _ (Array.getElem_mem ha)) i (List.mem_range.mpr hi)
    simpa [Array.getElem?_eq_getElem hi] using q
  obtain ⟨i0, ei0⟩ := is_v g3
  obtain rfl : w0 = (.int i0) := Option.some.inj ei0
  obtain ⟨i1, ei1⟩ := is_v g4
  obtain rfl : w1 = (.int i1) := Option.some.inj ei1
  obtain ⟨w_AT_LEAST, ev_AT_LEAST⟩ := exa_v g5
  have S_AT_LEAST : Sta s s.heap "com/example/wrought_gate/wroughtgate/engine/Comparison" "AT_LEAST" "Lcom/example/wrought_gate/wroughtgate/engine/Comparison;" (.ref w_AT_LEAST) := Sta.start ev_AT_LEAST (Or.inr ⟨(ow hw 5 rfl), (ow hw 6 rfl)⟩)
  have E_AT_LEAST : Exa s s.heap w_AT_LEAST "com/example/wrought_gate/wroughtgate/engine/Comparison" := Exa.start ev_AT_LEAST g5
  obtain ⟨w_AT_MOST, ev_AT_MOST⟩ := exa_v g9
  have S_AT_MOST : Sta s s.heap "com/example/wrought_gate/wroughtgate/engine/Comparison" "AT_MOST" "Lcom/example/wrought_gate/wroughtgate/engine/Comparison;" (.ref w_AT_MOST) := Sta.start ev_AT_MOST (Or.inr ⟨(ow hw 5 rfl), (ow hw 23 rfl)⟩)
  have E_AT_MOST : Exa s s.heap w_AT_MOST "com/example/wrought_gate/wroughtgate/engine/Comparison" := Exa.start ev_AT_MOST g9
  obtain ⟨w_GREATER_THAN, ev_GREATER_THAN⟩ := exa_v g13
  have S_GREATER_THAN : Sta s s.heap "com/example/wrought_gate/wroughtgate/engine/Comparison" "GREATER_THAN" "Lcom/example/wrought_gate/wroughtgate/engine/Comparison;" (.ref w_GREATER_THAN) := Sta.start ev_GREATER_THAN (Or.inr ⟨(ow hw 5 rfl), (ow hw 25 rfl)⟩)
  have E_GREATER_THAN : Exa s s.heap w_GREATER_THAN "com/example/wrought_gate/wroughtgate/engine/Comparison" := Exa.start ev_GREATER_THAN g13
  obtain ⟨w_LESS_THAN, ev_LESS_THAN⟩ := exa_v g17
  have S_LESS_THAN : Sta s s.heap "com/example/wrought_gate/wroughtgate/engine/Comparison" "LESS_THAN" "Lcom/example/wrought_gate/wroughtgate/engine/Comparison;" (.ref w_LESS_THAN) := Sta.start ev_LESS_THAN (Or.inr ⟨(ow hw 5 rfl), (ow hw 27 rfl)⟩)
  have E_LESS_THAN : Exa s s.heap w_LESS_THAN "com/example/wrought_gate/wroughtgate/engine/Comparison" := Exa.start ev_LESS_THAN g17
  have F_ordinal_AT_LEAST := own_fldI ev_AT_LEAST g7
  have F_ordinal_AT_MOST := own_fldI ev_AT_MOST g11
  have F_ordinal_GREATER_THAN := own_fldI ev_GREATER_THAN g15
  have F_ordinal_LESS_THAN := own_fldI ev_LESS_THAN g18
  obtain ⟨n, o, h1, h2, h3, _, L, rfl, ⟨rfl, N⟩, hq⟩ := rm0 l s _ hw tables_1 i0 i1 s.heap s.heap.size (Old.start s) w_AT_LEAST S_AT_LEAST E_AT_LEAST F_ordinal_AT_LEAST w_GREATER_THAN S_GREATER_THAN E_GREATER_THAN F_ordinal_GREATER_THAN w_AT_MOST S_AT_MOST E_AT_MOST F_ordinal_AT_MOST w_LESS_THAN S_LESS_THAN E_LESS_THAN F_ordinal_LESS_THAN p e ha hc hk s m _ below hf ((Spec.applies_iff_loose hf).mp happ).1 ⟨rfl, State.Warmed39.refl s, rfl, rfl⟩ trivial
  refine ⟨n, _, h1, h2, h3, hpost _ _ _ _ _ _ ⟨Cond.after_iff.mpr rfl, Cond.after_iff.mpr (eq_i res_at (Term.int_eval (1)) rfl), trivial⟩ ⟨hq.1, hq.2.1, (hq.2.2.sift fun y hy => Or.inr (N y hy)).mono (by decide) (by decide)⟩⟩
theorem main_1_1 : Claimed_1_1 := comes_1 fun _ _ _ _ _ _ h hF => ⟨h.1, hF⟩
theorem main_1_2 : Claimed_1_2 := comes_1 fun _ _ _ _ _ _ h hF => ⟨h.2.1, hF⟩
end Jvm.Pilot.@@N@@
namespace Jvm.Pilot.@@N@@
open Jvm Jvm.ClassFile Sem Op Lib Jvm.Free Jvm.Stand Jvm.Pilot.@@N@@.Jvm.D
/-! MADE BY PROGRAM (witnessworld.py) out of the Statement's table words and the real class files: 14 classes; the members and pool entries that the words name. The judged class is class 1, her method 2. -/
namespace start1
open Jvm.ClassFile
def u (s : String) : CpInfo := .utf8 (stringToUtf16 s)
/-- a pool by its gaps: so many unusable entries, then the entry; so many at the end -/
def gap : Nat → List CpInfo → List CpInfo
  | 0, r => r
  | n + 1, r => .unusable :: gap n r
def poolList (es : List (Nat × CpInfo)) (last : Nat) : List CpInfo := es.foldr (fun e r => gap e.1 (e.2 :: r)) (gap last [])
def pool (es : List (Nat × CpInfo)) (last : Nat) : Array CpInfo := ⟨poolList es last⟩
def fileOf (pool : Array CpInfo) (this : Nat) (attrs : Array Attribute := #[]) (ms : Array MethodInfo := #[]) (fl : Nat := 33) (sup : Nat := 0) (ifs : Array Nat := #[]) (fds : Array FieldInfo := #[]) : ClassFile where
  minorVersion := 0
  majorVersion := 65
  constantPool := pool
  accessFlags := fl
  thisClass := this
  superClass := sup
  interfaces := ifs
  fields := fds
  methods := ms
  attributes := attrs
def plain (name : String) (sup : Option ClassId) : Class where
  name := name
  kind := .ordinary
  loader := none
  accessFlags := 33
  super := sup
  interfaces := #[]
  cf := none
  fields := #[]
  methods := #[]
  instanceTypes := #[]
  staticTypes := #[]
  resolved := #[]
  callSites := []
  init := .initialized
  statics := none
  mirror := none

def pool0 : Array CpInfo := pool [(5, u "<init>"), (0, u "()V"), (1, .class_ 10), (1, u "java/lang/Object")] 113

def k0m0 : Method := { name := "<init>", desc := "()V", sig := { parameters := [], returnType := none }, accessFlags := 1, code := none }
/-- java/lang/Object -/
def k0 : Class := { plain "java/lang/Object" none with
  accessFlags := 33
  interfaces := #[]
  cf := some (fileOf pool0 8 #[] #[{ accessFlags := 1, nameIndex := 5, descriptorIndex := 6, attributes := #[] }] 33 0 #[] #[])
  fields := #[]
  methods := #[k0m0]
  instanceTypes := #[]
  staticTypes := #[]
  resolved := Array.replicate 124 none
  statics := none }

def pool1 : Array CpInfo := pool [(2, .class_ 4), (1, u "java/lang/Object"), (0, u "<init>"), (0, u "()V"), (0, .fieldref 8 9), (0, .class_ 10), (0, .nameAndType 11 12), (0, u "com/example/wrought_gate/wroughtgate/engine/Comparison"), (0, u "AT_LEAST"), (0, u "Lcom/example/wrought_gate/wroughtgate/engine/Comparison;"), (0, .fieldref 8 14), (0, .nameAndType 15 12), (0, u "GREATER_THAN"), (0, .fieldref 8 17), (0, .nameAndType 18 12), (0, u "AT_MOST"), (0, .fieldref 8 20), (0, .nameAndType 21 12), (0, u "LESS_THAN"), (0, .methodref 23 24), (0, .class_ 25), (0, .nameAndType 26 27), (0, u "com/example/wrought_gate/wroughtgate/engine/ComparisonAdmitsPinLaw"), (0, u "pick"), (0, u "(I)Lcom/example/wrought_gate/wroughtgate/engine/Comparison;"), (0, .methodref 8 29), (0, .nameAndType 30 31), (0, u "admits"), (0, u "(I)Z"), (3, u "law"), (0, u "(II)Z")] 4

def k1m0 : Method := { name := "<init>", desc := "()V", sig := { parameters := [], returnType := none }, accessFlags := 1, code := none }
def k1c1 : Code := { maxStack := 2, maxLocals := 1, code := method_2_code, exceptionTable := #[], attributes := #[] }
def k1m1 : Method := { name := "pick", desc := "(I)Lcom/example/wrought_gate/wroughtgate/engine/Comparison;", sig := { parameters := [.int], returnType := some (.object "com/example/wrought_gate/wroughtgate/engine/Comparison") }, accessFlags := 10, code := some k1c1 }
def k1c2 : Code := { maxStack := 4, maxLocals := 7, code := code, exceptionTable := #[], attributes := #[] }
def k1m2 : Method := { name := "law", desc := "(II)Z", sig := { parameters := [.int, .int], returnType := some .boolean }, accessFlags := 9, code := some k1c2 }
/-- com/example/wrought_gate/wroughtgate/engine/ComparisonAdmitsPinLaw -/
def k1 : Class := { plain "com/example/wrought_gate/wroughtgate/engine/ComparisonAdmitsPinLaw" (some 0) with
  accessFlags := 49
  interfaces := #[]
  cf := some (fileOf pool1 23 #[] #[{ accessFlags := 1, nameIndex := 5, descriptorIndex := 6, attributes := #[] }, { accessFlags := 10, nameIndex := 26, descriptorIndex := 27, attributes := #[] }, { accessFlags := 9, nameIndex := 35, descriptorIndex := 36, attributes := #[] }] 49 2 #[] #[])
  fields := #[]
  methods := #[k1m0, k1m1, k1m2]
  instanceTypes := #[]
  staticTypes := #[]
  resolved := Array.replicate 41 none
  statics := none }

def pool2 : Array CpInfo := pool [(1, .class_ 2), (0, u "java/lang/constant/Constable"), (0, .class_ 4), (0, u "java/lang/Object")] 6

/-- java/lang/constant/Constable -/
def k2 : Class := { plain "java/lang/constant/Constable" (some 0) with
  accessFlags := 1537
  interfaces := #[]
  cf := some (fileOf pool2 1 #[] #[] 1537 3 #[] #[])
  fields := #[]
  methods := #[]
  instanceTypes := #[]
  staticTypes := #[]
  resolved := Array.replicate 11 none
  statics := none }

def pool3 : Array CpInfo := pool [(1, .class_ 2), (0, u "java/lang/Comparable"), (0, .class_ 4), (0, u "java/lang/Object")] 7

/-- java/lang/Comparable -/
def k3 : Class := { plain "java/lang/Comparable" (some 0) with
  accessFlags := 1537
  interfaces := #[]
  cf := some (fileOf pool3 1 #[] #[] 1537 3 #[] #[])
  fields := #[]
  methods := #[]
  instanceTypes := #[]
  staticTypes := #[]
  resolved := Array.replicate 12 none
  statics := none }

def pool4 : Array CpInfo := pool [(1, .class_ 2), (0, u "java/io/Serializable"), (0, .class_ 4), (0, u "java/lang/Object")] 2

/-- java/io/Serializable -/
def k4 : Class := { plain "java/io/Serializable" (some 0) with
  accessFlags := 1537
  interfaces := #[]
  cf := some (fileOf pool4 1 #[] #[] 1537 3 #[] #[])
  fields := #[]
  methods := #[]
  instanceTypes := #[]
  staticTypes := #[]
  resolved := Array.replicate 7 none
  statics := none }

def pool5 : Array CpInfo := pool [(2, .class_ 4), (1, u "java/lang/Enum"), (0, u "name"), (0, u "Ljava/lang/String;"), (0, .fieldref 2 8), (0, .nameAndType 9 10), (0, u "ordinal"), (0, u "I"), (1, .class_ 14), (1, u "java/lang/Object"), (4, u "hash"), (86, .class_ 108), (1, u "java/lang/Enum$EnumDesc"), (2, .class_ 112), (0, u "java/lang/constant/Constable"), (0, .class_ 114), (0, u "java/lang/Comparable"), (0, .class_ 116), (0, u "java/io/Serializable"), (9, u "()I")] 77

def k5c0 : Code := { maxStack := 1, maxLocals := 1, code := jdk_37_method_2_code, exceptionTable := #[], attributes := #[] }
def k5m0 : Method := { name := "ordinal", desc := "()I", sig := { parameters := [], returnType := some .int }, accessFlags := 17, code := some k5c0 }
/-- java/lang/Enum -/
def k5 : Class := { plain "java/lang/Enum" (some 0) with
  accessFlags := 1057
  interfaces := #[2, 3, 4]
  cf := some (fileOf pool5 2 #[.nestMembers #[106]] #[{ accessFlags := 17, nameIndex := 9, descriptorIndex := 126, attributes := #[] }] 1057 12 #[111, 113, 115] #[{ accessFlags := 18, nameIndex := 5, descriptorIndex := 6, attributes := #[] }, { accessFlags := 18, nameIndex := 9, descriptorIndex := 10, attributes := #[] }, { accessFlags := 2, nameIndex := 19, descriptorIndex := 10, attributes := #[] }])
  fields := #[{ name := "name", type := (.object "java/lang/String"), accessFlags := 18, slot := 0, constantValue := 0 }, { name := "ordinal", type := .int, accessFlags := 18, slot := 1, constantValue := 0 }, { name := "hash", type := .int, accessFlags := 2, slot := 2, constantValue := 0 }]
  methods := #[k5m0]
  instanceTypes := #[(.object "java/lang/String"), .int, .int]
  staticTypes := #[]
  resolved := Array.replicate 204 none
  statics := none }

def pool6 : Array CpInfo := pool [(1, .class_ 2), (0, u "com/example/wrought_gate/wroughtgate/engine/Comparison"), (2, u "AT_LEAST"), (0, u "Lcom/example/wrought_gate/wroughtgate/engine/Comparison;"), (2, u "GREATER_THAN"), (2, u "AT_MOST"), (2, u "LESS_THAN"), (2, u "$VALUES"), (0, u "[Lcom/example/wrought_gate/wroughtgate/engine/Comparison;"), (6, .class_ 28), (1, u "java/lang/Enum"), (6, .methodref 1 36), (0, .nameAndType 37 38), (0, u "ordinal"), (0, u "()I"), (29, u "admits"), (0, u "(I)Z")] 9

def k6c0 : Code := { maxStack := 4, maxLocals := 2, code := prog_10_method_4_code, exceptionTable := #[], attributes := #[] }
def k6m0 : Method := { name := "admits", desc := "(I)Z", sig := { parameters := [.int], returnType := some .boolean }, accessFlags := 1, code := some k6c0 }
/-- com/example/wrought_gate/wroughtgate/engine/Comparison -/
def k6 : Class := { plain "com/example/wrought_gate/wroughtgate/engine/Comparison" (some 5) with
  accessFlags := 16433
  interfaces := #[]
  cf := some (fileOf pool6 1 #[] #[{ accessFlags := 1, nameIndex := 68, descriptorIndex := 69, attributes := #[] }] 16433 26 #[] #[{ accessFlags := 16409, nameIndex := 5, descriptorIndex := 6, attributes := #[] }, { accessFlags := 16409, nameIndex := 9, descriptorIndex := 6, attributes := #[] }, { accessFlags := 16409, nameIndex := 12, descriptorIndex := 6, attributes := #[] }, { accessFlags := 16409, nameIndex := 15, descriptorIndex := 6, attributes := #[] }, { accessFlags := 4122, nameIndex := 18, descriptorIndex := 19, attributes := #[] }])
  fields := #[{ name := "AT_LEAST", type := (.object "com/example/wrought_gate/wroughtgate/engine/Comparison"), accessFlags := 16409, slot := 0, constantValue := 0 }, { name := "GREATER_THAN", type := (.object "com/example/wrought_gate/wroughtgate/engine/Comparison"), accessFlags := 16409, slot := 1, constantValue := 0 }, { name := "AT_MOST", type := (.object "com/example/wrought_gate/wroughtgate/engine/Comparison"), accessFlags := 16409, slot := 2, constantValue := 0 }, { name := "LESS_THAN", type := (.object "com/example/wrought_gate/wroughtgate/engine/Comparison"), accessFlags := 16409, slot := 3, constantValue := 0 }, { name := "$VALUES", type := (.array (.object "com/example/wrought_gate/wroughtgate/engine/Comparison")), accessFlags := 4122, slot := 4, constantValue := 0 }]
  methods := #[k6m0]
  instanceTypes := #[(.object "java/lang/String"), .int, .int]
  staticTypes := #[(.object "com/example/wrought_gate/wroughtgate/engine/Comparison"), (.object "com/example/wrought_gate/wroughtgate/engine/Comparison"), (.object "com/example/wrought_gate/wroughtgate/engine/Comparison"), (.object "com/example/wrought_gate/wroughtgate/engine/Comparison"), (.array (.object "com/example/wrought_gate/wroughtgate/engine/Comparison"))]
  resolved := Array.replicate 79 none
  statics := some 0 }

def pool7 : Array CpInfo := pool [(1, u "java/lang/Cloneable"), (0, .class_ 1), (0, u "java/lang/Object"), (0, .class_ 3)] 3

/-- java/lang/Cloneable -/
def k7 : Class := { plain "java/lang/Cloneable" (some 0) with
  accessFlags := 1537
  interfaces := #[]
  cf := some (fileOf pool7 2 #[] #[] 1537 4 #[] #[])
  fields := #[]
  methods := #[]
  instanceTypes := #[]
  staticTypes := #[]
  resolved := Array.replicate 8 none
  statics := none }

/-- the primitive boolean -/
def k8 : Class := { plain "boolean" none with kind := .primitive 'Z', accessFlags := 0x411 }
/-- [Z -/
def k9 : Class := { plain "[Z" (some 0) with kind := .array 8 .boolean, interfaces := #[7, 4], accessFlags := 1041 }

/-- the primitive byte -/
def k10 : Class := { plain "byte" none with kind := .primitive 'B', accessFlags := 0x411 }
/-- [B -/
def k11 : Class := { plain "[B" (some 0) with kind := .array 10 .byte, interfaces := #[7, 4], accessFlags := 1041 }

/-- the primitive int -/
def k12 : Class := { plain "int" none with kind := .primitive 'I', accessFlags := 0x411 }
/-- [I -/
def k13 : Class := { plain "[I" (some 0) with kind := .array 12 .int, interfaces := #[7, 4], accessFlags := 1041 }

def heap : Heap := #[{ cls := 6, slots := #[.ref 1, .ref 2, .ref 3, .ref 4, .null], vm := .statics 6 },
  { cls := 6, slots := #[.null, .int 0, .int 0], vm := .none },
  { cls := 6, slots := #[.null, .int 1, .int 0], vm := .none },
  { cls := 6, slots := #[.null, .int 2, .int 0], vm := .none },
  { cls := 6, slots := #[.null, .int 3, .int 0], vm := .none }]
def classes : Array Class := #[k0, k1, k2, k3, k4, k5, k6, k7, k8, k9, k10, k11, k12, k13]
def interned : List (Array UInt16 × Addr) := []
def slotsUsed : Nat := 17
def theMethod : MethodId := ⟨1, 2⟩
def args0 : Array Value := #[.int 5, .int 5]
def aboutOver (below : List Frame) : State where
  vm := { classes := classes, interned := interned.toArray }
  heap := heap
  slotsUsed := slotsUsed
  threads := #[{ frames := .invoking theMethod args0 :: below }]
def below0 : List Frame := [.native { method := ⟨0, 0⟩, args := #[] }]
def about1 : State := aboutOver below0
def p0 : Program := .bare "" "" ""
def e0 : Env := launch0.env 0 0 0
theorem w_frames : about1.frames = Frame.invoking theMethod args0 :: below0 := rfl
set_option maxRecDepth 65536 in
theorem w_args : argsFit about1.vm theMethod args0 = true := by decide +kernel
set_option maxRecDepth 65536 in
theorem w_heap : heapFits about1 = true := by decide +kernel
set_option maxRecDepth 65536 in
theorem w_runnable : about1.curStatus? = some .runnable := by decide +kernel
set_option maxRecDepth 65536 in
theorem w_alone : about1.alone = true := by decide +kernel
set_option maxRecDepth 65536 in
theorem w_named : about1.methodNamed? x = some theMethod := by decide +kernel
set_option maxRecDepth 65536 in
theorem w_hears : about1.hears theMethod below0 = true := by decide +kernel
set_option maxRecDepth 65536 in
theorem w_ripe : about1.ripe theMethod args0 below0 = true := by decide +kernel
theorem w_running : about1.status = .running := rfl
set_option maxRecDepth 65536 in
theorem w_room : about1.hasRoom e0.platform room_1 = true :=
  launch0.hasRoom_least _ room_1 (by decide +kernel) (by decide +kernel) (by decide +kernel) (by decide +kernel) (by decide +kernel) (by decide +kernel)
theorem allAtoms_all (ts : List Jvm.Cond) (a : Array Jvm.Value) (st : Jvm.State) : (allAtoms ts).before a st = ts.all (fun c => c.before a st) := by
  induction ts with
  | nil => rfl
  | cons c t ih =>
    show (Jvm.Cond.and c (allAtoms t)).before a st = _
    rw [Jvm.Cond.before_and, ih, List.all_cons]
def words1 : List Jvm.Cond := Jvm.Cond.code x code maxLocals ret :: tables_1
/-- a 'code' word, met by the world's own term for the bytes: nothing is compared byte by byte -/
theorem code_word {y : MethodName} {bytes : ByteArray} {mx : Nat} {rt : Option FieldType} {a : Array Value} {s : State} {m : MethodId} {meth : Method} {c : Code} (h1 : s.methodNamed? y = some m) (h2 : s.vm.method? m = some meth) (h3 : meth.code = some c) (h4 : c.code = bytes)
    (h5 : (c.maxLocals == mx && c.exceptionTable.isEmpty && decide (c.maxStack ≤ mostOperands) && decide (meth.sig.returnType = rt) && !meth.locks && decide (parseMethodDescriptor y.desc = some meth.sig)) = true) : (Jvm.Cond.code y bytes mx rt).before a s = true := by
  simp only [Bool.and_eq_true, beq_iff_eq, Bool.not_eq_true', decide_eq_true_eq] at h5
  obtain ⟨⟨⟨⟨⟨g1, g2⟩, g3⟩, g4⟩, g5⟩, g6⟩ := h5
  simp [Cond.before, Cond.holds, Cond.value, h1, h2, h3, h4, g1, g2, g3, g4, g5, g6]
def isCode : Jvm.Cond → Bool
  | .code _ _ _ _ => true
  | _ => false
theorem all_split {L : List Jvm.Cond} {P : Jvm.Cond → Bool} (h1 : L.all (fun c => isCode c || P c) = true) (h2 : ∀ c ∈ L.filter isCode, P c = true) : L.all P = true := by
  refine List.all_eq_true.mpr fun c hc => ?_
  have h := List.all_eq_true.mp h1 c hc
  rcases Bool.eq_false_or_eq_true (isCode c) with hi | hi
  · exact h2 c (List.mem_filter.mpr ⟨hc, hi⟩)
  · simpa [hi] using h
set_option maxRecDepth 65536 in
theorem w_c0 : (Jvm.Cond.code x code maxLocals ret).before args0 about1 = true := code_word (m := ⟨1, 2⟩) (meth := k1m2) (c := k1c2) (by decide +kernel) rfl rfl rfl (by decide +kernel)
set_option maxRecDepth 65536 in
theorem w_c1 : (Jvm.Cond.code ({ cls := "com/example/wrought_gate/wroughtgate/engine/ComparisonAdmitsPinLaw", name := "pick", desc := "(I)Lcom/example/wrought_gate/wroughtgate/engine/Comparison;" } : Jvm.MethodName) method_2_code (1 : Nat) (Option.some (Jvm.ClassFile.FieldType.object "com/example/wrought_gate/wroughtgate/engine/Comparison"))).before args0 about1 = true := code_word (m := ⟨1, 1⟩) (meth := k1m1) (c := k1c1) (by decide +kernel) rfl rfl rfl (by decide +kernel)
set_option maxRecDepth 65536 in
theorem w_c2 : (Jvm.Cond.code ({ cls := "com/example/wrought_gate/wroughtgate/engine/Comparison", name := "admits", desc := "(I)Z" } : Jvm.MethodName) prog_10_method_4_code (2 : Nat) (Option.some Jvm.ClassFile.FieldType.boolean)).before args0 about1 = true := code_word (m := ⟨6, 0⟩) (meth := k6m0) (c := k6c0) (by decide +kernel) rfl rfl rfl (by decide +kernel)
set_option maxRecDepth 65536 in
theorem w_c3 : (Jvm.Cond.code ({ cls := "java/lang/Enum", name := "ordinal", desc := "()I" } : Jvm.MethodName) jdk_37_method_2_code (1 : Nat) (Option.some Jvm.ClassFile.FieldType.int)).before args0 about1 = true := code_word (m := ⟨5, 0⟩) (meth := k5m0) (c := k5c0) (by decide +kernel) rfl rfl rfl (by decide +kernel)
def codes1 : List Jvm.Cond := [Jvm.Cond.code x code maxLocals ret, Jvm.Cond.code ({ cls := "com/example/wrought_gate/wroughtgate/engine/ComparisonAdmitsPinLaw", name := "pick", desc := "(I)Lcom/example/wrought_gate/wroughtgate/engine/Comparison;" } : Jvm.MethodName) method_2_code (1 : Nat) (Option.some (Jvm.ClassFile.FieldType.object "com/example/wrought_gate/wroughtgate/engine/Comparison")), Jvm.Cond.code ({ cls := "com/example/wrought_gate/wroughtgate/engine/Comparison", name := "admits", desc := "(I)Z" } : Jvm.MethodName) prog_10_method_4_code (2 : Nat) (Option.some Jvm.ClassFile.FieldType.boolean), Jvm.Cond.code ({ cls := "java/lang/Enum", name := "ordinal", desc := "()I" } : Jvm.MethodName) jdk_37_method_2_code (1 : Nat) (Option.some Jvm.ClassFile.FieldType.int)]
set_option maxRecDepth 65536 in
theorem codes_eq : words1.filter isCode = codes1 := rfl
theorem w_codes : ∀ c ∈ words1.filter isCode, c.before args0 about1 = true := by
  rw [codes_eq]
  intro c hc
  simp only [codes1, List.mem_cons, List.not_mem_nil, or_false] at hc
  rcases hc with rfl | rfl | rfl | rfl
  · exact w_c0
  · exact w_c1
  · exact w_c2
  · exact w_c3
set_option maxRecDepth 65536 in
theorem w_t1 : (words1.take 24).all (fun c => isCode c || c.before args0 about1) = true := by decide +kernel
set_option maxRecDepth 65536 in
theorem w_t2 : (words1.drop 24).all (fun c => isCode c || c.before args0 about1) = true := by decide +kernel
theorem w_tables : (allAtoms (Jvm.Cond.code x code maxLocals ret :: tables_1)).before args0 about1 = true := by
  rw [allAtoms_all]
  show words1.all (fun c => c.before args0 about1) = true
  refine all_split ?_ w_codes
  rw [← List.take_append_drop 24 words1, List.all_append, w_t1, w_t2]
  rfl
set_option maxRecDepth 65536 in
theorem w_case : (Jvm.Cond.and given_1 narrow_1).before args0 about1 = true := by decide +kernel
theorem w_applies : (headSpec (Jvm.Cond.code x code maxLocals ret :: tables_1) room_1).applies x e0.platform about1 = true :=
  (Spec.applies_iff w_frames).mpr ⟨w_running, w_runnable, w_alone, w_named, w_hears, w_ripe, w_room, w_tables⟩
theorem atStart : AtStart classFile x code maxLocals ret World_1 tables_1 room_1 Calls_1 rest_1 Pre_1 launch0 p0 e0 about1 theMethod args0 below0 :=
  ⟨lists_1, trivial, launch0.admits_env _ _ _, launch0.least_env, fairChoices_fair.cas, fairChoices_fair.clock, w_frames, w_args, w_heap, w_applies, trivial, trivial, w_case⟩
end start1
theorem witness_1 : WitnessClaimed_1 := ⟨start1.p0, start1.e0, start1.about1, start1.theMethod, start1.args0, start1.below0, start1.atStart⟩
end Jvm.Pilot.@@N@@
