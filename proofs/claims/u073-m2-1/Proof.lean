import JvmDerived
import JvmDerived.Pilot.@@N@@Statement
import JvmDerived.Pilot.@@N@@Code
set_option linter.unusedVariables false
set_option linter.unusedSimpArgs false
namespace Jvm.Pilot.@@N@@
open Jvm Jvm.ClassFile Sem Op Lib Jvm.Free Jvm.Stand Jvm.LawKit Jvm.RoadKit Bundle Jvm.Pilot.@@N@@.Jvm.D
abbrev jv (x : Int64) : Slot := .val (.long x)
theorem ow {Z : State} {a0 : Array Value} (hw : ∀ d ∈ tables_1, d.before a0 Z = true) (i : Nat) {d : Jvm.Cond} (h : tables_1[i]? = some d) : d.before a0 Z = true := hw _ (List.mem_of_getElem? h)
section OwnKit
variable {p : Program} {l : Launch} {e : Env} {R : Room} {s : State} {m : MethodId} {args : Array Value} {below : List Frame} {meth : Method} {c : Code} {T T' : State} {locs : List Loc} {cells slots kc ks : Nat} {Q : Option Value → Heap → List Loc → Prop} {g g' : JFrame}
/-- from this state and frame on the body ends, and Q holds of what it returns, of the heap and of the places written -/
def OwnG (p : Program) (e : Env) (below : List Frame) (s : State) (kc ks : Nat) (Q : Option Value → Heap → List Loc → Prop) (T : State) (g : JFrame) : Prop :=
  ∃ s₂ o, Steps p.tables e below (T.setTop g) s₂ ∧ s₂.status = .running ∧ Ended s₂ below o ∧ ∃ v L, o = .returned v ∧ Q v s₂.heap L ∧ FrameEnd s o s₂ L kc ks
theorem own_by (k : ∀ t, Steps p.tables e below (T'.setTop g') t → Steps p.tables e below (T.setTop g) t) (h : OwnG p e below s kc ks Q T' g') : OwnG p e below s kc ks Q T g := by
  obtain ⟨s₂, o, st, r⟩ := h
  exact ⟨s₂, o, k _ st, r⟩
theorem own_out (X : Stand p l e R s m args below meth c T locs cells slots) (hlk : meth.locks = false) {v : Option Value} (hv : meth.sig.returnType = none → v = none)
    (hst : ∀ fs, (∀ (f : JFrame) (acts : List Action), f.method = m → f.locked = none → f.entered = [] → (doReturn e (T.setTop f) acts v).1 = T.setFrames fs) → Steps p.tables e below (T.setTop g) (T.setFrames fs))
    (hq : Q v T.heap locs) (hc : cells ≤ kc) (hs : slots ≤ ks) : OwnG p e below s kc ks Q T g := by
  obtain ⟨fs, hr, hrun, hended, hW, hsame⟩ := X.leave (v := v) hv hlk
  exact ⟨_, _, hst fs hr, hrun, hended, v, locs, rfl, hq, ⟨_, rfl⟩, hW, hsame.mono hc hs⟩
def OwnGW (p : Program) (e : Env) (below : List Frame) (s : State) (kc ks : Nat) (Q : Option Value → Heap → List Loc → Prop) (T : State) (g : JFrame) : Prop :=
  ∃ s₂ o, Steps p.tables e below (T.setTop g) s₂ ∧ s₂.status = .running ∧ Ended s₂ below o ∧ ∃ v L, o = .returned v ∧ Q v s₂.heap L ∧ ReturnedEndW s o s₂ L kc ks
theorem own_byW (k : ∀ t, Steps p.tables e below (T'.setTop g') t → Steps p.tables e below (T.setTop g) t) (h : OwnGW p e below s kc ks Q T' g') : OwnGW p e below s kc ks Q T g := by
  obtain ⟨s₂, o, st, r⟩ := h
  exact ⟨s₂, o, k _ st, r⟩
theorem own_outW {vm : Vm} {k : Nat} (X : Stand p l e R (s.setVm vm) m args below meth c T locs cells slots) (hS : s.Since vm k) (hk : k ≤ T.heap.size) (hlk : meth.locks = false) {v : Option Value} (hv : meth.sig.returnType = none → v = none)
    (hst : ∀ fs, (∀ (f : JFrame) (acts : List Action), f.method = m → f.locked = none → f.entered = [] → (doReturn e (T.setTop f) acts v).1 = T.setFrames fs) → Steps p.tables e below (T.setTop g) (T.setFrames fs))
    (hq : Q v T.heap locs) (hc : cells ≤ kc) (hs : slots ≤ ks) : OwnGW p e below s kc ks Q T g := by
  obtain ⟨fs, hr, hrun, hended, h1, h2, h3, h4⟩ := X.leaveW hS hk (v := v) hv hlk
  exact ⟨_, _, hst fs hr, hrun, hended, v, locs, rfl, hq, h1, h2, h3, h4.mono hc hs⟩
def OwnGH (p : Program) (e : Env) (below : List Frame) (s Z : State) (EL : List (String × Nat)) (kc ks : Nat) (Q : Option Value → Heap → List Loc → Prop) (T : State) (g : JFrame) : Prop :=
  ∃ s₂ o, Steps p.tables e below (T.setTop g) s₂ ∧ s₂.status = .running ∧ Ended s₂ below o ∧ ∃ v L, o = .returned v ∧ Q v s₂.heap L ∧ CHr Z EL s.vm s.heap s₂.vm s₂.heap ∧ ReturnedEndW s o s₂ L kc ks
theorem own_byH {Z : State} {EL : List (String × Nat)} (k : ∀ t, Steps p.tables e below (T'.setTop g') t → Steps p.tables e below (T.setTop g) t) (h : OwnGH p e below s Z EL kc ks Q T' g') : OwnGH p e below s Z EL kc ks Q T g := by
  obtain ⟨s₂, o, st, r⟩ := h
  exact ⟨s₂, o, k _ st, r⟩
theorem own_outH {Z : State} {a0 : Array Value} {EL : List (String × Nat)} {h0 : Heap} {vm : Vm} {k : Nat} (X : Stand p l e R (s.setVm vm) m args below meth c T locs cells slots) (hh : s.heap = h0) (hEL : EW Z a0 EL) (hS : s.Since vm k) (hk : k ≤ T.heap.size) (HR : CHr Z EL s.vm h0 vm T.heap) (hZ : Z.Warmed39 vm) (hlk : meth.locks = false) {v : Option Value} (hv : meth.sig.returnType = none → v = none)
    (hst : ∀ fs, (∀ (f : JFrame) (acts : List Action), f.method = m → f.locked = none → f.entered = [] → (doReturn e (T.setTop f) acts v).1 = T.setFrames fs) → Steps p.tables e below (T.setTop g) (T.setFrames fs))
    (hq : Q v T.heap locs) (hc : cells ≤ kc) (hs : slots ≤ ks) : OwnGH p e below s Z EL kc ks Q T g := by
  obtain ⟨fs, hr, hrun, hended, h1, h2, h3, h4⟩ := X.leaveW hS hk (v := v) hv hlk
  have C := HR.trans (CHv.at X hZ hEL HR.1)
  exact ⟨_, _, hst fs hr, hrun, hended, v, locs, rfl, hq, (by rw [hh]; exact C), h1, h2, h3, h4.mono hc hs⟩
theorem own_lt (x y : Int64) : lcmpW x y < 0 ↔ x < y := by rw [lcW]; exact lc_lt x y
theorem own_gt (x y : Int64) : 0 < lcmpW x y ↔ y < x := by rw [lcW]; exact lc_gt x y
theorem own_eq (x y : Int64) : lcmpW x y = 0 ↔ x = y := by rw [lcW]; exact lc_eq x y
theorem own_fldI {Z : State} {a : Addr} {t : Jvm.Term} {C n d : String} {k : Int32} (ev : t.eval args Z none [] Z = some (.ref a)) (h : (Jvm.Cond.eq (Jvm.Term.field t C n d) (Jvm.Term.int k)).value args Z none Z [] = some true) : Fld Z Z.heap a C n d (.int k) := by
  obtain ⟨x, y, h1, h2, h3, h4⟩ := cmp_v (Or.inl h)
  cases (Term.int_eval k).symm.trans h2
  obtain ⟨z, rfl⟩ := h4
  rw [fld_at ev] at h1
  have h5 : (Jvm.Cond.eq (Jvm.Term.field t C n d) (Jvm.Term.int k)).value args Z none Z [] = some (decide (z = k)) := by simp [Jvm.Cond.value, fld_at ev, h1, Term.int_eval]
  cases gotT h5 h
  exact Fld.start h1
theorem own_fldJ {Z : State} {a : Addr} {t : Jvm.Term} {C n d : String} {k : Int64} (ev : t.eval args Z none [] Z = some (.ref a)) (h : (Jvm.Cond.eq (Jvm.Term.field t C n d) (Jvm.Term.long k)).value args Z none Z [] = some true) : Fld Z Z.heap a C n d (.long k) := by
  obtain ⟨x, y, h1, h2, h3, h4⟩ := cmp_v (Or.inl h)
  cases (long_at k).symm.trans h2
  obtain ⟨z, rfl⟩ := h4
  have h5 := gotT (eq_L h1 (long_at k)) h
  rw [fld_at ev] at h1
  cases h5
  exact Fld.start h1
theorem own_fldN {Z : State} {a : Addr} {t : Jvm.Term} {C n d : String} (ev : t.eval args Z none [] Z = some (.ref a)) (h : (Jvm.Cond.eq (Jvm.Term.field t C n d) Jvm.Term.null).value args Z none Z [] = some true) : Fld Z Z.heap a C n d .null := by
  have h1 := null_v h
  rw [fld_at ev] at h1
  exact Fld.start h1
theorem own_e0 {P : Prop} [Decidable P] (h : (if P then (1 : Int32) else (0 : Int32)) = 0) : ¬ P := fun q => by rw [if_pos q] at h; exact absurd h (by decide)
theorem own_e1 {P : Prop} [Decidable P] (h : ¬ (if P then (1 : Int32) else (0 : Int32)) = 0) : P := by
  by_cases q : P
  · exact q
  · exact absurd (if_neg q) h
theorem own_n2 {P Q : Prop} [Decidable P] [Decidable Q] {A : Int32} (h : ¬ (P ∧ Q)) : (if P then (if Q then A else (0 : Int32)) else (0 : Int32)) = 0 := by
  by_cases p : P
  · rw [if_pos p, if_neg (fun q => h ⟨p, q⟩)]
  · rw [if_neg p]
theorem own_narR {v : Value} {C : String} (h : v.isRef = true) : narrow (.object C) v = v := by rcases ref_cases h with rfl | ⟨_, rfl⟩ <;> rfl
theorem own_fitR {v : Value} {C : String} (h : v.isRef = true) : fits (.object C) v = true := by rcases ref_cases h with rfl | ⟨_, rfl⟩ <;> rfl
theorem own_len {Z : State} {t : Jvm.Term} {a : Addr} {cl : Cell} {ty : FieldType} {k : Int32} (et : t.eval args Z none [] Z = some (.ref a)) (A : Arr Z Z.heap a cl ty) (h : (Jvm.Term.length t).eval args Z none [] Z = some (.int k)) : cl.slots.size < 2 ^ 31 ∧ cl.slots.size.toInt32 = k := by
  have hA := A.fin (Vm.Alike.refl Z.vm)
  by_cases q : cl.slots.size < 2 ^ 31
  · rw [len_f et hA q] at h; exact ⟨q, by simpa using h⟩
  · simp [Jvm.Term.eval, et, hA] at h; exact absurd h.1 q
theorem own_mvM {Z : State} {a0 : Array Value} {own host : String} {index : Nat} {y : MethodName} (hZ : Z.Warmed39 s.vm) (w : (Jvm.Cond.methodLinkNest own index y host).before a0 Z = true) : (Jvm.Cond.methodLinkNest own index y host).before args s = true := (Cond.methodLinkNest_wide hZ w :)
end OwnKit
theorem d1_0 : decode prog_50_method_2_code 0 = .ok (.iload_n 0, 1) := by decide +kernel
theorem d1_1 : decode prog_50_method_2_code 1 = .ok (.ifCond .eq 9, 3) := by decide +kernel
theorem d1_4 : decode prog_50_method_2_code 4 = .ok (.getstatic 33, 3) := by decide +kernel
theorem d1_7 : decode prog_50_method_2_code 7 = .ok (.goto 6, 3) := by decide +kernel
theorem d1_10 : decode prog_50_method_2_code 10 = .ok (.getstatic 37, 3) := by decide +kernel
theorem d1_13 : decode prog_50_method_2_code 13 = .ok (.areturn, 1) := by decide +kernel
theorem d2_0 : decode prog_50_method_12_code 0 = .ok (.aload_n 0, 1) := by decide +kernel
theorem d2_1 : decode prog_50_method_12_code 1 = .ok (.getfield 7, 3) := by decide +kernel
theorem d2_4 : decode prog_50_method_12_code 4 = .ok (.ireturn, 1) := by decide +kernel
theorem d3_0 : decode prog_50_method_14_code 0 = .ok (.aload_n 0, 1) := by decide +kernel
theorem d3_1 : decode prog_50_method_14_code 1 = .ok (.getfield 13, 3) := by decide +kernel
theorem d3_4 : decode prog_50_method_14_code 4 = .ok (.ifnonnull 14, 3) := by decide +kernel
theorem d3_7 : decode prog_50_method_14_code 7 = .ok (.aload_n 0, 1) := by decide +kernel
theorem d3_8 : decode prog_50_method_14_code 8 = .ok (.getfield 21, 3) := by decide +kernel
theorem d3_11 : decode prog_50_method_14_code 11 = .ok (.ifnonnull 7, 3) := by decide +kernel
theorem d3_14 : decode prog_50_method_14_code 14 = .ok (.iconst 1, 1) := by decide +kernel
theorem d3_15 : decode prog_50_method_14_code 15 = .ok (.goto 4, 3) := by decide +kernel
theorem d3_19 : decode prog_50_method_14_code 19 = .ok (.ireturn, 1) := by decide +kernel
theorem pn_0 : plainName "alternant/Obligation" = true := by first | (simp [plainName, overriddenIn]; done) | decide +kernel
theorem pn_1 : plainName "alternant/ObligationOfPinLaw" = true := by first | (simp [plainName, overriddenIn]; done) | decide +kernel
theorem pd_0 : parseMethodDescriptor "(Z)Lalternant/Obligation;" = some ⟨[.boolean], some (.object "alternant/Obligation")⟩ := by decide +kernel
theorem pd_1 : parseMethodDescriptor "()I" = some ⟨[], some .int⟩ := by decide +kernel
theorem pd_2 : parseMethodDescriptor "()Z" = some ⟨[], some .boolean⟩ := by decide +kernel
theorem ef_rm1_1 (m : MethodId) (x0 : Int32) : entryFrame m #[(.int x0)] 1 = mkF m 0 #[.val (.int x0)] [] := by first | (simp [entryFrame, mkF, argsToLocals, Value.category]; done) | rfl
theorem ef_rm1_0 (m : MethodId) (x0 : Int32) : entryFrame m #[(.int x0)] 1 = mkF m 0 #[.val (.int x0)] [] := by first | (simp [entryFrame, mkF, argsToLocals, Value.category]; done) | rfl
theorem ef_rm2 (m : MethodId) (x0 : Addr) : entryFrame m #[(.ref x0)] 1 = mkF m 0 #[.val (.ref x0)] [] := by first | (simp [entryFrame, mkF, argsToLocals, Value.category]; done) | rfl
theorem ef_rm3 (m : MethodId) (x0 : Addr) : entryFrame m #[(.ref x0)] 1 = mkF m 0 #[.val (.ref x0)] [] := by first | (simp [entryFrame, mkF, argsToLocals, Value.category]; done) | rfl
theorem ef_rm0 (m : MethodId) (x0 : Int32) : entryFrame m #[(.int x0)] maxLocals = mkF m 0 #[.val (.int x0), .unset, .unset, .unset, .unset, .unset, .unset, .unset] [] := by first | (simp [entryFrame, mkF, argsToLocals, Value.category, maxLocals]; done) | rfl
def Q_rm1_1 (Z : State) (h0 : Heap) (n0 : Nat) (w_TRUE : Addr) : Option Value → Heap → List Loc → Prop := fun v h L => v = some (.ref w_TRUE) ∧ L = [] ∧ h = h0
set_option maxRecDepth 65536 in
set_option maxHeartbeats 40000000 in
theorem rm1_1 (l : Launch) (Z : State) (a0 : Array Value) (hw : ∀ d ∈ tables_1, d.before a0 Z = true) (ws : List Jvm.Cond) (h0 : Heap) (n0 : Nat) (O : Old Z n0 h0) (w_TRUE : Addr) (S_TRUE : Sta Z Z.heap "alternant/Obligation" "TRUE" "Lalternant/Obligation;" (.ref w_TRUE)) :
    MetFree l (⟨"alternant/Obligation", "of", "(Z)Lalternant/Obligation;"⟩ : MethodName) (head1 (Jvm.Cond.code (⟨"alternant/Obligation", "of", "(Z)Lalternant/Obligation;"⟩ : MethodName) prog_50_method_2_code 1 (some (.object "alternant/Obligation")) :: ws) ({ frames := 0, cells := 0, slots := 0, locals := 0 } : Room)) (fun a U => a = #[(.int (1 : Int32))] ∧ Z.Warmed39 U.vm ∧ U.heap = h0) (fun _ _ _ _ _ => True) (fun _ U o U' => ∃ v L, o = .returned v ∧ (Q_rm1_1 Z h0 n0 w_TRUE) v U'.heap L ∧ FrameEnd U o U' L ({ frames := 0, cells := 0, slots := 0, locals := 0 } : Room).cells ({ frames := 0, cells := 0, slots := 0, locals := 0 } : Room).slots) := by
  refine MetFree.of_bodySF (plainFor_of_name pn_0) hisR ?_
  intro p e s m args below meth c s₁ Bd hml0 hP hK
  obtain ⟨rfl, hZ, hh⟩ := hP
  have hx := Bd.exec
  have hby := Bd.bytes
  have hml : c.maxLocals = 1 := hml0
  have hown : s.vm.findClass "alternant/Obligation" = some m.cls := findClass_of_methodNamed Bd.named
  have hnm := (name_of_methodNamed Bd.named Bd.method).1
  have hlk := BodyLoose.notSynchronized Bd
  have X0 : Stand p l e ({ frames := 0, cells := 0, slots := 0, locals := 0 } : Room) s m #[(.int (1 : Int32))] below meth c s₁ [] 0 0 := Stand.of_body Bd
  have e0 : s₁.heap = h0 := by rw [← hh, Bd.state]; rfl
  have N := Fr.nil n0
  obtain ⟨G, hG⟩ : ∃ G : State → JFrame → Prop, G = OwnG p e below s ({ frames := 0, cells := 0, slots := 0, locals := 0 } : Room).cells ({ frames := 0, cells := 0, slots := 0, locals := 0 } : Room).slots (Q_rm1_1 Z h0 n0 w_TRUE) := ⟨_, rfl⟩
  have gb : ∀ {T T' : State} {g g' : JFrame}, (∀ t, Steps p.tables e below (T'.setTop g') t → Steps p.tables e below (T.setTop g) t) → G T' g' → G T g := by subst hG; exact fun k h => own_by k h
  have go : ∀ {T : State} {locs : List Loc} {cells slots : Nat} {g : JFrame} {v : Option Value}, Stand p l e ({ frames := 0, cells := 0, slots := 0, locals := 0 } : Room) s m #[(.int (1 : Int32))] below meth c T locs cells slots → (meth.sig.returnType = none → v = none) → (∀ fs, (∀ (f : JFrame) (acts : List Action), f.method = m → f.locked = none → f.entered = [] → (doReturn e (T.setTop f) acts v).1 = T.setFrames fs) → Steps p.tables e below (T.setTop g) (T.setFrames fs)) → (Q_rm1_1 Z h0 n0 w_TRUE) v T.heap locs → cells ≤ ({ frames := 0, cells := 0, slots := 0, locals := 0 } : Room).cells → slots ≤ ({ frames := 0, cells := 0, slots := 0, locals := 0 } : Room).slots → G T g := by subst hG; exact fun X h1 h2 h3 h4 h5 => own_out X hlk h1 h2 h3 h4 h5
  show OwnG p e below s ({ frames := 0, cells := 0, slots := 0, locals := 0 } : Room).cells ({ frames := 0, cells := 0, slots := 0, locals := 0 } : Room).slots (Q_rm1_1 Z h0 n0 w_TRUE) s₁ (entryFrame m #[(.int (1 : Int32))] 1)
  rw [← hG, ef_rm1_1 m (1 : Int32)]
  clear hG
  show G s₁ (mkF m 0 #[.val (.int (1 : Int32))] [])
  refine gb (fun _ k => XS.iloadN X0.here hx rfl (hb hby d1_0) rfl (XS.ifNo X0.here hx rfl (hb hby d1_1) rfl ((if0 _ _).trans (feq (by decide : ¬ ((1 : Int32) = (0 : Int32)))).1) k)) ?_
  show G s₁ (mkF m 4 #[iv 1] [])
  obtain ⟨T1, X1, e1, st1⟩ := getS2 X0 hx hZ hown (host := "") (Or.inl (ow hw 6 rfl)) Via.refl e0 (S_TRUE.ext O.2) (g := (mkF m 4 #[iv 1] [])) rfl (hb hby d1_4)
  refine gb st1 ?_
  show G T1 (mkF m 7 #[iv 1] [.ref w_TRUE])
  refine gb (fun _ k => XS.goto X1.here hx rfl (pc0 := 7) (pc' := 13) rfl (hb hby d1_7) (by decide) (by decide) k) ?_
  show G T1 (mkF m 13 #[iv 1] [.ref w_TRUE])
  exact go X1 (v := (some (.ref w_TRUE))) (fun h => by rw [Bd.returns] at h; cases h) (fun fs hr => retOut X1 hx Bd.returns rfl (Or.inr (Or.inr (Or.inr (Or.inr ⟨rfl, rfl, rfl⟩)))) (hb hby d1_13) hr) (⟨rfl, rfl, e1⟩) (by decide) (by decide)
def Q_rm1_0 (Z : State) (h0 : Heap) (n0 : Nat) (w_FALSE : Addr) : Option Value → Heap → List Loc → Prop := fun v h L => v = some (.ref w_FALSE) ∧ L = [] ∧ h = h0
set_option maxRecDepth 65536 in
set_option maxHeartbeats 40000000 in
theorem rm1_0 (l : Launch) (Z : State) (a0 : Array Value) (hw : ∀ d ∈ tables_1, d.before a0 Z = true) (ws : List Jvm.Cond) (h0 : Heap) (n0 : Nat) (O : Old Z n0 h0) (w_FALSE : Addr) (S_FALSE : Sta Z Z.heap "alternant/Obligation" "FALSE" "Lalternant/Obligation;" (.ref w_FALSE)) :
    MetFree l (⟨"alternant/Obligation", "of", "(Z)Lalternant/Obligation;"⟩ : MethodName) (head1 (Jvm.Cond.code (⟨"alternant/Obligation", "of", "(Z)Lalternant/Obligation;"⟩ : MethodName) prog_50_method_2_code 1 (some (.object "alternant/Obligation")) :: ws) ({ frames := 0, cells := 0, slots := 0, locals := 0 } : Room)) (fun a U => a = #[(.int (0 : Int32))] ∧ Z.Warmed39 U.vm ∧ U.heap = h0) (fun _ _ _ _ _ => True) (fun _ U o U' => ∃ v L, o = .returned v ∧ (Q_rm1_0 Z h0 n0 w_FALSE) v U'.heap L ∧ FrameEnd U o U' L ({ frames := 0, cells := 0, slots := 0, locals := 0 } : Room).cells ({ frames := 0, cells := 0, slots := 0, locals := 0 } : Room).slots) := by
  refine MetFree.of_bodySF (plainFor_of_name pn_0) hisR ?_
  intro p e s m args below meth c s₁ Bd hml0 hP hK
  obtain ⟨rfl, hZ, hh⟩ := hP
  have hx := Bd.exec
  have hby := Bd.bytes
  have hml : c.maxLocals = 1 := hml0
  have hown : s.vm.findClass "alternant/Obligation" = some m.cls := findClass_of_methodNamed Bd.named
  have hnm := (name_of_methodNamed Bd.named Bd.method).1
  have hlk := BodyLoose.notSynchronized Bd
  have X0 : Stand p l e ({ frames := 0, cells := 0, slots := 0, locals := 0 } : Room) s m #[(.int (0 : Int32))] below meth c s₁ [] 0 0 := Stand.of_body Bd
  have e0 : s₁.heap = h0 := by rw [← hh, Bd.state]; rfl
  have N := Fr.nil n0
  obtain ⟨G, hG⟩ : ∃ G : State → JFrame → Prop, G = OwnG p e below s ({ frames := 0, cells := 0, slots := 0, locals := 0 } : Room).cells ({ frames := 0, cells := 0, slots := 0, locals := 0 } : Room).slots (Q_rm1_0 Z h0 n0 w_FALSE) := ⟨_, rfl⟩
  have gb : ∀ {T T' : State} {g g' : JFrame}, (∀ t, Steps p.tables e below (T'.setTop g') t → Steps p.tables e below (T.setTop g) t) → G T' g' → G T g := by subst hG; exact fun k h => own_by k h
  have go : ∀ {T : State} {locs : List Loc} {cells slots : Nat} {g : JFrame} {v : Option Value}, Stand p l e ({ frames := 0, cells := 0, slots := 0, locals := 0 } : Room) s m #[(.int (0 : Int32))] below meth c T locs cells slots → (meth.sig.returnType = none → v = none) → (∀ fs, (∀ (f : JFrame) (acts : List Action), f.method = m → f.locked = none → f.entered = [] → (doReturn e (T.setTop f) acts v).1 = T.setFrames fs) → Steps p.tables e below (T.setTop g) (T.setFrames fs)) → (Q_rm1_0 Z h0 n0 w_FALSE) v T.heap locs → cells ≤ ({ frames := 0, cells := 0, slots := 0, locals := 0 } : Room).cells → slots ≤ ({ frames := 0, cells := 0, slots := 0, locals := 0 } : Room).slots → G T g := by subst hG; exact fun X h1 h2 h3 h4 h5 => own_out X hlk h1 h2 h3 h4 h5
  show OwnG p e below s ({ frames := 0, cells := 0, slots := 0, locals := 0 } : Room).cells ({ frames := 0, cells := 0, slots := 0, locals := 0 } : Room).slots (Q_rm1_0 Z h0 n0 w_FALSE) s₁ (entryFrame m #[(.int (0 : Int32))] 1)
  rw [← hG, ef_rm1_0 m (0 : Int32)]
  clear hG
  show G s₁ (mkF m 0 #[.val (.int (0 : Int32))] [])
  refine gb (fun _ k => XS.iloadN X0.here hx rfl (hb hby d1_0) rfl (XS.ifYes X0.here hx rfl (pc0 := 1) (pc' := 10) rfl (hb hby d1_1) rfl ((if0 _ _).trans (teq (by decide : (0 : Int32) = (0 : Int32))).1) (by decide) (by decide) k)) ?_
  show G s₁ (mkF m 10 #[iv 0] [])
  obtain ⟨T1, X1, e1, st1⟩ := getS2 X0 hx hZ hown (host := "") (Or.inl (ow hw 4 rfl)) Via.refl e0 (S_FALSE.ext O.2) (g := (mkF m 10 #[iv 0] [])) rfl (hb hby d1_10)
  refine gb st1 ?_
  show G T1 (mkF m 13 #[iv 0] [.ref w_FALSE])
  exact go X1 (v := (some (.ref w_FALSE))) (fun h => by rw [Bd.returns] at h; cases h) (fun fs hr => retOut X1 hx Bd.returns rfl (Or.inr (Or.inr (Or.inr (Or.inr ⟨rfl, rfl, rfl⟩)))) (hb hby d1_13) hr) (⟨rfl, rfl, e1⟩) (by decide) (by decide)
def Q_rm2 (Z : State) (a1 : Addr) (k1 : Int32) (h0 : Heap) (n0 : Nat) : Option Value → Heap → List Loc → Prop := fun v h L => v = some (.int k1) ∧ L = [] ∧ h = h0
set_option maxRecDepth 65536 in
set_option maxHeartbeats 40000000 in
theorem rm2 (l : Launch) (Z : State) (a0 : Array Value) (hw : ∀ d ∈ tables_1, d.before a0 Z = true) (ws : List Jvm.Cond) (a1 : Addr) (k1 : Int32) (h0 : Heap) (n0 : Nat) (O : Old Z n0 h0) (F_serial_a1 : Fld Z h0 a1 "alternant/Obligation" "serial" "I" (.int k1)) :
    MetFree l (⟨"alternant/Obligation", "number", "()I"⟩ : MethodName) (head1 (Jvm.Cond.code (⟨"alternant/Obligation", "number", "()I"⟩ : MethodName) prog_50_method_12_code 1 (some .int) :: ws) ({ frames := 0, cells := 0, slots := 0, locals := 0 } : Room)) (fun a U => a = #[(.ref a1)] ∧ Z.Warmed39 U.vm ∧ U.heap = h0) (fun _ _ _ _ _ => True) (fun _ U o U' => ∃ v L, o = .returned v ∧ (Q_rm2 Z a1 k1 h0 n0) v U'.heap L ∧ FrameEnd U o U' L ({ frames := 0, cells := 0, slots := 0, locals := 0 } : Room).cells ({ frames := 0, cells := 0, slots := 0, locals := 0 } : Room).slots) := by
  refine MetFree.of_bodySF (plainFor_of_name pn_0) hisR ?_
  intro p e s m args below meth c s₁ Bd hml0 hP hK
  obtain ⟨rfl, hZ, hh⟩ := hP
  have hx := Bd.exec
  have hby := Bd.bytes
  have hml : c.maxLocals = 1 := hml0
  have hown : s.vm.findClass "alternant/Obligation" = some m.cls := findClass_of_methodNamed Bd.named
  have hnm := (name_of_methodNamed Bd.named Bd.method).1
  have hlk := BodyLoose.notSynchronized Bd
  have X0 : Stand p l e ({ frames := 0, cells := 0, slots := 0, locals := 0 } : Room) s m #[(.ref a1)] below meth c s₁ [] 0 0 := Stand.of_body Bd
  have e0 : s₁.heap = h0 := by rw [← hh, Bd.state]; rfl
  have N := Fr.nil n0
  obtain ⟨G, hG⟩ : ∃ G : State → JFrame → Prop, G = OwnG p e below s ({ frames := 0, cells := 0, slots := 0, locals := 0 } : Room).cells ({ frames := 0, cells := 0, slots := 0, locals := 0 } : Room).slots (Q_rm2 Z a1 k1 h0 n0) := ⟨_, rfl⟩
  have gb : ∀ {T T' : State} {g g' : JFrame}, (∀ t, Steps p.tables e below (T'.setTop g') t → Steps p.tables e below (T.setTop g) t) → G T' g' → G T g := by subst hG; exact fun k h => own_by k h
  have go : ∀ {T : State} {locs : List Loc} {cells slots : Nat} {g : JFrame} {v : Option Value}, Stand p l e ({ frames := 0, cells := 0, slots := 0, locals := 0 } : Room) s m #[(.ref a1)] below meth c T locs cells slots → (meth.sig.returnType = none → v = none) → (∀ fs, (∀ (f : JFrame) (acts : List Action), f.method = m → f.locked = none → f.entered = [] → (doReturn e (T.setTop f) acts v).1 = T.setFrames fs) → Steps p.tables e below (T.setTop g) (T.setFrames fs)) → (Q_rm2 Z a1 k1 h0 n0) v T.heap locs → cells ≤ ({ frames := 0, cells := 0, slots := 0, locals := 0 } : Room).cells → slots ≤ ({ frames := 0, cells := 0, slots := 0, locals := 0 } : Room).slots → G T g := by subst hG; exact fun X h1 h2 h3 h4 h5 => own_out X hlk h1 h2 h3 h4 h5
  show OwnG p e below s ({ frames := 0, cells := 0, slots := 0, locals := 0 } : Room).cells ({ frames := 0, cells := 0, slots := 0, locals := 0 } : Room).slots (Q_rm2 Z a1 k1 h0 n0) s₁ (entryFrame m #[(.ref a1)] 1)
  rw [← hG, ef_rm2 m a1]
  clear hG
  show G s₁ (mkF m 0 #[.val (.ref a1)] [])
  refine gb (fun _ k => XS.aloadN X0.here hx rfl (hb hby d2_0) rfl rfl k) ?_
  show G s₁ (mkF m 1 #[rv a1] [.ref a1])
  obtain ⟨T1, X1, e1, st1⟩ := getF X0 hx hZ hown (host := "") (Or.inl (ow hw 14 rfl)) Via.refl e0 F_serial_a1 (g := (mkF m 1 #[rv a1] [.ref a1])) rfl rfl (hb hby d2_1)
  refine gb st1 ?_
  show G T1 (mkF m 4 #[rv a1] [.int k1])
  exact go X1 (v := (some (.int k1))) (fun h => by rw [Bd.returns] at h; cases h) (fun fs hr => retOut X1 hx Bd.returns rfl (Or.inl ⟨rfl, by simp, _, rfl⟩) (hb hby d2_4) hr) (⟨rfl, rfl, e1⟩) (by decide) (by decide)
def Q_rm3 (Z : State) (a1 : Addr) (h0 : Heap) (n0 : Nat) : Option Value → Heap → List Loc → Prop := fun v h L => v = some (.int 1) ∧ L = [] ∧ h = h0
set_option maxRecDepth 65536 in
set_option maxHeartbeats 40000000 in
theorem rm3 (l : Launch) (Z : State) (a0 : Array Value) (hw : ∀ d ∈ tables_1, d.before a0 Z = true) (ws : List Jvm.Cond) (a1 : Addr) (h0 : Heap) (n0 : Nat) (O : Old Z n0 h0) (F_c_a1 : Fld Z h0 a1 "alternant/Obligation" "configuration" "Lalternant/Obligation$Configuration;" .null) (F_o_a1 : Fld Z h0 a1 "alternant/Obligation" "operands" "[Lalternant/Obligation;" .null) :
    MetFree l (⟨"alternant/Obligation", "isDecided", "()Z"⟩ : MethodName) (head1 (Jvm.Cond.code (⟨"alternant/Obligation", "isDecided", "()Z"⟩ : MethodName) prog_50_method_14_code 1 (some .boolean) :: ws) ({ frames := 0, cells := 0, slots := 0, locals := 0 } : Room)) (fun a U => a = #[(.ref a1)] ∧ Z.Warmed39 U.vm ∧ U.heap = h0) (fun _ _ _ _ _ => True) (fun _ U o U' => ∃ v L, o = .returned v ∧ (Q_rm3 Z a1 h0 n0) v U'.heap L ∧ FrameEnd U o U' L ({ frames := 0, cells := 0, slots := 0, locals := 0 } : Room).cells ({ frames := 0, cells := 0, slots := 0, locals := 0 } : Room).slots) := by
  refine MetFree.of_bodySF (plainFor_of_name pn_0) hisR ?_
  intro p e s m args below meth c s₁ Bd hml0 hP hK
  obtain ⟨rfl, hZ, hh⟩ := hP
  have hx := Bd.exec
  have hby := Bd.bytes
  have hml : c.maxLocals = 1 := hml0
  have hown : s.vm.findClass "alternant/Obligation" = some m.cls := findClass_of_methodNamed Bd.named
  have hnm := (name_of_methodNamed Bd.named Bd.method).1
  have hlk := BodyLoose.notSynchronized Bd
  have X0 : Stand p l e ({ frames := 0, cells := 0, slots := 0, locals := 0 } : Room) s m #[(.ref a1)] below meth c s₁ [] 0 0 := Stand.of_body Bd
  have e0 : s₁.heap = h0 := by rw [← hh, Bd.state]; rfl
  have N := Fr.nil n0
  obtain ⟨G, hG⟩ : ∃ G : State → JFrame → Prop, G = OwnG p e below s ({ frames := 0, cells := 0, slots := 0, locals := 0 } : Room).cells ({ frames := 0, cells := 0, slots := 0, locals := 0 } : Room).slots (Q_rm3 Z a1 h0 n0) := ⟨_, rfl⟩
  have gb : ∀ {T T' : State} {g g' : JFrame}, (∀ t, Steps p.tables e below (T'.setTop g') t → Steps p.tables e below (T.setTop g) t) → G T' g' → G T g := by subst hG; exact fun k h => own_by k h
  have go : ∀ {T : State} {locs : List Loc} {cells slots : Nat} {g : JFrame} {v : Option Value}, Stand p l e ({ frames := 0, cells := 0, slots := 0, locals := 0 } : Room) s m #[(.ref a1)] below meth c T locs cells slots → (meth.sig.returnType = none → v = none) → (∀ fs, (∀ (f : JFrame) (acts : List Action), f.method = m → f.locked = none → f.entered = [] → (doReturn e (T.setTop f) acts v).1 = T.setFrames fs) → Steps p.tables e below (T.setTop g) (T.setFrames fs)) → (Q_rm3 Z a1 h0 n0) v T.heap locs → cells ≤ ({ frames := 0, cells := 0, slots := 0, locals := 0 } : Room).cells → slots ≤ ({ frames := 0, cells := 0, slots := 0, locals := 0 } : Room).slots → G T g := by subst hG; exact fun X h1 h2 h3 h4 h5 => own_out X hlk h1 h2 h3 h4 h5
  show OwnG p e below s ({ frames := 0, cells := 0, slots := 0, locals := 0 } : Room).cells ({ frames := 0, cells := 0, slots := 0, locals := 0 } : Room).slots (Q_rm3 Z a1 h0 n0) s₁ (entryFrame m #[(.ref a1)] 1)
  rw [← hG, ef_rm3 m a1]
  clear hG
  show G s₁ (mkF m 0 #[.val (.ref a1)] [])
  refine gb (fun _ k => XS.aloadN X0.here hx rfl (hb hby d3_0) rfl rfl k) ?_
  show G s₁ (mkF m 1 #[rv a1] [.ref a1])
  obtain ⟨T1, X1, e1, st1⟩ := getF X0 hx hZ hown (host := "") (Or.inl (ow hw 21 rfl)) Via.refl e0 F_c_a1 (g := (mkF m 1 #[rv a1] [.ref a1])) rfl rfl (hb hby d3_1)
  refine gb st1 ?_
  show G T1 (mkF m 4 #[rv a1] [.null])
  refine gb (fun _ k => XS.ifnonnullNo X1.here hx rfl (hb hby d3_4) rfl (XS.aloadN X1.here hx rfl (hb hby d3_7) rfl rfl k)) ?_
  show G T1 (mkF m 8 #[rv a1] [.ref a1])
  obtain ⟨T2, X2, e2, st2⟩ := getF X1 hx hZ hown (host := "") (Or.inl (ow hw 23 rfl)) Via.refl e1 F_o_a1 (g := (mkF m 8 #[rv a1] [.ref a1])) rfl rfl (hb hby d3_8)
  refine gb st2 ?_
  show G T2 (mkF m 11 #[rv a1] [.null])
  refine gb (fun _ k => XS.ifnonnullNo X2.here hx rfl (hb hby d3_11) rfl (XS.iconst X2.here hx rfl (hb hby d3_14) (XS.goto X2.here hx rfl (pc0 := 15) (pc' := 19) rfl (hb hby d3_15) (by decide) (by decide) k))) ?_
  show G T2 (mkF m 19 #[rv a1] [.int 1])
  exact go X2 (v := (some (.int (1 : Int32)))) (fun h => by rw [Bd.returns] at h; cases h) (fun fs hr => retOut X2 hx Bd.returns rfl (Or.inl ⟨rfl, by simp, _, rfl⟩) (hb hby d3_19) hr) (⟨rfl, rfl, e2⟩) (by decide) (by decide)
def Q_rm0 (Z : State) (i0 : Int32) (h0 : Heap) (n0 : Nat) (w_TRUE : Addr) (w_FALSE : Addr) : Option Value → Heap → List Loc → Prop := fun v h L => v = some (.int 1) ∧ Fr n0 L
set_option maxRecDepth 65536 in
set_option maxHeartbeats 40000000 in
theorem rm0 (l : Launch) (Z : State) (a0 : Array Value) (hw : ∀ d ∈ tables_1, d.before a0 Z = true) (ws : List Jvm.Cond) (i0 : Int32) (h0 : Heap) (n0 : Nat) (O : Old Z n0 h0) (w_TRUE : Addr) (S_TRUE : Sta Z Z.heap "alternant/Obligation" "TRUE" "Lalternant/Obligation;" (.ref w_TRUE)) (w_FALSE : Addr) (S_FALSE : Sta Z Z.heap "alternant/Obligation" "FALSE" "Lalternant/Obligation;" (.ref w_FALSE)) (E_TRUE : Exa Z Z.heap w_TRUE "alternant/Obligation") (F_serial_TRUE : Fld Z Z.heap w_TRUE "alternant/Obligation" "serial" "I" (.int (-1 : Int32))) (F_configuration_TRUE : Fld Z Z.heap w_TRUE "alternant/Obligation" "configuration" "Lalternant/Obligation$Configuration;" .null) (F_operands_TRUE : Fld Z Z.heap w_TRUE "alternant/Obligation" "operands" "[Lalternant/Obligation;" .null) (E_FALSE : Exa Z Z.heap w_FALSE "alternant/Obligation") (F_serial_FALSE : Fld Z Z.heap w_FALSE "alternant/Obligation" "serial" "I" (.int (-2 : Int32))) (F_configuration_FALSE : Fld Z Z.heap w_FALSE "alternant/Obligation" "configuration" "Lalternant/Obligation$Configuration;" .null) (F_operands_FALSE : Fld Z Z.heap w_FALSE "alternant/Obligation" "operands" "[Lalternant/Obligation;" .null) (hne : w_FALSE ≠ w_TRUE) :
    MetFree l x (head1 (Jvm.Cond.code x code maxLocals ret :: ws) room_1) (fun a U => a = #[(.int i0)] ∧ Z.Warmed39 U.vm ∧ U.heap = h0 ∧ U = Z) (fun _ _ _ _ _ => True) (fun _ U o U' => ∃ v L, o = .returned v ∧ (Q_rm0 Z i0 h0 n0 w_TRUE w_FALSE) v U'.heap L ∧ FrameEnd U o U' L 0 0) := by
  refine MetFree.of_bodySF (plainFor_of_name pn_1) hisR ?_
  intro p e s m args below meth c s₁ Bd hml0 hP hK
  obtain ⟨rfl, hZ, hh, hUZ⟩ := hP
  have hx := Bd.exec
  have hby := Bd.bytes
  have hml : c.maxLocals = 8 := hml0
  have hown : s.vm.findClass "alternant/ObligationOfPinLaw" = some m.cls := findClass_of_methodNamed Bd.named
  have hnm := (name_of_methodNamed Bd.named Bd.method).1
  have hlk := BodyLoose.notSynchronized Bd
  have X0 : Stand p l e room_1 s m #[(.int i0)] below meth c s₁ [] 0 0 := Stand.of_body Bd
  have e0 : s₁.heap = h0 := by rw [← hh, Bd.state]; rfl
  have N := Fr.nil n0
  have O0 := O
  obtain ⟨G, hG⟩ : ∃ G : State → JFrame → Prop, G = OwnG p e below s 0 0 (Q_rm0 Z i0 h0 n0 w_TRUE w_FALSE) := ⟨_, rfl⟩
  have gb : ∀ {T T' : State} {g g' : JFrame}, (∀ t, Steps p.tables e below (T'.setTop g') t → Steps p.tables e below (T.setTop g) t) → G T' g' → G T g := by subst hG; exact fun k h => own_by k h
  have go : ∀ {T : State} {locs : List Loc} {cells slots : Nat} {g : JFrame} {v : Option Value}, Stand p l e room_1 s m #[(.int i0)] below meth c T locs cells slots → (meth.sig.returnType = none → v = none) → (∀ fs, (∀ (f : JFrame) (acts : List Action), f.method = m → f.locked = none → f.entered = [] → (doReturn e (T.setTop f) acts v).1 = T.setFrames fs) → Steps p.tables e below (T.setTop g) (T.setFrames fs)) → (Q_rm0 Z i0 h0 n0 w_TRUE w_FALSE) v T.heap locs → cells ≤ 0 → slots ≤ 0 → G T g := by subst hG; exact fun X h1 h2 h3 h4 h5 => own_out X hlk h1 h2 h3 h4 h5
  show OwnG p e below s 0 0 (Q_rm0 Z i0 h0 n0 w_TRUE w_FALSE) s₁ (entryFrame m #[(.int i0)] maxLocals)
  rw [← hG, ef_rm0 m i0]
  clear hG
  show G s₁ (mkF m 0 #[.val (.int i0), .unset, .unset, .unset, .unset, .unset, .unset, .unset] [])
  refine gb (fun _ k => XS.iloadN X0.here hx rfl (hb hby at_0) rfl (XS.iconst X0.here hx rfl (hb hby at_1) (XS.iand X0.here hx rfl (hb hby at_2) rfl k))) ?_
  show G s₁ (mkF m 3 #[iv i0, .unset, .unset, .unset, .unset, .unset, .unset, .unset] [.int (i0 &&& (1 : Int32))])
  by_cases hc3 : (i0 &&& (1 : Int32)) = (0 : Int32)
  · skip
    refine gb (fun _ k => XS.ifYes X0.here hx rfl (pc0 := 3) (pc' := 10) rfl (hb hby at_3) rfl ((if0 _ _).trans (teq hc3).1) (by decide) (by decide) (XS.iconst X0.here hx rfl (hb hby at_10) (XS.istoreN X0.here hx rfl (hb hby at_11) rfl (l' := #[iv i0, iv 0, .unset, .unset, .unset, .unset, .unset, .unset]) rfl (XS.iloadN X0.here hx rfl (hb hby at_12) rfl k)))) ?_
    show G s₁ (mkF m 13 #[iv i0, iv 0, .unset, .unset, .unset, .unset, .unset, .unset] [.int 0])
    obtain ⟨_, _, ⟨T1, L1, k1, n1⟩, -, X1, ⟨Lc1, hQ1, l1, y1, z1⟩, st1⟩ := Jvm.LawKit.callS X0 hx (y := (⟨"alternant/Obligation", "of", "(Z)Lalternant/Obligation;"⟩ : MethodName)) hown (mvT hZ (ow hw 0 rfl)) (mvT hZ (ow hw 1 rfl)) (mvT hZ (ow hw 2 rfl)) (mvT hZ (ow hw 3 rfl)) (by decide) (backOf (W := 0) (rm1_0 l Z a0 hw [] h0 n0 O w_FALSE S_FALSE) hZ (ow hw 3 rfl) (ow hw 2 rfl) (by decide) (by decide)) (g := (mkF m 13 #[iv i0, iv 0, .unset, .unset, .unset, .unset, .unset, .unset] [.int 0])) rfl (by rw [hml]; rfl) (argsL := [(.int (0 : Int32))]) (rest := []) (lenOf pd_0 rfl) rfl (by show 2 * 0 + _ ≤ _; exact Nat.le_of_eq rfl) (hb hby at_13) (fun _ _ => ⟨rfl, e0, (by decide : 0 + 0 ≤ _), (by decide : 0 + 0 ≤ _)⟩)
    dsimp only [Pt.U, Pt.locs, Pt.cells, Pt.slots] at X1 l1 y1 z1 st1 hQ1
    subst l1 y1 z1
    obtain ⟨rfl, rfl, e1⟩ := hQ1
    try rw [List.append_nil] at X1
    refine gb st1 ?_
    show G T1 (mkF m 16 #[iv i0, iv 0, .unset, .unset, .unset, .unset, .unset, .unset] [.ref w_FALSE])
    refine gb (fun _ k => XS.astoreN X1.here hx rfl (hb hby at_16) rfl rfl (l' := #[iv i0, iv 0, rv w_FALSE, .unset, .unset, .unset, .unset, .unset]) rfl (XS.iloadN X1.here hx rfl (hb hby at_17) rfl (XS.ifNo X1.here hx rfl (hb hby at_18) rfl ((if0 _ _).trans (teq (by decide : (0 : Int32) = (0 : Int32))).2) (XS.iconst X1.here hx rfl (hb hby at_21) (XS.goto X1.here hx rfl (pc0 := 22) (pc' := 26) rfl (hb hby at_22) (by decide) (by decide) k))))) ?_
    show G T1 (mkF m 26 #[iv i0, iv 0, rv w_FALSE, .unset, .unset, .unset, .unset, .unset] [.int 1])
    obtain ⟨_, _, ⟨T2, L2, k2, n2⟩, -, X2, ⟨Lc2, hQ2, l2, y2, z2⟩, st2⟩ := Jvm.LawKit.callS X1 hx (y := (⟨"alternant/Obligation", "of", "(Z)Lalternant/Obligation;"⟩ : MethodName)) hown (mvT hZ (ow hw 0 rfl)) (mvT hZ (ow hw 1 rfl)) (mvT hZ (ow hw 2 rfl)) (mvT hZ (ow hw 3 rfl)) (by decide) (backOf (W := 0) (rm1_1 l Z a0 hw [] h0 n0 O w_TRUE S_TRUE) hZ (ow hw 3 rfl) (ow hw 2 rfl) (by decide) (by decide)) (g := (mkF m 26 #[iv i0, iv 0, rv w_FALSE, .unset, .unset, .unset, .unset, .unset] [.int 1])) rfl (by rw [hml]; rfl) (argsL := [(.int (1 : Int32))]) (rest := []) (lenOf pd_0 rfl) rfl (by show 2 * 0 + _ ≤ _; exact Nat.le_of_eq rfl) (hb hby at_26) (fun _ _ => ⟨rfl, e1, (by decide : 0 + 0 ≤ _), (by decide : 0 + 0 ≤ _)⟩)
    dsimp only [Pt.U, Pt.locs, Pt.cells, Pt.slots] at X2 l2 y2 z2 st2 hQ2
    subst l2 y2 z2
    obtain ⟨rfl, rfl, e2⟩ := hQ2
    try rw [List.append_nil] at X2
    refine gb st2 ?_
    show G T2 (mkF m 29 #[iv i0, iv 0, rv w_FALSE, .unset, .unset, .unset, .unset, .unset] [.ref w_TRUE])
    refine gb (fun _ k => XS.astoreN X2.here hx rfl (hb hby at_29) rfl rfl (l' := #[iv i0, iv 0, rv w_FALSE, rv w_TRUE, .unset, .unset, .unset, .unset]) rfl (XS.iloadN X2.here hx rfl (hb hby at_30) rfl (XS.ifYes X2.here hx rfl (pc0 := 31) (pc' := 49) rfl (hb hby at_31) rfl ((if0 _ _).trans (teq (by decide : (0 : Int32) = (0 : Int32))).1) (by decide) (by decide) (XS.aloadN X2.here hx rfl (hb hby at_49) rfl rfl k)))) ?_
    show G T2 (mkF m 50 #[iv i0, iv 0, rv w_FALSE, rv w_TRUE, .unset, .unset, .unset, .unset] [.ref w_FALSE])
    obtain ⟨T3, X3, e3, st3⟩ := getS2 X2 hx hZ hown (host := "") (Or.inl (ow hw 8 rfl)) Via.refl e2 (S_FALSE.ext O.2) (g := (mkF m 50 #[iv i0, iv 0, rv w_FALSE, rv w_TRUE, .unset, .unset, .unset, .unset] [.ref w_FALSE])) rfl (hb hby at_50)
    refine gb st3 ?_
    show G T3 (mkF m 53 #[iv i0, iv 0, rv w_FALSE, rv w_TRUE, .unset, .unset, .unset, .unset] [.ref w_FALSE, .ref w_FALSE])
    refine gb (fun _ k => Jvm.RoadKit.acmp (g := (mkF m 53 #[iv i0, iv 0, rv w_FALSE, rv w_TRUE, .unset, .unset, .unset, .unset] [.ref w_FALSE, .ref w_FALSE])) X3 hx rfl rfl rfl (pc0 := 53) (pc' := 56) (same := true) rfl (hb hby at_53) rfl (decide_eq_true rfl) (by decide) (by decide) (XS.iconst X3.here hx rfl (hb hby at_56) (XS.goto X3.here hx rfl (pc0 := 57) (pc' := 61) rfl (hb hby at_57) (by decide) (by decide) (XS.istore X3.here hx rfl (hb hby at_61) rfl (l' := #[iv i0, iv 0, rv w_FALSE, rv w_TRUE, iv 1, .unset, .unset, .unset]) rfl (XS.aloadN X3.here hx rfl (hb hby at_63) rfl rfl k))))) ?_
    show G T3 (mkF m 64 #[iv i0, iv 0, rv w_FALSE, rv w_TRUE, iv 1, .unset, .unset, .unset] [.ref w_FALSE])
    obtain ⟨cq4, kq4, q4a, q4b, q4c⟩ := isOf hZ e3 (E_FALSE.ext O.2)
    obtain ⟨_, _, ⟨T4, L4, k4, n4⟩, -, X4, ⟨Lc4, hQ4, l4, y4, z4⟩, st4⟩ := X3.virtualBack hx (y := (⟨"alternant/Obligation", "number", "()I"⟩ : MethodName)) (z := (⟨"alternant/Obligation", "number", "()I"⟩ : MethodName)) hown (mvT hZ (ow hw 9 rfl)) (mvT hZ (ow hw 10 rfl)) (notFace_of_selects (args := #[]) (mvT hZ (ow hw 12 rfl))) (mvT hZ (ow hw 12 rfl)) (mvT hZ (ow hw 11 rfl)) (by decide) (backOf (W := 0) (rm2 l Z a0 hw [] w_FALSE (-2 : Int32) h0 n0 O (F_serial_FALSE.ext O.2)) hZ (ow hw 13 rfl) (ow hw 2 rfl) (by decide) (by decide)) q4a q4c (g := (mkF m 64 #[iv i0, iv 0, rv w_FALSE, rv w_TRUE, iv 1, .unset, .unset, .unset] [.ref w_FALSE])) rfl (by rw [hml]; rfl) (Steps.refl _) (argsL := []) (rest := []) (lenOf pd_1 rfl) rfl (by show 2 * 0 + _ ≤ _; exact Nat.le_of_eq rfl) (hb hby at_64) (fun _ _ => ⟨rfl, e3, (by decide : 0 + 0 ≤ _), (by decide : 0 + 0 ≤ _)⟩)
    dsimp only [Pt.U, Pt.locs, Pt.cells, Pt.slots] at X4 l4 y4 z4 st4 hQ4
    subst l4 y4 z4
    obtain ⟨rfl, rfl, e4⟩ := hQ4
    try rw [List.append_nil] at X4
    refine gb (fun _ k => st4.trans k) ?_
    show G T4 (mkF m 67 #[iv i0, iv 0, rv w_FALSE, rv w_TRUE, iv 1, .unset, .unset, .unset] [.int (-2)])
    refine gb (fun _ k => XS.iloadN X4.here hx rfl (hb hby at_67) rfl (XS.ifYes X4.here hx rfl (pc0 := 68) (pc' := 75) rfl (hb hby at_68) rfl ((if0 _ _).trans (teq (by decide : (0 : Int32) = (0 : Int32))).1) (by decide) (by decide) (XS.bipush X4.here hx rfl (hb hby at_75) (XS.icmpNo X4.here hx rfl (hb hby at_77) rfl (teq (by decide : (-2 : Int32) = (-2 : Int32))).2 (XS.iconst X4.here hx rfl (hb hby at_80) (XS.goto X4.here hx rfl (pc0 := 81) (pc' := 85) rfl (hb hby at_81) (by decide) (by decide) k)))))) ?_
    show G T4 (mkF m 85 #[iv i0, iv 0, rv w_FALSE, rv w_TRUE, iv 1, .unset, .unset, .unset] [.int 1])
    refine gb (fun _ k => XS.istore X4.here hx rfl (hb hby at_85) rfl (l' := #[iv i0, iv 0, rv w_FALSE, rv w_TRUE, iv 1, iv 1, .unset, .unset]) rfl (XS.aloadN X4.here hx rfl (hb hby at_87) rfl rfl k)) ?_
    show G T4 (mkF m 88 #[iv i0, iv 0, rv w_FALSE, rv w_TRUE, iv 1, iv 1, .unset, .unset] [.ref w_FALSE])
    obtain ⟨cq5, kq5, q5a, q5b, q5c⟩ := isOf hZ e4 (E_FALSE.ext O.2)
    obtain ⟨_, _, ⟨T5, L5, k5, n5⟩, -, X5, ⟨Lc5, hQ5, l5, y5, z5⟩, st5⟩ := X4.virtualBack hx (y := (⟨"alternant/Obligation", "isDecided", "()Z"⟩ : MethodName)) (z := (⟨"alternant/Obligation", "isDecided", "()Z"⟩ : MethodName)) hown (mvT hZ (ow hw 16 rfl)) (mvT hZ (ow hw 17 rfl)) (notFace_of_selects (args := #[]) (mvT hZ (ow hw 19 rfl))) (mvT hZ (ow hw 19 rfl)) (mvT hZ (ow hw 18 rfl)) (by decide) (backOf (W := 0) (rm3 l Z a0 hw [] w_FALSE h0 n0 O (F_configuration_FALSE.ext O.2) (F_operands_FALSE.ext O.2)) hZ (ow hw 20 rfl) (ow hw 2 rfl) (by decide) (by decide)) q5a q5c (g := (mkF m 88 #[iv i0, iv 0, rv w_FALSE, rv w_TRUE, iv 1, iv 1, .unset, .unset] [.ref w_FALSE])) rfl (by rw [hml]; rfl) (Steps.refl _) (argsL := []) (rest := []) (lenOf pd_2 rfl) rfl (by show 2 * 0 + _ ≤ _; exact Nat.le_of_eq rfl) (hb hby at_88) (fun _ _ => ⟨rfl, e4, (by decide : 0 + 0 ≤ _), (by decide : 0 + 0 ≤ _)⟩)
    dsimp only [Pt.U, Pt.locs, Pt.cells, Pt.slots] at X5 l5 y5 z5 st5 hQ5
    subst l5 y5 z5
    obtain ⟨rfl, rfl, e5⟩ := hQ5
    try rw [List.append_nil] at X5
    refine gb (fun _ k => st5.trans k) ?_
    show G T5 (mkF m 91 #[iv i0, iv 0, rv w_FALSE, rv w_TRUE, iv 1, iv 1, .unset, .unset] [.int 1])
    refine gb (fun _ k => XS.ifNo X5.here hx rfl (hb hby at_91) rfl ((if0 _ _).trans (feq (by decide : ¬ ((1 : Int32) = (0 : Int32)))).1) (XS.aloadN X5.here hx rfl (hb hby at_94) rfl rfl k)) ?_
    show G T5 (mkF m 95 #[iv i0, iv 0, rv w_FALSE, rv w_TRUE, iv 1, iv 1, .unset, .unset] [.ref w_TRUE])
    obtain ⟨cq6, kq6, q6a, q6b, q6c⟩ := isOf hZ e5 (E_TRUE.ext O.2)
    obtain ⟨_, _, ⟨T6, L6, k6, n6⟩, -, X6, ⟨Lc6, hQ6, l6, y6, z6⟩, st6⟩ := X5.virtualBack hx (y := (⟨"alternant/Obligation", "isDecided", "()Z"⟩ : MethodName)) (z := (⟨"alternant/Obligation", "isDecided", "()Z"⟩ : MethodName)) hown (mvT hZ (ow hw 16 rfl)) (mvT hZ (ow hw 17 rfl)) (notFace_of_selects (args := #[]) (mvT hZ (ow hw 19 rfl))) (mvT hZ (ow hw 19 rfl)) (mvT hZ (ow hw 18 rfl)) (by decide) (backOf (W := 0) (rm3 l Z a0 hw [] w_TRUE h0 n0 O (F_configuration_TRUE.ext O.2) (F_operands_TRUE.ext O.2)) hZ (ow hw 20 rfl) (ow hw 2 rfl) (by decide) (by decide)) q6a q6c (g := (mkF m 95 #[iv i0, iv 0, rv w_FALSE, rv w_TRUE, iv 1, iv 1, .unset, .unset] [.ref w_TRUE])) rfl (by rw [hml]; rfl) (Steps.refl _) (argsL := []) (rest := []) (lenOf pd_2 rfl) rfl (by show 2 * 0 + _ ≤ _; exact Nat.le_of_eq rfl) (hb hby at_95) (fun _ _ => ⟨rfl, e5, (by decide : 0 + 0 ≤ _), (by decide : 0 + 0 ≤ _)⟩)
    dsimp only [Pt.U, Pt.locs, Pt.cells, Pt.slots] at X6 l6 y6 z6 st6 hQ6
    subst l6 y6 z6
    obtain ⟨rfl, rfl, e6⟩ := hQ6
    try rw [List.append_nil] at X6
    refine gb (fun _ k => st6.trans k) ?_
    show G T6 (mkF m 98 #[iv i0, iv 0, rv w_FALSE, rv w_TRUE, iv 1, iv 1, .unset, .unset] [.int 1])
    refine gb (fun _ k => XS.ifNo X6.here hx rfl (hb hby at_98) rfl ((if0 _ _).trans (feq (by decide : ¬ ((1 : Int32) = (0 : Int32)))).1) (XS.iconst X6.here hx rfl (hb hby at_101) (XS.goto X6.here hx rfl (pc0 := 102) (pc' := 106) rfl (hb hby at_102) (by decide) (by decide) (XS.istore X6.here hx rfl (hb hby at_106) rfl (l' := #[iv i0, iv 0, rv w_FALSE, rv w_TRUE, iv 1, iv 1, iv 1, .unset]) rfl (XS.aloadN X6.here hx rfl (hb hby at_108) rfl rfl (XS.aloadN X6.here hx rfl (hb hby at_109) rfl rfl k)))))) ?_
    show G T6 (mkF m 110 #[iv i0, iv 0, rv w_FALSE, rv w_TRUE, iv 1, iv 1, iv 1, .unset] [.ref w_TRUE, .ref w_FALSE])
    refine gb (fun _ k => Jvm.RoadKit.acmp (g := (mkF m 110 #[iv i0, iv 0, rv w_FALSE, rv w_TRUE, iv 1, iv 1, iv 1, .unset] [.ref w_TRUE, .ref w_FALSE])) X6 hx rfl rfl rfl (pc0 := 110) (pc' := 113) (same := false) rfl (hb hby at_110) rfl (decide_eq_false fun q => hne (Value.ref.inj q)) (by decide) (by decide) (XS.iconst X6.here hx rfl (hb hby at_113) (XS.goto X6.here hx rfl (pc0 := 114) (pc' := 118) rfl (hb hby at_114) (by decide) (by decide) (XS.istore X6.here hx rfl (hb hby at_118) rfl (l' := #[iv i0, iv 0, rv w_FALSE, rv w_TRUE, iv 1, iv 1, iv 1, iv 1]) rfl (XS.iload X6.here hx rfl (hb hby at_120) rfl (XS.ifNo X6.here hx rfl (hb hby at_122) rfl ((if0 _ _).trans (feq (by decide : ¬ ((1 : Int32) = (0 : Int32)))).1) k)))))) ?_
    show G T6 (mkF m 125 #[iv i0, iv 0, rv w_FALSE, rv w_TRUE, iv 1, iv 1, iv 1, iv 1] [])
    refine gb (fun _ k => XS.iload X6.here hx rfl (hb hby at_125) rfl (XS.ifNo X6.here hx rfl (hb hby at_127) rfl ((if0 _ _).trans (feq (by decide : ¬ ((1 : Int32) = (0 : Int32)))).1) (XS.iload X6.here hx rfl (hb hby at_130) rfl (XS.ifNo X6.here hx rfl (hb hby at_132) rfl ((if0 _ _).trans (feq (by decide : ¬ ((1 : Int32) = (0 : Int32)))).1) (XS.iload X6.here hx rfl (hb hby at_135) rfl (XS.ifNo X6.here hx rfl (hb hby at_137) rfl ((if0 _ _).trans (feq (by decide : ¬ ((1 : Int32) = (0 : Int32)))).1) k)))))) ?_
    show G T6 (mkF m 140 #[iv i0, iv 0, rv w_FALSE, rv w_TRUE, iv 1, iv 1, iv 1, iv 1] [])
    refine gb (fun _ k => XS.iconst X6.here hx rfl (hb hby at_140) (XS.goto X6.here hx rfl (pc0 := 141) (pc' := 145) rfl (hb hby at_141) (by decide) (by decide) k)) ?_
    show G T6 (mkF m 145 #[iv i0, iv 0, rv w_FALSE, rv w_TRUE, iv 1, iv 1, iv 1, iv 1] [.int 1])
    exact go X6 (v := (some (.int (1 : Int32)))) (fun h => by rw [Bd.returns] at h; cases h) (fun fs hr => retOut X6 hx Bd.returns rfl (Or.inl ⟨rfl, by simp, _, rfl⟩) (hb hby at_145) hr) (⟨rfl, N⟩) (by decide) (by decide)
  · skip
    refine gb (fun _ k => XS.ifNo X0.here hx rfl (hb hby at_3) rfl ((if0 _ _).trans (feq hc3).1) (XS.iconst X0.here hx rfl (hb hby at_6) (XS.goto X0.here hx rfl (pc0 := 7) (pc' := 11) rfl (hb hby at_7) (by decide) (by decide) (XS.istoreN X0.here hx rfl (hb hby at_11) rfl (l' := #[iv i0, iv 1, .unset, .unset, .unset, .unset, .unset, .unset]) rfl (XS.iloadN X0.here hx rfl (hb hby at_12) rfl k))))) ?_
    show G s₁ (mkF m 13 #[iv i0, iv 1, .unset, .unset, .unset, .unset, .unset, .unset] [.int 1])
    obtain ⟨_, _, ⟨T7, L7, k7, n7⟩, -, X7, ⟨Lc7, hQ7, l7, y7, z7⟩, st7⟩ := Jvm.LawKit.callS X0 hx (y := (⟨"alternant/Obligation", "of", "(Z)Lalternant/Obligation;"⟩ : MethodName)) hown (mvT hZ (ow hw 0 rfl)) (mvT hZ (ow hw 1 rfl)) (mvT hZ (ow hw 2 rfl)) (mvT hZ (ow hw 3 rfl)) (by decide) (backOf (W := 0) (rm1_1 l Z a0 hw [] h0 n0 O w_TRUE S_TRUE) hZ (ow hw 3 rfl) (ow hw 2 rfl) (by decide) (by decide)) (g := (mkF m 13 #[iv i0, iv 1, .unset, .unset, .unset, .unset, .unset, .unset] [.int 1])) rfl (by rw [hml]; rfl) (argsL := [(.int (1 : Int32))]) (rest := []) (lenOf pd_0 rfl) rfl (by show 2 * 0 + _ ≤ _; exact Nat.le_of_eq rfl) (hb hby at_13) (fun _ _ => ⟨rfl, e0, (by decide : 0 + 0 ≤ _), (by decide : 0 + 0 ≤ _)⟩)
    dsimp only [Pt.U, Pt.locs, Pt.cells, Pt.slots] at X7 l7 y7 z7 st7 hQ7
    subst l7 y7 z7
    obtain ⟨rfl, rfl, e7⟩ := hQ7
    try rw [List.append_nil] at X7
    refine gb st7 ?_
    show G T7 (mkF m 16 #[iv i0, iv 1, .unset, .unset, .unset, .unset, .unset, .unset] [.ref w_TRUE])
    refine gb (fun _ k => XS.astoreN X7.here hx rfl (hb hby at_16) rfl rfl (l' := #[iv i0, iv 1, rv w_TRUE, .unset, .unset, .unset, .unset, .unset]) rfl (XS.iloadN X7.here hx rfl (hb hby at_17) rfl (XS.ifYes X7.here hx rfl (pc0 := 18) (pc' := 25) rfl (hb hby at_18) rfl ((if0 _ _).trans (feq (by decide : ¬ ((1 : Int32) = (0 : Int32)))).2) (by decide) (by decide) (XS.iconst X7.here hx rfl (hb hby at_25) k)))) ?_
    show G T7 (mkF m 26 #[iv i0, iv 1, rv w_TRUE, .unset, .unset, .unset, .unset, .unset] [.int 0])
    obtain ⟨_, _, ⟨T8, L8, k8, n8⟩, -, X8, ⟨Lc8, hQ8, l8, y8, z8⟩, st8⟩ := Jvm.LawKit.callS X7 hx (y := (⟨"alternant/Obligation", "of", "(Z)Lalternant/Obligation;"⟩ : MethodName)) hown (mvT hZ (ow hw 0 rfl)) (mvT hZ (ow hw 1 rfl)) (mvT hZ (ow hw 2 rfl)) (mvT hZ (ow hw 3 rfl)) (by decide) (backOf (W := 0) (rm1_0 l Z a0 hw [] h0 n0 O w_FALSE S_FALSE) hZ (ow hw 3 rfl) (ow hw 2 rfl) (by decide) (by decide)) (g := (mkF m 26 #[iv i0, iv 1, rv w_TRUE, .unset, .unset, .unset, .unset, .unset] [.int 0])) rfl (by rw [hml]; rfl) (argsL := [(.int (0 : Int32))]) (rest := []) (lenOf pd_0 rfl) rfl (by show 2 * 0 + _ ≤ _; exact Nat.le_of_eq rfl) (hb hby at_26) (fun _ _ => ⟨rfl, e7, (by decide : 0 + 0 ≤ _), (by decide : 0 + 0 ≤ _)⟩)
    dsimp only [Pt.U, Pt.locs, Pt.cells, Pt.slots] at X8 l8 y8 z8 st8 hQ8
    subst l8 y8 z8
    obtain ⟨rfl, rfl, e8⟩ := hQ8
    try rw [List.append_nil] at X8
    refine gb st8 ?_
    show G T8 (mkF m 29 #[iv i0, iv 1, rv w_TRUE, .unset, .unset, .unset, .unset, .unset] [.ref w_FALSE])
    refine gb (fun _ k => XS.astoreN X8.here hx rfl (hb hby at_29) rfl rfl (l' := #[iv i0, iv 1, rv w_TRUE, rv w_FALSE, .unset, .unset, .unset, .unset]) rfl (XS.iloadN X8.here hx rfl (hb hby at_30) rfl (XS.ifNo X8.here hx rfl (hb hby at_31) rfl ((if0 _ _).trans (feq (by decide : ¬ ((1 : Int32) = (0 : Int32)))).1) (XS.aloadN X8.here hx rfl (hb hby at_34) rfl rfl k)))) ?_
    show G T8 (mkF m 35 #[iv i0, iv 1, rv w_TRUE, rv w_FALSE, .unset, .unset, .unset, .unset] [.ref w_TRUE])
    obtain ⟨T9, X9, e9, st9⟩ := getS2 X8 hx hZ hown (host := "") (Or.inl (ow hw 25 rfl)) Via.refl e8 (S_TRUE.ext O.2) (g := (mkF m 35 #[iv i0, iv 1, rv w_TRUE, rv w_FALSE, .unset, .unset, .unset, .unset] [.ref w_TRUE])) rfl (hb hby at_35)
    refine gb st9 ?_
    show G T9 (mkF m 38 #[iv i0, iv 1, rv w_TRUE, rv w_FALSE, .unset, .unset, .unset, .unset] [.ref w_TRUE, .ref w_TRUE])
    refine gb (fun _ k => Jvm.RoadKit.acmp (g := (mkF m 38 #[iv i0, iv 1, rv w_TRUE, rv w_FALSE, .unset, .unset, .unset, .unset] [.ref w_TRUE, .ref w_TRUE])) X9 hx rfl rfl rfl (pc0 := 38) (pc' := 41) (same := true) rfl (hb hby at_38) rfl (decide_eq_true rfl) (by decide) (by decide) (XS.iconst X9.here hx rfl (hb hby at_41) (XS.goto X9.here hx rfl (pc0 := 42) (pc' := 61) rfl (hb hby at_42) (by decide) (by decide) (XS.istore X9.here hx rfl (hb hby at_61) rfl (l' := #[iv i0, iv 1, rv w_TRUE, rv w_FALSE, iv 1, .unset, .unset, .unset]) rfl (XS.aloadN X9.here hx rfl (hb hby at_63) rfl rfl k))))) ?_
    show G T9 (mkF m 64 #[iv i0, iv 1, rv w_TRUE, rv w_FALSE, iv 1, .unset, .unset, .unset] [.ref w_TRUE])
    obtain ⟨cq10, kq10, q10a, q10b, q10c⟩ := isOf hZ e9 (E_TRUE.ext O.2)
    obtain ⟨_, _, ⟨T10, L10, k10, n10⟩, -, X10, ⟨Lc10, hQ10, l10, y10, z10⟩, st10⟩ := X9.virtualBack hx (y := (⟨"alternant/Obligation", "number", "()I"⟩ : MethodName)) (z := (⟨"alternant/Obligation", "number", "()I"⟩ : MethodName)) hown (mvT hZ (ow hw 9 rfl)) (mvT hZ (ow hw 10 rfl)) (notFace_of_selects (args := #[]) (mvT hZ (ow hw 12 rfl))) (mvT hZ (ow hw 12 rfl)) (mvT hZ (ow hw 11 rfl)) (by decide) (backOf (W := 0) (rm2 l Z a0 hw [] w_TRUE (-1 : Int32) h0 n0 O (F_serial_TRUE.ext O.2)) hZ (ow hw 13 rfl) (ow hw 2 rfl) (by decide) (by decide)) q10a q10c (g := (mkF m 64 #[iv i0, iv 1, rv w_TRUE, rv w_FALSE, iv 1, .unset, .unset, .unset] [.ref w_TRUE])) rfl (by rw [hml]; rfl) (Steps.refl _) (argsL := []) (rest := []) (lenOf pd_1 rfl) rfl (by show 2 * 0 + _ ≤ _; exact Nat.le_of_eq rfl) (hb hby at_64) (fun _ _ => ⟨rfl, e9, (by decide : 0 + 0 ≤ _), (by decide : 0 + 0 ≤ _)⟩)
    dsimp only [Pt.U, Pt.locs, Pt.cells, Pt.slots] at X10 l10 y10 z10 st10 hQ10
    subst l10 y10 z10
    obtain ⟨rfl, rfl, e10⟩ := hQ10
    try rw [List.append_nil] at X10
    refine gb (fun _ k => st10.trans k) ?_
    show G T10 (mkF m 67 #[iv i0, iv 1, rv w_TRUE, rv w_FALSE, iv 1, .unset, .unset, .unset] [.int (-1)])
    refine gb (fun _ k => XS.iloadN X10.here hx rfl (hb hby at_67) rfl (XS.ifNo X10.here hx rfl (hb hby at_68) rfl ((if0 _ _).trans (feq (by decide : ¬ ((1 : Int32) = (0 : Int32)))).1) (XS.iconst X10.here hx rfl (hb hby at_71) (XS.goto X10.here hx rfl (pc0 := 72) (pc' := 77) rfl (hb hby at_72) (by decide) (by decide) (XS.icmpNo X10.here hx rfl (hb hby at_77) rfl (teq (by decide : (-1 : Int32) = (-1 : Int32))).2 (XS.iconst X10.here hx rfl (hb hby at_80) k)))))) ?_
    show G T10 (mkF m 81 #[iv i0, iv 1, rv w_TRUE, rv w_FALSE, iv 1, .unset, .unset, .unset] [.int 1])
    refine gb (fun _ k => XS.goto X10.here hx rfl (pc0 := 81) (pc' := 85) rfl (hb hby at_81) (by decide) (by decide) (XS.istore X10.here hx rfl (hb hby at_85) rfl (l' := #[iv i0, iv 1, rv w_TRUE, rv w_FALSE, iv 1, iv 1, .unset, .unset]) rfl (XS.aloadN X10.here hx rfl (hb hby at_87) rfl rfl k))) ?_
    show G T10 (mkF m 88 #[iv i0, iv 1, rv w_TRUE, rv w_FALSE, iv 1, iv 1, .unset, .unset] [.ref w_TRUE])
    obtain ⟨cq11, kq11, q11a, q11b, q11c⟩ := isOf hZ e10 (E_TRUE.ext O.2)
    obtain ⟨_, _, ⟨T11, L11, k11, n11⟩, -, X11, ⟨Lc11, hQ11, l11, y11, z11⟩, st11⟩ := X10.virtualBack hx (y := (⟨"alternant/Obligation", "isDecided", "()Z"⟩ : MethodName)) (z := (⟨"alternant/Obligation", "isDecided", "()Z"⟩ : MethodName)) hown (mvT hZ (ow hw 16 rfl)) (mvT hZ (ow hw 17 rfl)) (notFace_of_selects (args := #[]) (mvT hZ (ow hw 19 rfl))) (mvT hZ (ow hw 19 rfl)) (mvT hZ (ow hw 18 rfl)) (by decide) (backOf (W := 0) (rm3 l Z a0 hw [] w_TRUE h0 n0 O (F_configuration_TRUE.ext O.2) (F_operands_TRUE.ext O.2)) hZ (ow hw 20 rfl) (ow hw 2 rfl) (by decide) (by decide)) q11a q11c (g := (mkF m 88 #[iv i0, iv 1, rv w_TRUE, rv w_FALSE, iv 1, iv 1, .unset, .unset] [.ref w_TRUE])) rfl (by rw [hml]; rfl) (Steps.refl _) (argsL := []) (rest := []) (lenOf pd_2 rfl) rfl (by show 2 * 0 + _ ≤ _; exact Nat.le_of_eq rfl) (hb hby at_88) (fun _ _ => ⟨rfl, e10, (by decide : 0 + 0 ≤ _), (by decide : 0 + 0 ≤ _)⟩)
    dsimp only [Pt.U, Pt.locs, Pt.cells, Pt.slots] at X11 l11 y11 z11 st11 hQ11
    subst l11 y11 z11
    obtain ⟨rfl, rfl, e11⟩ := hQ11
    try rw [List.append_nil] at X11
    refine gb (fun _ k => st11.trans k) ?_
    show G T11 (mkF m 91 #[iv i0, iv 1, rv w_TRUE, rv w_FALSE, iv 1, iv 1, .unset, .unset] [.int 1])
    refine gb (fun _ k => XS.ifNo X11.here hx rfl (hb hby at_91) rfl ((if0 _ _).trans (feq (by decide : ¬ ((1 : Int32) = (0 : Int32)))).1) (XS.aloadN X11.here hx rfl (hb hby at_94) rfl rfl k)) ?_
    show G T11 (mkF m 95 #[iv i0, iv 1, rv w_TRUE, rv w_FALSE, iv 1, iv 1, .unset, .unset] [.ref w_FALSE])
    obtain ⟨cq12, kq12, q12a, q12b, q12c⟩ := isOf hZ e11 (E_FALSE.ext O.2)
    obtain ⟨_, _, ⟨T12, L12, k12, n12⟩, -, X12, ⟨Lc12, hQ12, l12, y12, z12⟩, st12⟩ := X11.virtualBack hx (y := (⟨"alternant/Obligation", "isDecided", "()Z"⟩ : MethodName)) (z := (⟨"alternant/Obligation", "isDecided", "()Z"⟩ : MethodName)) hown (mvT hZ (ow hw 16 rfl)) (mvT hZ (ow hw 17 rfl)) (notFace_of_selects (args := #[]) (mvT hZ (ow hw 19 rfl))) (mvT hZ (ow hw 19 rfl)) (mvT hZ (ow hw 18 rfl)) (by decide) (backOf (W := 0) (rm3 l Z a0 hw [] w_FALSE h0 n0 O (F_configuration_FALSE.ext O.2) (F_operands_FALSE.ext O.2)) hZ (ow hw 20 rfl) (ow hw 2 rfl) (by decide) (by decide)) q12a q12c (g := (mkF m 95 #[iv i0, iv 1, rv w_TRUE, rv w_FALSE, iv 1, iv 1, .unset, .unset] [.ref w_FALSE])) rfl (by rw [hml]; rfl) (Steps.refl _) (argsL := []) (rest := []) (lenOf pd_2 rfl) rfl (by show 2 * 0 + _ ≤ _; exact Nat.le_of_eq rfl) (hb hby at_95) (fun _ _ => ⟨rfl, e11, (by decide : 0 + 0 ≤ _), (by decide : 0 + 0 ≤ _)⟩)
    dsimp only [Pt.U, Pt.locs, Pt.cells, Pt.slots] at X12 l12 y12 z12 st12 hQ12
    subst l12 y12 z12
    obtain ⟨rfl, rfl, e12⟩ := hQ12
    try rw [List.append_nil] at X12
    refine gb (fun _ k => st12.trans k) ?_
    show G T12 (mkF m 98 #[iv i0, iv 1, rv w_TRUE, rv w_FALSE, iv 1, iv 1, .unset, .unset] [.int 1])
    refine gb (fun _ k => XS.ifNo X12.here hx rfl (hb hby at_98) rfl ((if0 _ _).trans (feq (by decide : ¬ ((1 : Int32) = (0 : Int32)))).1) (XS.iconst X12.here hx rfl (hb hby at_101) (XS.goto X12.here hx rfl (pc0 := 102) (pc' := 106) rfl (hb hby at_102) (by decide) (by decide) (XS.istore X12.here hx rfl (hb hby at_106) rfl (l' := #[iv i0, iv 1, rv w_TRUE, rv w_FALSE, iv 1, iv 1, iv 1, .unset]) rfl (XS.aloadN X12.here hx rfl (hb hby at_108) rfl rfl (XS.aloadN X12.here hx rfl (hb hby at_109) rfl rfl k)))))) ?_
    show G T12 (mkF m 110 #[iv i0, iv 1, rv w_TRUE, rv w_FALSE, iv 1, iv 1, iv 1, .unset] [.ref w_FALSE, .ref w_TRUE])
    refine gb (fun _ k => Jvm.RoadKit.acmp (g := (mkF m 110 #[iv i0, iv 1, rv w_TRUE, rv w_FALSE, iv 1, iv 1, iv 1, .unset] [.ref w_FALSE, .ref w_TRUE])) X12 hx rfl rfl rfl (pc0 := 110) (pc' := 113) (same := false) rfl (hb hby at_110) rfl (decide_eq_false fun q => (hne.symm) (Value.ref.inj q)) (by decide) (by decide) (XS.iconst X12.here hx rfl (hb hby at_113) (XS.goto X12.here hx rfl (pc0 := 114) (pc' := 118) rfl (hb hby at_114) (by decide) (by decide) (XS.istore X12.here hx rfl (hb hby at_118) rfl (l' := #[iv i0, iv 1, rv w_TRUE, rv w_FALSE, iv 1, iv 1, iv 1, iv 1]) rfl (XS.iload X12.here hx rfl (hb hby at_120) rfl (XS.ifNo X12.here hx rfl (hb hby at_122) rfl ((if0 _ _).trans (feq (by decide : ¬ ((1 : Int32) = (0 : Int32)))).1) k)))))) ?_
    show G T12 (mkF m 125 #[iv i0, iv 1, rv w_TRUE, rv w_FALSE, iv 1, iv 1, iv 1, iv 1] [])
    refine gb (fun _ k => XS.iload X12.here hx rfl (hb hby at_125) rfl (XS.ifNo X12.here hx rfl (hb hby at_127) rfl ((if0 _ _).trans (feq (by decide : ¬ ((1 : Int32) = (0 : Int32)))).1) (XS.iload X12.here hx rfl (hb hby at_130) rfl (XS.ifNo X12.here hx rfl (hb hby at_132) rfl ((if0 _ _).trans (feq (by decide : ¬ ((1 : Int32) = (0 : Int32)))).1) (XS.iload X12.here hx rfl (hb hby at_135) rfl (XS.ifNo X12.here hx rfl (hb hby at_137) rfl ((if0 _ _).trans (feq (by decide : ¬ ((1 : Int32) = (0 : Int32)))).1) k)))))) ?_
    show G T12 (mkF m 140 #[iv i0, iv 1, rv w_TRUE, rv w_FALSE, iv 1, iv 1, iv 1, iv 1] [])
    refine gb (fun _ k => XS.iconst X12.here hx rfl (hb hby at_140) (XS.goto X12.here hx rfl (pc0 := 141) (pc' := 145) rfl (hb hby at_141) (by decide) (by decide) k)) ?_
    show G T12 (mkF m 145 #[iv i0, iv 1, rv w_TRUE, rv w_FALSE, iv 1, iv 1, iv 1, iv 1] [.int 1])
    exact go X12 (v := (some (.int (1 : Int32)))) (fun h => by rw [Bd.returns] at h; cases h) (fun fs hr => retOut X12 hx Bd.returns rfl (Or.inl ⟨rfl, by simp, _, rfl⟩) (hb hby at_145) hr) (⟨rfl, N⟩) (by decide) (by decide)
set_option maxRecDepth 65536 in
set_option maxHeartbeats 40000000 in
theorem comes_1 {Post : Tables → Env → Array Value → State → Outcome → State → Prop} (hpost : ∀ tb e args s v u, (limb_1_1.after args s (.returned v) u = true ∧ limb_1_2.after args s (.returned v) u = true ∧ True) → FrameEnd s (.returned v) u (Jvm.fieldLocs frame_1_writes args s ++ Jvm.arrayLocs frame_1_arrays args s ++ Jvm.staticLocs frame_1_statics s) 0 0 → Post tb e args s (.returned v) u) :
    ArmFor flags0 classFile x code maxLocals ret World_1 tables_1 room_1 Calls_1 rest_1 Pre_1 Post := by
  intro l hfl _ _ p e ha hc hk s m args below hf hA hF happ hP
  obtain ⟨hcalls, hrest, hpre⟩ := hP
  obtain ⟨-, -, -, hnamed, -, -, -, hat⟩ := (Spec.applies_iff hf).mp happ
  obtain ⟨hg, hn⟩ := and_e (Cond.before_iff.mp (show (Jvm.Cond.and given_1 narrow_1).before args s = true from hpre))
  obtain ⟨g1, g2⟩ := and_e hg
  obtain ⟨g3, g4⟩ := and_e hn
  obtain ⟨g5, g6⟩ := and_e g4
  obtain ⟨g7, g8⟩ := and_e g6
  obtain ⟨g9, g10⟩ := and_e g8
  obtain ⟨g11, g12⟩ := and_e g10
  obtain ⟨g13, g14⟩ := and_e g12
  obtain ⟨g15, g16⟩ := and_e g14
  obtain ⟨g17, g18⟩ := and_e g16
  obtain ⟨w0, rfl⟩ : ∃ w0 : Value, args = #[w0] := by
    have hs : args.size = 1 := by simpa [Cond.value, given_1] using g1
    obtain ⟨L⟩ := args
    match L, hs with
    | [w0], _ => exact ⟨w0, rfl⟩
  have hw := fun d (hd : d ∈ tables_1) => atoms_spec (ws := Jvm.Cond.code x code maxLocals ret :: tables_1) hat d (List.mem_cons_of_mem _ hd)
  have hfit : Fit s := fun {y c} hc i hi => by
    obtain ⟨ha, rfl⟩ := Array.getElem?_eq_some_iff.mp hc
    have q := List.all_eq_true.mp ((Array.all_eq_true_iff_forall_mem.mp hF) _ (Array.getElem_mem ha)) i (List.mem_range.mpr hi)
    simpa [Array.getElem?_eq_getElem hi] using q
  obtain ⟨i0, ei0⟩ := is_v g2
  obtain rfl : w0 = (.int i0) := Option.some.inj ei0
  obtain ⟨w_FALSE, ev_FALSE⟩ := exa_v g3
  have S_FALSE : Sta s s.heap "alternant/Obligation" "FALSE" "Lalternant/Obligation;" (.ref w_FALSE) := Sta.start ev_FALSE (Or.inr ⟨(ow hw 2 rfl), (ow hw 5 rfl)⟩)
  have E_FALSE : Exa s s.heap w_FALSE "alternant/Obligation" := Exa.start ev_FALSE g3
  obtain ⟨w_TRUE, ev_TRUE⟩ := exa_v g5
  have S_TRUE : Sta s s.heap "alternant/Obligation" "TRUE" "Lalternant/Obligation;" (.ref w_TRUE) := Sta.start ev_TRUE (Or.inr ⟨(ow hw 2 rfl), (ow hw 7 rfl)⟩)
  have E_TRUE : Exa s s.heap w_TRUE "alternant/Obligation" := Exa.start ev_TRUE g5
  have F_serial_FALSE := own_fldI ev_FALSE g7
  have F_configuration_FALSE := own_fldN ev_FALSE g9
  have F_operands_FALSE := own_fldN ev_FALSE g11
  have F_configuration_TRUE := own_fldN ev_TRUE g13
  have F_operands_TRUE := own_fldN ev_TRUE g15
  have F_serial_TRUE := own_fldI ev_TRUE g18
  have hne : w_FALSE ≠ w_TRUE := by
    have q := not_v g17
    exact fun e => gotF (eq_R ev_FALSE ev_TRUE rfl rfl) q (congrArg Value.ref e)
  obtain ⟨n, o, h1, h2, h3, _, L, rfl, ⟨rfl, N⟩, hq⟩ := rm0 l s _ hw tables_1 i0 s.heap s.heap.size (Old.start s) w_TRUE S_TRUE w_FALSE S_FALSE E_TRUE F_serial_TRUE F_configuration_TRUE F_operands_TRUE E_FALSE F_serial_FALSE F_configuration_FALSE F_operands_FALSE hne p e ha hc hk s m _ below hf ((Spec.applies_iff_loose hf).mp happ).1 ⟨rfl, State.Warmed39.refl s, rfl, rfl⟩ trivial
  refine ⟨n, _, h1, h2, h3, hpost _ _ _ _ _ _ ⟨Cond.after_iff.mpr rfl, Cond.after_iff.mpr (eq_i res_at (Term.int_eval (1)) rfl), trivial⟩ ⟨hq.1, hq.2.1, (hq.2.2.sift fun y hy => Or.inr (N y hy)).mono (by decide) (by decide)⟩⟩
theorem main_1_1 : Claimed_1_1 := comes_1 fun _ _ _ _ _ _ h hF => ⟨h.1, hF⟩
theorem main_1_2 : Claimed_1_2 := comes_1 fun _ _ _ _ _ _ h hF => ⟨h.2.1, hF⟩
end Jvm.Pilot.@@N@@
namespace Jvm.Pilot.@@N@@
open Jvm Jvm.ClassFile Sem Op Lib Jvm.Free Jvm.Stand Jvm.Pilot.@@N@@.Jvm.D
/-! MADE BY PROGRAM (witnessworld.py) out of the Statement's table words and the real class files: 9 classes; the members and pool entries that the words name. The judged class is class 1, her method 1. -/
namespace start1
open Jvm.ClassFile
def u (s : String) : CpInfo := .utf8 (stringToUtf16 s)
/-- a pool by its gaps: so many unusable entries, then the entry; so many at the end -/
def gap : Nat → List CpInfo → List CpInfo
  | 0, r => r
  | n + 1, r => .unusable :: gap n r
def poolList (es : List (Nat × CpInfo)) (last : Nat) : List CpInfo := es.foldr (fun e r => gap e.1 (e.2 :: r)) (gap last [])
def pool (es : List (Nat × CpInfo)) (last : Nat) : Array CpInfo := ⟨poolList es last⟩
def fileOf (pool : Array CpInfo) (this : Nat) (attrs : Array Attribute := #[]) (ms : Array MethodInfo := #[]) (fl : Nat := 33) (sup : Nat := 0) (ifs : Array Nat := #[]) (fds : Array FieldInfo := #[]) : ClassFile where
  minorVersion := 0
  majorVersion := 65
  constantPool := pool
  accessFlags := fl
  thisClass := this
  superClass := sup
  interfaces := ifs
  fields := fds
  methods := ms
  attributes := attrs
def plain (name : String) (sup : Option ClassId) : Class where
  name := name
  kind := .ordinary
  loader := none
  accessFlags := 33
  super := sup
  interfaces := #[]
  cf := none
  fields := #[]
  methods := #[]
  instanceTypes := #[]
  staticTypes := #[]
  resolved := #[]
  callSites := []
  init := .initialized
  statics := none
  mirror := none

def pool0 : Array CpInfo := pool [(5, u "<init>"), (0, u "()V"), (1, .class_ 10), (1, u "java/lang/Object")] 113

def k0m0 : Method := { name := "<init>", desc := "()V", sig := { parameters := [], returnType := none }, accessFlags := 1, code := none }
/-- java/lang/Object -/
def k0 : Class := { plain "java/lang/Object" none with
  accessFlags := 33
  interfaces := #[]
  cf := some (fileOf pool0 8 #[] #[{ accessFlags := 1, nameIndex := 5, descriptorIndex := 6, attributes := #[] }] 33 0 #[] #[])
  fields := #[]
  methods := #[k0m0]
  instanceTypes := #[]
  staticTypes := #[]
  resolved := Array.replicate 124 none
  statics := none }

def pool1 : Array CpInfo := pool [(2, .class_ 4), (1, u "java/lang/Object"), (0, u "<init>"), (0, u "()V"), (0, .methodref 8 9), (0, .class_ 10), (0, .nameAndType 11 12), (0, u "alternant/Obligation"), (0, u "of"), (0, u "(Z)Lalternant/Obligation;"), (0, .fieldref 8 14), (0, .nameAndType 15 16), (0, u "TRUE"), (0, u "Lalternant/Obligation;"), (0, .fieldref 8 18), (0, .nameAndType 19 16), (0, u "FALSE"), (0, .methodref 8 21), (0, .nameAndType 22 23), (0, u "number"), (0, u "()I"), (0, .methodref 8 25), (0, .nameAndType 26 27), (0, u "isDecided"), (0, u "()Z"), (0, .class_ 29), (0, u "alternant/ObligationOfPinLaw"), (2, u "law"), (0, u "(I)Z")] 3

def k1m0 : Method := { name := "<init>", desc := "()V", sig := { parameters := [], returnType := none }, accessFlags := 2, code := none }
def k1c1 : Code := { maxStack := 2, maxLocals := 8, code := code, exceptionTable := #[], attributes := #[] }
def k1m1 : Method := { name := "law", desc := "(I)Z", sig := { parameters := [.int], returnType := some .boolean }, accessFlags := 9, code := some k1c1 }
/-- alternant/ObligationOfPinLaw -/
def k1 : Class := { plain "alternant/ObligationOfPinLaw" (some 0) with
  accessFlags := 49
  interfaces := #[]
  cf := some (fileOf pool1 28 #[] #[{ accessFlags := 2, nameIndex := 5, descriptorIndex := 6, attributes := #[] }, { accessFlags := 9, nameIndex := 32, descriptorIndex := 33, attributes := #[] }] 49 2 #[] #[])
  fields := #[]
  methods := #[k1m0, k1m1]
  instanceTypes := #[]
  staticTypes := #[]
  resolved := Array.replicate 37 none
  statics := none }

def pool2 : Array CpInfo := pool [(2, .class_ 4), (1, u "java/lang/Object"), (2, .fieldref 8 9), (0, .class_ 10), (0, .nameAndType 11 12), (0, u "alternant/Obligation"), (0, u "serial"), (0, u "I"), (0, .fieldref 8 14), (0, .nameAndType 15 16), (0, u "configuration"), (0, u "Lalternant/Obligation$Configuration;"), (2, u "conjunction"), (0, u "Z"), (0, .fieldref 8 22), (0, .nameAndType 23 24), (0, u "operands"), (0, u "[Lalternant/Obligation;"), (6, u "inside"), (0, u "J"), (0, .fieldref 8 34), (0, .nameAndType 35 36), (0, u "TRUE"), (0, u "Lalternant/Obligation;"), (0, .fieldref 8 38), (0, .nameAndType 39 36), (0, u "FALSE"), (2, u "isDecided"), (0, u "()Z"), (0, .class_ 45), (0, u "alternant/Obligation$Marks"), (35, u "of"), (12, u "MADE"), (0, u "Ljava/util/Comparator;"), (56, u "stable"), (3, .class_ 157), (0, u "alternant/Obligation$Configuration"), (0, u "(Z)Lalternant/Obligation;"), (5, u "()I"), (8, u "number"), (14, .class_ 189), (0, u "alternant/Obligation$Builder"), (0, .class_ 191), (0, u "alternant/Obligation$Builder$Combination"), (0, .class_ 193), (0, u "alternant/Obligation$Expansion"), (0, .class_ 195), (0, u "alternant/Obligation$Replacements")] 37

def k2c0 : Code := { maxStack := 1, maxLocals := 1, code := prog_50_method_2_code, exceptionTable := #[], attributes := #[] }
def k2m0 : Method := { name := "of", desc := "(Z)Lalternant/Obligation;", sig := { parameters := [.boolean], returnType := some (.object "alternant/Obligation") }, accessFlags := 8, code := some k2c0 }
def k2c1 : Code := { maxStack := 1, maxLocals := 1, code := prog_50_method_12_code, exceptionTable := #[], attributes := #[] }
def k2m1 : Method := { name := "number", desc := "()I", sig := { parameters := [], returnType := some .int }, accessFlags := 0, code := some k2c1 }
def k2c2 : Code := { maxStack := 1, maxLocals := 1, code := prog_50_method_14_code, exceptionTable := #[], attributes := #[] }
def k2m2 : Method := { name := "isDecided", desc := "()Z", sig := { parameters := [], returnType := some .boolean }, accessFlags := 0, code := some k2c2 }
/-- alternant/Obligation -/
def k2 : Class := { plain "alternant/Obligation" (some 0) with
  accessFlags := 48
  interfaces := #[]
  cf := some (fileOf pool2 8 #[.nestMembers #[188, 190, 156, 192, 44, 194]] #[{ accessFlags := 8, nameIndex := 81, descriptorIndex := 158, attributes := #[] }, { accessFlags := 0, nameIndex := 173, descriptorIndex := 164, attributes := #[] }, { accessFlags := 0, nameIndex := 42, descriptorIndex := 43, attributes := #[] }] 48 2 #[] #[{ accessFlags := 24, nameIndex := 35, descriptorIndex := 36, attributes := #[] }, { accessFlags := 24, nameIndex := 39, descriptorIndex := 36, attributes := #[] }, { accessFlags := 24, nameIndex := 94, descriptorIndex := 95, attributes := #[] }, { accessFlags := 18, nameIndex := 11, descriptorIndex := 12, attributes := #[] }, { accessFlags := 18, nameIndex := 15, descriptorIndex := 16, attributes := #[] }, { accessFlags := 18, nameIndex := 19, descriptorIndex := 20, attributes := #[] }, { accessFlags := 18, nameIndex := 23, descriptorIndex := 24, attributes := #[] }, { accessFlags := 18, nameIndex := 31, descriptorIndex := 32, attributes := #[] }, { accessFlags := 2, nameIndex := 152, descriptorIndex := 20, attributes := #[] }])
  fields := #[{ name := "TRUE", type := (.object "alternant/Obligation"), accessFlags := 24, slot := 0, constantValue := 0 }, { name := "FALSE", type := (.object "alternant/Obligation"), accessFlags := 24, slot := 1, constantValue := 0 }, { name := "MADE", type := (.object "java/util/Comparator"), accessFlags := 24, slot := 2, constantValue := 0 }, { name := "serial", type := .int, accessFlags := 18, slot := 0, constantValue := 0 }, { name := "configuration", type := (.object "alternant/Obligation$Configuration"), accessFlags := 18, slot := 1, constantValue := 0 }, { name := "conjunction", type := .boolean, accessFlags := 18, slot := 2, constantValue := 0 }, { name := "operands", type := (.array (.object "alternant/Obligation")), accessFlags := 18, slot := 3, constantValue := 0 }, { name := "inside", type := .long, accessFlags := 18, slot := 4, constantValue := 0 }, { name := "stable", type := .boolean, accessFlags := 2, slot := 5, constantValue := 0 }]
  methods := #[k2m0, k2m1, k2m2]
  instanceTypes := #[.int, (.object "alternant/Obligation$Configuration"), .boolean, (.array (.object "alternant/Obligation")), .long, .boolean]
  staticTypes := #[(.object "alternant/Obligation"), (.object "alternant/Obligation"), (.object "java/util/Comparator")]
  resolved := Array.replicate 233 none
  statics := some 0 }

def pool3 : Array CpInfo := pool [(1, u "java/lang/Cloneable"), (0, .class_ 1), (0, u "java/lang/Object"), (0, .class_ 3)] 3

/-- java/lang/Cloneable -/
def k3 : Class := { plain "java/lang/Cloneable" (some 0) with
  accessFlags := 1537
  interfaces := #[]
  cf := some (fileOf pool3 2 #[] #[] 1537 4 #[] #[])
  fields := #[]
  methods := #[]
  instanceTypes := #[]
  staticTypes := #[]
  resolved := Array.replicate 8 none
  statics := none }

def pool4 : Array CpInfo := pool [(1, u "java/io/Serializable"), (0, .class_ 1), (0, u "java/lang/Object"), (0, .class_ 3)] 3

/-- java/io/Serializable -/
def k4 : Class := { plain "java/io/Serializable" (some 0) with
  accessFlags := 1537
  interfaces := #[]
  cf := some (fileOf pool4 2 #[] #[] 1537 4 #[] #[])
  fields := #[]
  methods := #[]
  instanceTypes := #[]
  staticTypes := #[]
  resolved := Array.replicate 8 none
  statics := none }

/-- the primitive byte -/
def k5 : Class := { plain "byte" none with kind := .primitive 'B', accessFlags := 0x411 }
/-- [B -/
def k6 : Class := { plain "[B" (some 0) with kind := .array 5 .byte, interfaces := #[3, 4], accessFlags := 1041 }

/-- the primitive int -/
def k7 : Class := { plain "int" none with kind := .primitive 'I', accessFlags := 0x411 }
/-- [I -/
def k8 : Class := { plain "[I" (some 0) with kind := .array 7 .int, interfaces := #[3, 4], accessFlags := 1041 }

def heap : Heap := #[{ cls := 2, slots := #[.ref 2, .ref 1, .null], vm := .statics 2 },
  { cls := 2, slots := #[.int (-2), .null, .int 0, .null, .long 0, .int 0], vm := .none },
  { cls := 2, slots := #[.int (-1), .null, .int 0, .null, .long 0, .int 0], vm := .none }]
def classes : Array Class := #[k0, k1, k2, k3, k4, k5, k6, k7, k8]
def interned : List (Array UInt16 × Addr) := []
def slotsUsed : Nat := 15
def theMethod : MethodId := ⟨1, 1⟩
def args0 : Array Value := #[.int 5]
def aboutOver (below : List Frame) : State where
  vm := { classes := classes, interned := interned.toArray }
  heap := heap
  slotsUsed := slotsUsed
  threads := #[{ frames := .invoking theMethod args0 :: below }]
def below0 : List Frame := [.native { method := ⟨0, 0⟩, args := #[] }]
def about1 : State := aboutOver below0
def p0 : Program := .bare "" "" ""
def e0 : Env := launch0.env 0 0 0
theorem w_frames : about1.frames = Frame.invoking theMethod args0 :: below0 := rfl
set_option maxRecDepth 65536 in
theorem w_args : argsFit about1.vm theMethod args0 = true := by decide +kernel
set_option maxRecDepth 65536 in
theorem w_heap : heapFits about1 = true := by decide +kernel
set_option maxRecDepth 65536 in
theorem w_runnable : about1.curStatus? = some .runnable := by decide +kernel
set_option maxRecDepth 65536 in
theorem w_alone : about1.alone = true := by decide +kernel
set_option maxRecDepth 65536 in
theorem w_named : about1.methodNamed? x = some theMethod := by decide +kernel
set_option maxRecDepth 65536 in
theorem w_hears : about1.hears theMethod below0 = true := by decide +kernel
set_option maxRecDepth 65536 in
theorem w_ripe : about1.ripe theMethod args0 below0 = true := by decide +kernel
theorem w_running : about1.status = .running := rfl
set_option maxRecDepth 65536 in
theorem w_room : about1.hasRoom e0.platform room_1 = true :=
  launch0.hasRoom_least _ room_1 (by decide +kernel) (by decide +kernel) (by decide +kernel) (by decide +kernel) (by decide +kernel) (by decide +kernel)
theorem allAtoms_all (ts : List Jvm.Cond) (a : Array Jvm.Value) (st : Jvm.State) : (allAtoms ts).before a st = ts.all (fun c => c.before a st) := by
  induction ts with
  | nil => rfl
  | cons c t ih =>
    show (Jvm.Cond.and c (allAtoms t)).before a st = _
    rw [Jvm.Cond.before_and, ih, List.all_cons]
def words1 : List Jvm.Cond := Jvm.Cond.code x code maxLocals ret :: tables_1
/-- a 'code' word, met by the world's own term for the bytes: nothing is compared byte by byte -/
theorem code_word {y : MethodName} {bytes : ByteArray} {mx : Nat} {rt : Option FieldType} {a : Array Value} {s : State} {m : MethodId} {meth : Method} {c : Code} (h1 : s.methodNamed? y = some m) (h2 : s.vm.method? m = some meth) (h3 : meth.code = some c) (h4 : c.code = bytes)
    (h5 : (c.maxLocals == mx && c.exceptionTable.isEmpty && decide (c.maxStack ≤ mostOperands) && decide (meth.sig.returnType = rt) && !meth.locks && decide (parseMethodDescriptor y.desc = some meth.sig)) = true) : (Jvm.Cond.code y bytes mx rt).before a s = true := by
  simp only [Bool.and_eq_true, beq_iff_eq, Bool.not_eq_true', decide_eq_true_eq] at h5
  obtain ⟨⟨⟨⟨⟨g1, g2⟩, g3⟩, g4⟩, g5⟩, g6⟩ := h5
  simp [Cond.before, Cond.holds, Cond.value, h1, h2, h3, h4, g1, g2, g3, g4, g5, g6]
def isCode : Jvm.Cond → Bool
  | .code _ _ _ _ => true
  | _ => false
theorem all_split {L : List Jvm.Cond} {P : Jvm.Cond → Bool} (h1 : L.all (fun c => isCode c || P c) = true) (h2 : ∀ c ∈ L.filter isCode, P c = true) : L.all P = true := by
  refine List.all_eq_true.mpr fun c hc => ?_
  have h := List.all_eq_true.mp h1 c hc
  rcases Bool.eq_false_or_eq_true (isCode c) with hi | hi
  · exact h2 c (List.mem_filter.mpr ⟨hc, hi⟩)
  · simpa [hi] using h
set_option maxRecDepth 65536 in
theorem w_c0 : (Jvm.Cond.code x code maxLocals ret).before args0 about1 = true := code_word (m := ⟨1, 1⟩) (meth := k1m1) (c := k1c1) (by decide +kernel) rfl rfl rfl (by decide +kernel)
set_option maxRecDepth 65536 in
theorem w_c1 : (Jvm.Cond.code ({ cls := "alternant/Obligation", name := "of", desc := "(Z)Lalternant/Obligation;" } : Jvm.MethodName) prog_50_method_2_code (1 : Nat) (Option.some (Jvm.ClassFile.FieldType.object "alternant/Obligation"))).before args0 about1 = true := code_word (m := ⟨2, 0⟩) (meth := k2m0) (c := k2c0) (by decide +kernel) rfl rfl rfl (by decide +kernel)
set_option maxRecDepth 65536 in
theorem w_c2 : (Jvm.Cond.code ({ cls := "alternant/Obligation", name := "number", desc := "()I" } : Jvm.MethodName) prog_50_method_12_code (1 : Nat) (Option.some Jvm.ClassFile.FieldType.int)).before args0 about1 = true := code_word (m := ⟨2, 1⟩) (meth := k2m1) (c := k2c1) (by decide +kernel) rfl rfl rfl (by decide +kernel)
set_option maxRecDepth 65536 in
theorem w_c3 : (Jvm.Cond.code ({ cls := "alternant/Obligation", name := "isDecided", desc := "()Z" } : Jvm.MethodName) prog_50_method_14_code (1 : Nat) (Option.some Jvm.ClassFile.FieldType.boolean)).before args0 about1 = true := code_word (m := ⟨2, 2⟩) (meth := k2m2) (c := k2c2) (by decide +kernel) rfl rfl rfl (by decide +kernel)
def codes1 : List Jvm.Cond := [Jvm.Cond.code x code maxLocals ret, Jvm.Cond.code ({ cls := "alternant/Obligation", name := "of", desc := "(Z)Lalternant/Obligation;" } : Jvm.MethodName) prog_50_method_2_code (1 : Nat) (Option.some (Jvm.ClassFile.FieldType.object "alternant/Obligation")), Jvm.Cond.code ({ cls := "alternant/Obligation", name := "number", desc := "()I" } : Jvm.MethodName) prog_50_method_12_code (1 : Nat) (Option.some Jvm.ClassFile.FieldType.int), Jvm.Cond.code ({ cls := "alternant/Obligation", name := "isDecided", desc := "()Z" } : Jvm.MethodName) prog_50_method_14_code (1 : Nat) (Option.some Jvm.ClassFile.FieldType.boolean)]
set_option maxRecDepth 65536 in
theorem codes_eq : words1.filter isCode = codes1 := rfl
theorem w_codes : ∀ c ∈ words1.filter isCode, c.before args0 about1 = true := by
  rw [codes_eq]
  intro c hc
  simp only [codes1, List.mem_cons, List.not_mem_nil, or_false] at hc
  rcases hc with rfl | rfl | rfl | rfl
  · exact w_c0
  · exact w_c1
  · exact w_c2
  · exact w_c3
set_option maxRecDepth 65536 in
theorem w_t1 : (words1.take 24).all (fun c => isCode c || c.before args0 about1) = true := by decide +kernel
set_option maxRecDepth 65536 in
theorem w_t2 : (words1.drop 24).all (fun c => isCode c || c.before args0 about1) = true := by decide +kernel
theorem w_tables : (allAtoms (Jvm.Cond.code x code maxLocals ret :: tables_1)).before args0 about1 = true := by
  rw [allAtoms_all]
  show words1.all (fun c => c.before args0 about1) = true
  refine all_split ?_ w_codes
  rw [← List.take_append_drop 24 words1, List.all_append, w_t1, w_t2]
  rfl
set_option maxRecDepth 65536 in
theorem w_case : (Jvm.Cond.and given_1 narrow_1).before args0 about1 = true := by decide +kernel
theorem w_applies : (headSpec (Jvm.Cond.code x code maxLocals ret :: tables_1) room_1).applies x e0.platform about1 = true :=
  (Spec.applies_iff w_frames).mpr ⟨w_running, w_runnable, w_alone, w_named, w_hears, w_ripe, w_room, w_tables⟩
theorem atStart : AtStart classFile x code maxLocals ret World_1 tables_1 room_1 Calls_1 rest_1 Pre_1 launch0 p0 e0 about1 theMethod args0 below0 :=
  ⟨lists_1, trivial, launch0.admits_env _ _ _, launch0.least_env, fairChoices_fair.cas, fairChoices_fair.clock, w_frames, w_args, w_heap, w_applies, trivial, trivial, w_case⟩
end start1
theorem witness_1 : WitnessClaimed_1 := ⟨start1.p0, start1.e0, start1.about1, start1.theMethod, start1.args0, start1.below0, start1.atStart⟩
end Jvm.Pilot.@@N@@
