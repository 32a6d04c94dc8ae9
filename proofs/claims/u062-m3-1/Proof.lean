import JvmDerived
import JvmDerived.Pilot.@@N@@Statement
import JvmDerived.Pilot.@@N@@Code
set_option linter.unusedVariables false
set_option linter.unusedSimpArgs false
namespace Jvm.Pilot.@@N@@
open Jvm Jvm.ClassFile Sem Op Lib Jvm.Free Jvm.Stand Jvm.LawKit Jvm.RoadKit Bundle Jvm.Pilot.@@N@@.Jvm.D
abbrev jv (x : Int64) : Slot := .val (.long x)
theorem ow {Z : State} {a0 : Array Value} (hw : ∀ d ∈ tables_1, d.before a0 Z = true) (i : Nat) {d : Jvm.Cond} (h : tables_1[i]? = some d) : d.before a0 Z = true := hw _ (List.mem_of_getElem? h)
section OwnKit
variable {p : Program} {l : Launch} {e : Env} {R : Room} {s : State} {m : MethodId} {args : Array Value} {below : List Frame} {meth : Method} {c : Code} {T T' : State} {locs : List Loc} {cells slots kc ks : Nat} {Q : Option Value → Heap → List Loc → Prop} {g g' : JFrame}
/-- from this state and frame on the body ends, and Q holds of what it returns, of the heap and of the places written -/
def OwnG (p : Program) (e : Env) (below : List Frame) (s : State) (kc ks : Nat) (Q : Option Value → Heap → List Loc → Prop) (T : State) (g : JFrame) : Prop :=
  ∃ s₂ o, Steps p.tables e below (T.setTop g) s₂ ∧ s₂.status = .running ∧ Ended s₂ below o ∧ ∃ v L, o = .returned v ∧ Q v s₂.heap L ∧ FrameEnd s o s₂ L kc ks
theorem own_by (k : ∀ t, Steps p.tables e below (T'.setTop g') t → Steps p.tables e below (T.setTop g) t) (h : OwnG p e below s kc ks Q T' g') : OwnG p e below s kc ks Q T g := by
  obtain ⟨s₂, o, st, r⟩ := h
  exact ⟨s₂, o, k _ st, r⟩
theorem own_out (X : Stand p l e R s m args below meth c T locs cells slots) (hlk : meth.locks = false) {v : Option Value} (hv : meth.sig.returnType = none → v = none)
    (hst : ∀ fs, (∀ (f : JFrame) (acts : List Action), f.method = m → f.locked = none → f.entered = [] → (doReturn e (T.setTop f) acts v).1 = T.setFrames fs) → Steps p.tables e below (T.setTop g) (T.setFrames fs))
    (hq : Q v T.heap locs) (hc : cells ≤ kc) (hs : slots ≤ ks) : OwnG p e below s kc ks Q T g := by
  obtain ⟨fs, hr, hrun, hended, hW, hsame⟩ := X.leave (v := v) hv hlk
  exact ⟨_, _, hst fs hr, hrun, hended, v, locs, rfl, hq, ⟨_, rfl⟩, hW, hsame.mono hc hs⟩
def OwnGW (p : Program) (e : Env) (below : List Frame) (s : State) (kc ks : Nat) (Q : Option Value → Heap → List Loc → Prop) (T : State) (g : JFrame) : Prop :=
  ∃ s₂ o, Steps p.tables e below (T.setTop g) s₂ ∧ s₂.status = .running ∧ Ended s₂ below o ∧ ∃ v L, o = .returned v ∧ Q v s₂.heap L ∧ ReturnedEndW s o s₂ L kc ks
theorem own_byW (k : ∀ t, Steps p.tables e below (T'.setTop g') t → Steps p.tables e below (T.setTop g) t) (h : OwnGW p e below s kc ks Q T' g') : OwnGW p e below s kc ks Q T g := by
  obtain ⟨s₂, o, st, r⟩ := h
  exact ⟨s₂, o, k _ st, r⟩
theorem own_outW {vm : Vm} {k : Nat} (X : Stand p l e R (s.setVm vm) m args below meth c T locs cells slots) (hS : s.Since vm k) (hk : k ≤ T.heap.size) (hlk : meth.locks = false) {v : Option Value} (hv : meth.sig.returnType = none → v = none)
    (hst : ∀ fs, (∀ (f : JFrame) (acts : List Action), f.method = m → f.locked = none → f.entered = [] → (doReturn e (T.setTop f) acts v).1 = T.setFrames fs) → Steps p.tables e below (T.setTop g) (T.setFrames fs))
    (hq : Q v T.heap locs) (hc : cells ≤ kc) (hs : slots ≤ ks) : OwnGW p e below s kc ks Q T g := by
  obtain ⟨fs, hr, hrun, hended, h1, h2, h3, h4⟩ := X.leaveW hS hk (v := v) hv hlk
  exact ⟨_, _, hst fs hr, hrun, hended, v, locs, rfl, hq, h1, h2, h3, h4.mono hc hs⟩
def OwnGH (p : Program) (e : Env) (below : List Frame) (s Z : State) (EL : List (String × Nat)) (kc ks : Nat) (Q : Option Value → Heap → List Loc → Prop) (T : State) (g : JFrame) : Prop :=
  ∃ s₂ o, Steps p.tables e below (T.setTop g) s₂ ∧ s₂.status = .running ∧ Ended s₂ below o ∧ ∃ v L, o = .returned v ∧ Q v s₂.heap L ∧ CHr Z EL s.vm s.heap s₂.vm s₂.heap ∧ ReturnedEndW s o s₂ L kc ks
theorem own_byH {Z : State} {EL : List (String × Nat)} (k : ∀ t, Steps p.tables e below (T'.setTop g') t → Steps p.tables e below (T.setTop g) t) (h : OwnGH p e below s Z EL kc ks Q T' g') : OwnGH p e below s Z EL kc ks Q T g := by
  obtain ⟨s₂, o, st, r⟩ := h
  exact ⟨s₂, o, k _ st, r⟩
theorem own_outH {Z : State} {a0 : Array Value} {EL : List (String × Nat)} {h0 : Heap} {vm : Vm} {k : Nat} (X : Stand p l e R (s.setVm vm) m args below meth c T locs cells slots) (hh : s.heap = h0) (hEL : EW Z a0 EL) (hS : s.Since vm k) (hk : k ≤ T.heap.size) (HR : CHr Z EL s.vm h0 vm T.heap) (hZ : Z.Warmed39 vm) (hlk : meth.locks = false) {v : Option Value} (hv : meth.sig.returnType = none → v = none)
    (hst : ∀ fs, (∀ (f : JFrame) (acts : List Action), f.method = m → f.locked = none → f.entered = [] → (doReturn e (T.setTop f) acts v).1 = T.setFrames fs) → Steps p.tables e below (T.setTop g) (T.setFrames fs))
    (hq : Q v T.heap locs) (hc : cells ≤ kc) (hs : slots ≤ ks) : OwnGH p e below s Z EL kc ks Q T g := by
  obtain ⟨fs, hr, hrun, hended, h1, h2, h3, h4⟩ := X.leaveW hS hk (v := v) hv hlk
  have C := HR.trans (CHv.at X hZ hEL HR.1)
  exact ⟨_, _, hst fs hr, hrun, hended, v, locs, rfl, hq, (by rw [hh]; exact C), h1, h2, h3, h4.mono hc hs⟩
theorem own_lt (x y : Int64) : lcmpW x y < 0 ↔ x < y := by rw [lcW]; exact lc_lt x y
theorem own_gt (x y : Int64) : 0 < lcmpW x y ↔ y < x := by rw [lcW]; exact lc_gt x y
theorem own_eq (x y : Int64) : lcmpW x y = 0 ↔ x = y := by rw [lcW]; exact lc_eq x y
theorem own_fldI {Z : State} {a : Addr} {t : Jvm.Term} {C n d : String} {k : Int32} (ev : t.eval args Z none [] Z = some (.ref a)) (h : (Jvm.Cond.eq (Jvm.Term.field t C n d) (Jvm.Term.int k)).value args Z none Z [] = some true) : Fld Z Z.heap a C n d (.int k) := by
  obtain ⟨x, y, h1, h2, h3, h4⟩ := cmp_v (Or.inl h)
  cases (Term.int_eval k).symm.trans h2
  obtain ⟨z, rfl⟩ := h4
  rw [fld_at ev] at h1
  have h5 : (Jvm.Cond.eq (Jvm.Term.field t C n d) (Jvm.Term.int k)).value args Z none Z [] = some (decide (z = k)) := by simp [Jvm.Cond.value, fld_at ev, h1, Term.int_eval]
  cases gotT h5 h
  exact Fld.start h1
theorem own_fldJ {Z : State} {a : Addr} {t : Jvm.Term} {C n d : String} {k : Int64} (ev : t.eval args Z none [] Z = some (.ref a)) (h : (Jvm.Cond.eq (Jvm.Term.field t C n d) (Jvm.Term.long k)).value args Z none Z [] = some true) : Fld Z Z.heap a C n d (.long k) := by
  obtain ⟨x, y, h1, h2, h3, h4⟩ := cmp_v (Or.inl h)
  cases (long_at k).symm.trans h2
  obtain ⟨z, rfl⟩ := h4
  have h5 := gotT (eq_L h1 (long_at k)) h
  rw [fld_at ev] at h1
  cases h5
  exact Fld.start h1
theorem own_fldN {Z : State} {a : Addr} {t : Jvm.Term} {C n d : String} (ev : t.eval args Z none [] Z = some (.ref a)) (h : (Jvm.Cond.eq (Jvm.Term.field t C n d) Jvm.Term.null).value args Z none Z [] = some true) : Fld Z Z.heap a C n d .null := by
  have h1 := null_v h
  rw [fld_at ev] at h1
  exact Fld.start h1
theorem own_e0 {P : Prop} [Decidable P] (h : (if P then (1 : Int32) else (0 : Int32)) = 0) : ¬ P := fun q => by rw [if_pos q] at h; exact absurd h (by decide)
theorem own_e1 {P : Prop} [Decidable P] (h : ¬ (if P then (1 : Int32) else (0 : Int32)) = 0) : P := by
  by_cases q : P
  · exact q
  · exact absurd (if_neg q) h
theorem own_n2 {P Q : Prop} [Decidable P] [Decidable Q] {A : Int32} (h : ¬ (P ∧ Q)) : (if P then (if Q then A else (0 : Int32)) else (0 : Int32)) = 0 := by
  by_cases p : P
  · rw [if_pos p, if_neg (fun q => h ⟨p, q⟩)]
  · rw [if_neg p]
theorem own_narR {v : Value} {C : String} (h : v.isRef = true) : narrow (.object C) v = v := by rcases ref_cases h with rfl | ⟨_, rfl⟩ <;> rfl
theorem own_fitR {v : Value} {C : String} (h : v.isRef = true) : fits (.object C) v = true := by rcases ref_cases h with rfl | ⟨_, rfl⟩ <;> rfl
theorem own_len {Z : State} {t : Jvm.Term} {a : Addr} {cl : Cell} {ty : FieldType} {k : Int32} (et : t.eval args Z none [] Z = some (.ref a)) (A : Arr Z Z.heap a cl ty) (h : (Jvm.Term.length t).eval args Z none [] Z = some (.int k)) : cl.slots.size < 2 ^ 31 ∧ cl.slots.size.toInt32 = k := by
  have hA := A.fin (Vm.Alike.refl Z.vm)
  by_cases q : cl.slots.size < 2 ^ 31
  · rw [len_f et hA q] at h; exact ⟨q, by simpa using h⟩
  · simp [Jvm.Term.eval, et, hA] at h; exact absurd h.1 q
theorem own_mvM {Z : State} {a0 : Array Value} {own host : String} {index : Nat} {y : MethodName} (hZ : Z.Warmed39 s.vm) (w : (Jvm.Cond.methodLinkNest own index y host).before a0 Z = true) : (Jvm.Cond.methodLinkNest own index y host).before args s = true := (Cond.methodLinkNest_wide hZ w :)
end OwnKit
theorem d1_0 : decode prog_7_method_6_code 0 = .ok (.aload_n 0, 1) := by decide +kernel
theorem d1_1 : decode prog_7_method_6_code 1 = .ok (.getfield 35, 3) := by decide +kernel
theorem d1_4 : decode prog_7_method_6_code 4 = .ok (.iload_n 1, 1) := by decide +kernel
theorem d1_5 : decode prog_7_method_6_code 5 = .ok (.i2l, 1) := by decide +kernel
theorem d1_6 : decode prog_7_method_6_code 6 = .ok (.aload_n 0, 1) := by decide +kernel
theorem d1_7 : decode prog_7_method_6_code 7 = .ok (.getfield 39, 3) := by decide +kernel
theorem d1_10 : decode prog_7_method_6_code 10 = .ok (.aload_n 0, 1) := by decide +kernel
theorem d1_11 : decode prog_7_method_6_code 11 = .ok (.getfield 43, 3) := by decide +kernel
theorem d1_14 : decode prog_7_method_6_code 14 = .ok (.invokestatic 52, 3) := by decide +kernel
theorem d1_17 : decode prog_7_method_6_code 17 = .ok (.l2i, 1) := by decide +kernel
theorem d1_18 : decode prog_7_method_6_code 18 = .ok (.ireturn, 1) := by decide +kernel
theorem d2_0 : decode prog_6_method_7_code 0 = .ok (.lload_n 1, 1) := by decide +kernel
theorem d2_1 : decode prog_6_method_7_code 1 = .ok (.iload_n 3, 1) := by decide +kernel
theorem d2_2 : decode prog_6_method_7_code 2 = .ok (.i2l, 1) := by decide +kernel
theorem d2_3 : decode prog_6_method_7_code 3 = .ok (.lcmp, 1) := by decide +kernel
theorem d2_4 : decode prog_6_method_7_code 4 = .ok (.ifCond .lt 11, 3) := by decide +kernel
theorem d2_7 : decode prog_6_method_7_code 7 = .ok (.lload_n 1, 1) := by decide +kernel
theorem d2_8 : decode prog_6_method_7_code 8 = .ok (.iload 4, 2) := by decide +kernel
theorem d2_10 : decode prog_6_method_7_code 10 = .ok (.i2l, 1) := by decide +kernel
theorem d2_11 : decode prog_6_method_7_code 11 = .ok (.lcmp, 1) := by decide +kernel
theorem d2_12 : decode prog_6_method_7_code 12 = .ok (.ifCond .le 11, 3) := by decide +kernel
theorem d2_23 : decode prog_6_method_7_code 23 = .ok (.lload_n 1, 1) := by decide +kernel
theorem d2_24 : decode prog_6_method_7_code 24 = .ok (.lreturn, 1) := by decide +kernel
theorem pn_0 : plainName "com/example/rankle/rankle/Limits" = true := by first | (simp [plainName, overriddenIn]; done) | decide +kernel
theorem pn_1 : plainName "com/example/rankle/rankle/Limits$Count" = true := by first | (simp [plainName, overriddenIn]; done) | decide +kernel
theorem pn_2 : plainName "com/example/rankle/rankle/CountRequirePinLaw" = true := by first | (simp [plainName, overriddenIn]; done) | decide +kernel
theorem pd_0 : parseMethodDescriptor "(Ljava/lang/String;JII)J" = some ⟨[(.object "java/lang/String"), .long, .int, .int], some .long⟩ := by decide +kernel
theorem pd_1 : parseMethodDescriptor "(I)I" = some ⟨[.int], some .int⟩ := by decide +kernel
theorem ef_rm2 (m : MethodId) (x0 : Addr) (x1 : Int64) (x2 : Int32) (x3 : Int32) : entryFrame m #[(.ref x0), (.long x1), (.int x2), (.int x3)] 5 = mkF m 0 #[.val (.ref x0), .val (.long x1), .second, .val (.int x2), .val (.int x3)] [] := by first | (simp [entryFrame, mkF, argsToLocals, Value.category]; done) | rfl
theorem ef_rm1 (m : MethodId) (x0 : Addr) (x1 : Int32) : entryFrame m #[(.ref x0), (.int x1)] 2 = mkF m 0 #[.val (.ref x0), .val (.int x1)] [] := by first | (simp [entryFrame, mkF, argsToLocals, Value.category]; done) | rfl
theorem ef_rm0 (m : MethodId) (x0 : Int32) (x1 : Int32) (x2 : Int32) : entryFrame m #[(.int x0), (.int x1), (.int x2)] maxLocals = mkF m 0 #[.val (.int x0), .val (.int x1), .val (.int x2), .unset, .unset, .unset, .unset, .unset, .unset] [] := by first | (simp [entryFrame, mkF, argsToLocals, Value.category, maxLocals]; done) | rfl
theorem own_rng (x lo hi d : Int32) (h0 : 0 ≤ lo.toInt) (hd : d.toInt = hi.toInt - lo.toInt + 1) (hp : lo.toInt ≤ hi.toInt) (hb : hi.toInt < 1000000) : ¬ ((lo + ((x &&& (2147483647 : Int32)) % d)).toInt64 < lo.toInt64) ∧ ¬ (hi.toInt64 < (lo + ((x &&& (2147483647 : Int32)) % d)).toInt64) := by
  have h1 := c_and x (2147483647 : Int32) (by decide)
  generalize (x &&& (2147483647 : Int32)) = y at h1 ⊢
  have h2 := (c_iremV y d).1 h1.1 (by omega)
  generalize y % d = r at h2 ⊢
  have h3 : (lo + r).toInt = lo.toInt + r.toInt := by
    rw [Int32.toInt_add]
    exact Int.bmod_eq_of_le (by omega) (by omega)
  rw [Int64.lt_iff_toInt_lt, Int64.lt_iff_toInt_lt, Int32.toInt_toInt64, Int32.toInt_toInt64, Int32.toInt_toInt64, h3]
  omega
def Q_rm2 (Z : State) (a1 : Addr) (q1 : Int64) (k1 k2 : Int32) (h0 : Heap) (n0 : Nat) : Option Value → Heap → List Loc → Prop := fun v h L => v = some (.long q1) ∧ L = [] ∧ h = h0
set_option maxRecDepth 65536 in
set_option maxHeartbeats 40000000 in
theorem rm2 (l : Launch) (Z : State) (a0 : Array Value) (hw : ∀ d ∈ tables_1, d.before a0 Z = true) (ws : List Jvm.Cond) (a1 : Addr) (q1 : Int64) (k1 k2 : Int32) (h0 : Heap) (n0 : Nat) (O : Old Z n0 h0) (h1 : ¬ (q1 < k1.toInt64)) (h2 : ¬ (k2.toInt64 < q1)) :
    MetFree l (⟨"com/example/rankle/rankle/Limits", "requireCount", "(Ljava/lang/String;JII)J"⟩ : MethodName) (head1 (Jvm.Cond.code (⟨"com/example/rankle/rankle/Limits", "requireCount", "(Ljava/lang/String;JII)J"⟩ : MethodName) prog_6_method_7_code 5 (some .long) :: ws) ({ frames := 0, cells := 0, slots := 0, locals := 0 } : Room)) (fun a U => a = #[(.ref a1), (.long q1), (.int k1), (.int k2)] ∧ Z.Warmed39 U.vm ∧ U.heap = h0) (fun _ _ _ _ _ => True) (fun _ U o U' => ∃ v L, o = .returned v ∧ (Q_rm2 Z a1 q1 k1 k2 h0 n0) v U'.heap L ∧ FrameEnd U o U' L ({ frames := 0, cells := 0, slots := 0, locals := 0 } : Room).cells ({ frames := 0, cells := 0, slots := 0, locals := 0 } : Room).slots) := by
  refine MetFree.of_bodySF (plainFor_of_name pn_0) hisR ?_
  intro p e s m args below meth c s₁ Bd hml0 hP hK
  obtain ⟨rfl, hZ, hh⟩ := hP
  have hx := Bd.exec
  have hby := Bd.bytes
  have hml : c.maxLocals = 5 := hml0
  have hown : s.vm.findClass "com/example/rankle/rankle/Limits" = some m.cls := findClass_of_methodNamed Bd.named
  have hnm := (name_of_methodNamed Bd.named Bd.method).1
  have hlk := BodyLoose.notSynchronized Bd
  have X0 : Stand p l e ({ frames := 0, cells := 0, slots := 0, locals := 0 } : Room) s m #[(.ref a1), (.long q1), (.int k1), (.int k2)] below meth c s₁ [] 0 0 := Stand.of_body Bd
  have e0 : s₁.heap = h0 := by rw [← hh, Bd.state]; rfl
  have N := Fr.nil n0
  obtain ⟨G, hG⟩ : ∃ G : State → JFrame → Prop, G = OwnG p e below s ({ frames := 0, cells := 0, slots := 0, locals := 0 } : Room).cells ({ frames := 0, cells := 0, slots := 0, locals := 0 } : Room).slots (Q_rm2 Z a1 q1 k1 k2 h0 n0) := ⟨_, rfl⟩
  have gb : ∀ {T T' : State} {g g' : JFrame}, (∀ t, Steps p.tables e below (T'.setTop g') t → Steps p.tables e below (T.setTop g) t) → G T' g' → G T g := by subst hG; exact fun k h => own_by k h
  have go : ∀ {T : State} {locs : List Loc} {cells slots : Nat} {g : JFrame} {v : Option Value}, Stand p l e ({ frames := 0, cells := 0, slots := 0, locals := 0 } : Room) s m #[(.ref a1), (.long q1), (.int k1), (.int k2)] below meth c T locs cells slots → (meth.sig.returnType = none → v = none) → (∀ fs, (∀ (f : JFrame) (acts : List Action), f.method = m → f.locked = none → f.entered = [] → (doReturn e (T.setTop f) acts v).1 = T.setFrames fs) → Steps p.tables e below (T.setTop g) (T.setFrames fs)) → (Q_rm2 Z a1 q1 k1 k2 h0 n0) v T.heap locs → cells ≤ ({ frames := 0, cells := 0, slots := 0, locals := 0 } : Room).cells → slots ≤ ({ frames := 0, cells := 0, slots := 0, locals := 0 } : Room).slots → G T g := by subst hG; exact fun X h1 h2 h3 h4 h5 => own_out X hlk h1 h2 h3 h4 h5
  show OwnG p e below s ({ frames := 0, cells := 0, slots := 0, locals := 0 } : Room).cells ({ frames := 0, cells := 0, slots := 0, locals := 0 } : Room).slots (Q_rm2 Z a1 q1 k1 k2 h0 n0) s₁ (entryFrame m #[(.ref a1), (.long q1), (.int k1), (.int k2)] 5)
  rw [← hG, ef_rm2 m a1 q1 k1 k2]
  clear hG
  show G s₁ (mkF m 0 #[.val (.ref a1), .val (.long q1), .second, .val (.int k1), .val (.int k2)] [])
  refine gb (fun _ k => XS.lloadN X0.here hx rfl (hb hby d2_0) rfl (XS.iloadN X0.here hx rfl (hb hby d2_1) rfl (XS.i2l X0.here hx rfl (hb hby d2_2) rfl (XS.lcmp X0.here hx rfl (hb hby d2_3) rfl (XS.ifNo X0.here hx rfl (hb hby d2_4) rfl ((if0 _ _).trans (flt (fun q => h1 ((own_lt _ _).mp q))).1) (XS.lloadN X0.here hx rfl (hb hby d2_7) rfl k)))))) ?_
  show G s₁ (mkF m 8 #[rv a1, jv q1, .second, iv k1, iv k2] [.long q1])
  refine gb (fun _ k => XS.iload X0.here hx rfl (hb hby d2_8) rfl (XS.i2l X0.here hx rfl (hb hby d2_10) rfl (XS.lcmp X0.here hx rfl (hb hby d2_11) rfl (XS.ifYes X0.here hx rfl (pc0 := 12) (pc' := 23) rfl (hb hby d2_12) rfl ((if0 _ _).trans (flt (fun q => h2 ((own_gt _ _).mp q))).2.2.2) (by decide) (by decide) (XS.lloadN X0.here hx rfl (hb hby d2_23) rfl k))))) ?_
  show G s₁ (mkF m 24 #[rv a1, jv q1, .second, iv k1, iv k2] [.long q1])
  exact go X0 (v := (some (.long q1))) (fun h => by rw [Bd.returns] at h; cases h) (fun fs hr => retOut X0 hx Bd.returns rfl (Or.inr (Or.inl ⟨rfl, rfl, _, rfl⟩)) (hb hby d2_24) hr) (⟨rfl, rfl, e0⟩) (by decide) (by decide)
def Q_rm1 (Z : State) (a1 a2 : Addr) (p1 k1 k2 : Int32) (h0 : Heap) (n0 : Nat) : Option Value → Heap → List Loc → Prop := fun v h L => v = some (.int p1) ∧ L = [] ∧ h = h0
set_option maxRecDepth 65536 in
set_option maxHeartbeats 40000000 in
theorem rm1 (l : Launch) (Z : State) (a0 : Array Value) (hw : ∀ d ∈ tables_1, d.before a0 Z = true) (ws : List Jvm.Cond) (a1 a2 : Addr) (p1 k1 k2 : Int32) (h0 : Heap) (n0 : Nat) (O : Old Z n0 h0) (F_label : Fld Z h0 a1 "com/example/rankle/rankle/Limits$Count" "label" "Ljava/lang/String;" (.ref a2)) (F_min : Fld Z h0 a1 "com/example/rankle/rankle/Limits$Count" "min" "I" (.int k1)) (F_max : Fld Z h0 a1 "com/example/rankle/rankle/Limits$Count" "max" "I" (.int k2)) (h1 : ¬ (p1.toInt64 < k1.toInt64)) (h2 : ¬ (k2.toInt64 < p1.toInt64)) :
    MetFree l (⟨"com/example/rankle/rankle/Limits$Count", "require", "(I)I"⟩ : MethodName) (head1 (Jvm.Cond.code (⟨"com/example/rankle/rankle/Limits$Count", "require", "(I)I"⟩ : MethodName) prog_7_method_6_code 2 (some .int) :: ws) ({ frames := 1, cells := 0, slots := 0, locals := 16 } : Room)) (fun a U => a = #[(.ref a1), (.int p1)] ∧ Z.Warmed39 U.vm ∧ U.heap = h0) (fun _ _ _ _ _ => True) (fun _ U o U' => ∃ v L, o = .returned v ∧ (Q_rm1 Z a1 a2 p1 k1 k2 h0 n0) v U'.heap L ∧ FrameEnd U o U' L ({ frames := 1, cells := 0, slots := 0, locals := 16 } : Room).cells ({ frames := 1, cells := 0, slots := 0, locals := 16 } : Room).slots) := by
  refine MetFree.of_bodySF (plainFor_of_name pn_1) hisR ?_
  intro p e s m args below meth c s₁ Bd hml0 hP hK
  obtain ⟨rfl, hZ, hh⟩ := hP
  have hx := Bd.exec
  have hby := Bd.bytes
  have hml : c.maxLocals = 2 := hml0
  have hown : s.vm.findClass "com/example/rankle/rankle/Limits$Count" = some m.cls := findClass_of_methodNamed Bd.named
  have hnm := (name_of_methodNamed Bd.named Bd.method).1
  have hlk := BodyLoose.notSynchronized Bd
  have X0 : Stand p l e ({ frames := 1, cells := 0, slots := 0, locals := 16 } : Room) s m #[(.ref a1), (.int p1)] below meth c s₁ [] 0 0 := Stand.of_body Bd
  have e0 : s₁.heap = h0 := by rw [← hh, Bd.state]; rfl
  have N := Fr.nil n0
  obtain ⟨G, hG⟩ : ∃ G : State → JFrame → Prop, G = OwnG p e below s ({ frames := 1, cells := 0, slots := 0, locals := 16 } : Room).cells ({ frames := 1, cells := 0, slots := 0, locals := 16 } : Room).slots (Q_rm1 Z a1 a2 p1 k1 k2 h0 n0) := ⟨_, rfl⟩
  have gb : ∀ {T T' : State} {g g' : JFrame}, (∀ t, Steps p.tables e below (T'.setTop g') t → Steps p.tables e below (T.setTop g) t) → G T' g' → G T g := by subst hG; exact fun k h => own_by k h
  have go : ∀ {T : State} {locs : List Loc} {cells slots : Nat} {g : JFrame} {v : Option Value}, Stand p l e ({ frames := 1, cells := 0, slots := 0, locals := 16 } : Room) s m #[(.ref a1), (.int p1)] below meth c T locs cells slots → (meth.sig.returnType = none → v = none) → (∀ fs, (∀ (f : JFrame) (acts : List Action), f.method = m → f.locked = none → f.entered = [] → (doReturn e (T.setTop f) acts v).1 = T.setFrames fs) → Steps p.tables e below (T.setTop g) (T.setFrames fs)) → (Q_rm1 Z a1 a2 p1 k1 k2 h0 n0) v T.heap locs → cells ≤ ({ frames := 1, cells := 0, slots := 0, locals := 16 } : Room).cells → slots ≤ ({ frames := 1, cells := 0, slots := 0, locals := 16 } : Room).slots → G T g := by subst hG; exact fun X h1 h2 h3 h4 h5 => own_out X hlk h1 h2 h3 h4 h5
  show OwnG p e below s ({ frames := 1, cells := 0, slots := 0, locals := 16 } : Room).cells ({ frames := 1, cells := 0, slots := 0, locals := 16 } : Room).slots (Q_rm1 Z a1 a2 p1 k1 k2 h0 n0) s₁ (entryFrame m #[(.ref a1), (.int p1)] 2)
  rw [← hG, ef_rm1 m a1 p1]
  clear hG
  show G s₁ (mkF m 0 #[.val (.ref a1), .val (.int p1)] [])
  refine gb (fun _ k => XS.aloadN X0.here hx rfl (hb hby d1_0) rfl rfl k) ?_
  show G s₁ (mkF m 1 #[rv a1, iv p1] [.ref a1])
  obtain ⟨T1, X1, e1, st1⟩ := getF X0 hx hZ hown (host := "") (Or.inl (ow hw 9 rfl)) Via.refl e0 F_label (g := (mkF m 1 #[rv a1, iv p1] [.ref a1])) rfl rfl (hb hby d1_1)
  refine gb st1 ?_
  show G T1 (mkF m 4 #[rv a1, iv p1] [.ref a2])
  refine gb (fun _ k => XS.iloadN X1.here hx rfl (hb hby d1_4) rfl (XS.i2l X1.here hx rfl (hb hby d1_5) rfl (XS.aloadN X1.here hx rfl (hb hby d1_6) rfl rfl k))) ?_
  show G T1 (mkF m 7 #[rv a1, iv p1] [.ref a1, .long (p1.toInt64), .ref a2])
  obtain ⟨T2, X2, e2, st2⟩ := getF X1 hx hZ hown (host := "") (Or.inl (ow hw 11 rfl)) Via.refl e1 F_min (g := (mkF m 7 #[rv a1, iv p1] [.ref a1, .long (p1.toInt64), .ref a2])) rfl rfl (hb hby d1_7)
  refine gb st2 ?_
  show G T2 (mkF m 10 #[rv a1, iv p1] [.int k1, .long (p1.toInt64), .ref a2])
  refine gb (fun _ k => XS.aloadN X2.here hx rfl (hb hby d1_10) rfl rfl k) ?_
  show G T2 (mkF m 11 #[rv a1, iv p1] [.ref a1, .int k1, .long (p1.toInt64), .ref a2])
  obtain ⟨T3, X3, e3, st3⟩ := getF X2 hx hZ hown (host := "") (Or.inl (ow hw 13 rfl)) Via.refl e2 F_max (g := (mkF m 11 #[rv a1, iv p1] [.ref a1, .int k1, .long (p1.toInt64), .ref a2])) rfl rfl (hb hby d1_11)
  refine gb st3 ?_
  show G T3 (mkF m 14 #[rv a1, iv p1] [.int k2, .int k1, .long (p1.toInt64), .ref a2])
  obtain ⟨_, _, ⟨T4, L4, k4, n4⟩, -, X4, ⟨Lc4, hQ4, l4, y4, z4⟩, st4⟩ := callSN X3 hx (y := (⟨"com/example/rankle/rankle/Limits", "requireCount", "(Ljava/lang/String;JII)J"⟩ : MethodName)) hown (own_mvM hZ (ow hw 15 rfl)) (mvT hZ (ow hw 16 rfl)) (mvT hZ (ow hw 17 rfl)) (mvT hZ (ow hw 18 rfl)) (by decide) (backOf (W := 0) (rm2 l Z a0 hw [] a2 (p1.toInt64) k1 k2 h0 n0 O h1 h2) hZ (ow hw 18 rfl) (ow hw 17 rfl) (by decide) (by decide)) (g := (mkF m 14 #[rv a1, iv p1] [.int k2, .int k1, .long (p1.toInt64), .ref a2])) rfl (by rw [hml]; rfl) (argsL := [(.ref a2), (.long (p1.toInt64)), (.int k1), (.int k2)]) (rest := []) (lenOf pd_0 rfl) rfl (by show 2 * 0 + _ ≤ _; exact Nat.le_of_eq rfl) (hb hby d1_14) (fun _ _ => ⟨rfl, e3, (by decide : 0 + 0 ≤ _), (by decide : 0 + 0 ≤ _)⟩)
  dsimp only [Pt.U, Pt.locs, Pt.cells, Pt.slots] at X4 l4 y4 z4 st4 hQ4
  subst l4 y4 z4
  obtain ⟨rfl, rfl, e4⟩ := hQ4
  try rw [List.append_nil] at X4
  refine gb (fun _ k => st4.trans k) ?_
  show G T4 (mkF m 17 #[rv a1, iv p1] [.long (p1.toInt64)])
  refine gb (fun _ k => XS.l2i X4.here hx rfl (hb hby d1_17) rfl k) ?_
  show G T4 (mkF m 18 #[rv a1, iv p1] [.int ((p1.toInt64).toInt32)])
  exact go X4 (v := (some (.int ((p1.toInt64).toInt32)))) (fun h => by rw [Bd.returns] at h; cases h) (fun fs hr => retOut X4 hx Bd.returns rfl (Or.inl ⟨rfl, by simp, _, rfl⟩) (hb hby d1_18) hr) (⟨by rw [Int32.toInt32_toInt64], rfl, e4⟩) (by decide) (by decide)
def Q_rm0 (Z : State) (i0 i1 i2 : Int32) (h0 : Heap) (n0 : Nat) (w_TOP l_TOP : Addr) (w_BEFORE l_BEFORE : Addr) (w_AFTER l_AFTER : Addr) (w_OPPONENTS l_OPPONENTS : Addr) : Option Value → Heap → List Loc → Prop := fun v h L => v = some (.int 1) ∧ Fr n0 L
set_option maxRecDepth 65536 in
set_option maxHeartbeats 40000000 in
theorem rm0 (l : Launch) (Z : State) (a0 : Array Value) (hw : ∀ d ∈ tables_1, d.before a0 Z = true) (ws : List Jvm.Cond) (i0 i1 i2 : Int32) (h0 : Heap) (n0 : Nat) (O : Old Z n0 h0) (w_TOP l_TOP : Addr) (S_TOP : Sta Z Z.heap "com/example/rankle/rankle/Limits$Count" "TOP" "Lcom/example/rankle/rankle/Limits$Count;" (.ref w_TOP)) (E_TOP : Exa Z Z.heap w_TOP "com/example/rankle/rankle/Limits$Count") (F_label_TOP : Fld Z Z.heap w_TOP "com/example/rankle/rankle/Limits$Count" "label" "Ljava/lang/String;" (.ref l_TOP)) (F_min_TOP : Fld Z Z.heap w_TOP "com/example/rankle/rankle/Limits$Count" "min" "I" (.int (1 : Int32))) (F_max_TOP : Fld Z Z.heap w_TOP "com/example/rankle/rankle/Limits$Count" "max" "I" (.int (1000 : Int32))) (w_BEFORE l_BEFORE : Addr) (S_BEFORE : Sta Z Z.heap "com/example/rankle/rankle/Limits$Count" "BEFORE" "Lcom/example/rankle/rankle/Limits$Count;" (.ref w_BEFORE)) (E_BEFORE : Exa Z Z.heap w_BEFORE "com/example/rankle/rankle/Limits$Count") (F_label_BEFORE : Fld Z Z.heap w_BEFORE "com/example/rankle/rankle/Limits$Count" "label" "Ljava/lang/String;" (.ref l_BEFORE)) (F_min_BEFORE : Fld Z Z.heap w_BEFORE "com/example/rankle/rankle/Limits$Count" "min" "I" (.int (0 : Int32))) (F_max_BEFORE : Fld Z Z.heap w_BEFORE "com/example/rankle/rankle/Limits$Count" "max" "I" (.int (100 : Int32))) (w_AFTER l_AFTER : Addr) (S_AFTER : Sta Z Z.heap "com/example/rankle/rankle/Limits$Count" "AFTER" "Lcom/example/rankle/rankle/Limits$Count;" (.ref w_AFTER)) (E_AFTER : Exa Z Z.heap w_AFTER "com/example/rankle/rankle/Limits$Count") (F_label_AFTER : Fld Z Z.heap w_AFTER "com/example/rankle/rankle/Limits$Count" "label" "Ljava/lang/String;" (.ref l_AFTER)) (F_min_AFTER : Fld Z Z.heap w_AFTER "com/example/rankle/rankle/Limits$Count" "min" "I" (.int (0 : Int32))) (F_max_AFTER : Fld Z Z.heap w_AFTER "com/example/rankle/rankle/Limits$Count" "max" "I" (.int (100 : Int32))) (w_OPPONENTS l_OPPONENTS : Addr) (S_OPPONENTS : Sta Z Z.heap "com/example/rankle/rankle/Limits$Count" "OPPONENTS" "Lcom/example/rankle/rankle/Limits$Count;" (.ref w_OPPONENTS)) (E_OPPONENTS : Exa Z Z.heap w_OPPONENTS "com/example/rankle/rankle/Limits$Count") (F_label_OPPONENTS : Fld Z Z.heap w_OPPONENTS "com/example/rankle/rankle/Limits$Count" "label" "Ljava/lang/String;" (.ref l_OPPONENTS)) (F_min_OPPONENTS : Fld Z Z.heap w_OPPONENTS "com/example/rankle/rankle/Limits$Count" "min" "I" (.int (1 : Int32))) (F_max_OPPONENTS : Fld Z Z.heap w_OPPONENTS "com/example/rankle/rankle/Limits$Count" "max" "I" (.int (10000 : Int32))) :
    MetFree l x (head1 (Jvm.Cond.code x code maxLocals ret :: ws) room_1) (fun a U => a = #[(.int i0), (.int i1), (.int i2)] ∧ Z.Warmed39 U.vm ∧ U.heap = h0 ∧ U = Z) (fun _ _ _ _ _ => True) (fun _ U o U' => ∃ v L, o = .returned v ∧ (Q_rm0 Z i0 i1 i2 h0 n0 w_TOP l_TOP w_BEFORE l_BEFORE w_AFTER l_AFTER w_OPPONENTS l_OPPONENTS) v U'.heap L ∧ FrameEnd U o U' L 0 0) := by
  refine MetFree.of_bodySF (plainFor_of_name pn_2) hisR ?_
  intro p e s m args below meth c s₁ Bd hml0 hP hK
  obtain ⟨rfl, hZ, hh, hUZ⟩ := hP
  have hx := Bd.exec
  have hby := Bd.bytes
  have hml : c.maxLocals = 9 := hml0
  have hown : s.vm.findClass "com/example/rankle/rankle/CountRequirePinLaw" = some m.cls := findClass_of_methodNamed Bd.named
  have hnm := (name_of_methodNamed Bd.named Bd.method).1
  have hlk := BodyLoose.notSynchronized Bd
  have X0 : Stand p l e room_1 s m #[(.int i0), (.int i1), (.int i2)] below meth c s₁ [] 0 0 := Stand.of_body Bd
  have e0 : s₁.heap = h0 := by rw [← hh, Bd.state]; rfl
  have N := Fr.nil n0
  have O0 := O
  obtain ⟨G, hG⟩ : ∃ G : State → JFrame → Prop, G = OwnG p e below s 0 0 (Q_rm0 Z i0 i1 i2 h0 n0 w_TOP l_TOP w_BEFORE l_BEFORE w_AFTER l_AFTER w_OPPONENTS l_OPPONENTS) := ⟨_, rfl⟩
  have gb : ∀ {T T' : State} {g g' : JFrame}, (∀ t, Steps p.tables e below (T'.setTop g') t → Steps p.tables e below (T.setTop g) t) → G T' g' → G T g := by subst hG; exact fun k h => own_by k h
  have go : ∀ {T : State} {locs : List Loc} {cells slots : Nat} {g : JFrame} {v : Option Value}, Stand p l e room_1 s m #[(.int i0), (.int i1), (.int i2)] below meth c T locs cells slots → (meth.sig.returnType = none → v = none) → (∀ fs, (∀ (f : JFrame) (acts : List Action), f.method = m → f.locked = none → f.entered = [] → (doReturn e (T.setTop f) acts v).1 = T.setFrames fs) → Steps p.tables e below (T.setTop g) (T.setFrames fs)) → (Q_rm0 Z i0 i1 i2 h0 n0 w_TOP l_TOP w_BEFORE l_BEFORE w_AFTER l_AFTER w_OPPONENTS l_OPPONENTS) v T.heap locs → cells ≤ 0 → slots ≤ 0 → G T g := by subst hG; exact fun X h1 h2 h3 h4 h5 => own_out X hlk h1 h2 h3 h4 h5
  show OwnG p e below s 0 0 (Q_rm0 Z i0 i1 i2 h0 n0 w_TOP l_TOP w_BEFORE l_BEFORE w_AFTER l_AFTER w_OPPONENTS l_OPPONENTS) s₁ (entryFrame m #[(.int i0), (.int i1), (.int i2)] maxLocals)
  rw [← hG, ef_rm0 m i0 i1 i2]
  clear hG
  show G s₁ (mkF m 0 #[.val (.int i0), .val (.int i1), .val (.int i2), .unset, .unset, .unset, .unset, .unset, .unset] [])
  refine gb (fun _ k => XS.iloadN X0.here hx rfl (hb hby at_0) rfl (XS.iconst X0.here hx rfl (hb hby at_1) (XS.iand X0.here hx rfl (hb hby at_2) rfl (XS.istoreN X0.here hx rfl (hb hby at_3) rfl (l' := #[iv i0, iv i1, iv i2, iv (i0 &&& (3 : Int32)), .unset, .unset, .unset, .unset, .unset]) rfl (XS.iloadN X0.here hx rfl (hb hby at_4) rfl k))))) ?_
  show G s₁ (mkF m 5 #[iv i0, iv i1, iv i2, iv (i0 &&& (3 : Int32)), .unset, .unset, .unset, .unset, .unset] [.int (i0 &&& (3 : Int32))])
  by_cases hc5 : (i0 &&& (3 : Int32)) = (0 : Int32)
  · skip
    refine gb (fun _ k => XS.ifNo X0.here hx rfl (hb hby at_5) rfl ((if0 _ _).trans (teq hc5).2) k) ?_
    show G s₁ (mkF m 8 #[iv i0, iv i1, iv i2, iv (i0 &&& (3 : Int32)), .unset, .unset, .unset, .unset, .unset] [])
    obtain ⟨T1, X1, e1, st1⟩ := getS2 X0 hx hZ hown (host := "") (Or.inl (ow hw 0 rfl)) Via.refl e0 (S_TOP.ext O.2) (g := (mkF m 8 #[iv i0, iv i1, iv i2, iv (i0 &&& (3 : Int32)), .unset, .unset, .unset, .unset, .unset] [])) rfl (hb hby at_8)
    refine gb st1 ?_
    show G T1 (mkF m 11 #[iv i0, iv i1, iv i2, iv (i0 &&& (3 : Int32)), .unset, .unset, .unset, .unset, .unset] [.ref w_TOP])
    refine gb (fun _ k => XS.astore X1.here hx rfl (hb hby at_11) rfl rfl (l' := #[iv i0, iv i1, iv i2, iv (i0 &&& (3 : Int32)), rv w_TOP, .unset, .unset, .unset, .unset]) rfl (XS.iconst X1.here hx rfl (hb hby at_13) (XS.istore X1.here hx rfl (hb hby at_14) rfl (l' := #[iv i0, iv i1, iv i2, iv (i0 &&& (3 : Int32)), rv w_TOP, iv 1, .unset, .unset, .unset]) rfl (XS.sipush X1.here hx rfl (hb hby at_16) (XS.istore X1.here hx rfl (hb hby at_19) rfl (l' := #[iv i0, iv i1, iv i2, iv (i0 &&& (3 : Int32)), rv w_TOP, iv 1, iv 1000, .unset, .unset]) rfl (XS.goto X1.here hx rfl (pc0 := 21) (pc' := 77) rfl (hb hby at_21) (by decide) (by decide) k)))))) ?_
    show G T1 (mkF m 77 #[iv i0, iv i1, iv i2, iv (i0 &&& (3 : Int32)), rv w_TOP, iv 1, iv 1000, .unset, .unset] [])
    refine gb (fun _ k => XS.iloadN X1.here hx rfl (hb hby at_77) rfl (XS.iconst X1.here hx rfl (hb hby at_78) (XS.iand X1.here hx rfl (hb hby at_79) rfl (XS.istore X1.here hx rfl (hb hby at_80) rfl (l' := #[iv i0, iv i1, iv i2, iv (i0 &&& (3 : Int32)), rv w_TOP, iv 1, iv 1000, iv (i1 &&& (3 : Int32)), .unset]) rfl (XS.iload X1.here hx rfl (hb hby at_82) rfl k))))) ?_
    show G T1 (mkF m 84 #[iv i0, iv i1, iv i2, iv (i0 &&& (3 : Int32)), rv w_TOP, iv 1, iv 1000, iv (i1 &&& (3 : Int32)), .unset] [.int (i1 &&& (3 : Int32))])
    by_cases hc84 : (i1 &&& (3 : Int32)) = (0 : Int32)
    · skip
      refine gb (fun _ k => XS.ifNo X1.here hx rfl (hb hby at_84) rfl ((if0 _ _).trans (teq hc84).2) (XS.iload X1.here hx rfl (hb hby at_87) rfl (XS.istore X1.here hx rfl (hb hby at_89) rfl (l' := #[iv i0, iv i1, iv i2, iv (i0 &&& (3 : Int32)), rv w_TOP, iv 1, iv 1000, iv (i1 &&& (3 : Int32)), iv 1]) rfl (XS.goto X1.here hx rfl (pc0 := 91) (pc' := 124) rfl (hb hby at_91) (by decide) (by decide) (XS.aload X1.here hx rfl (hb hby at_124) rfl rfl (XS.iload X1.here hx rfl (hb hby at_126) rfl k)))))) ?_
      show G T1 (mkF m 128 #[iv i0, iv i1, iv i2, iv (i0 &&& (3 : Int32)), rv w_TOP, iv 1, iv 1000, iv (i1 &&& (3 : Int32)), iv 1] [.int 1, .ref w_TOP])
      obtain ⟨cq2, kq2, q2a, q2b, q2c⟩ := isOf hZ e1 (E_TOP.ext O.2)
      obtain ⟨_, _, ⟨T2, L2, k2, n2⟩, -, X2, ⟨Lc2, hQ2, l2, y2, z2⟩, st2⟩ := X1.virtualBack hx (y := (⟨"com/example/rankle/rankle/Limits$Count", "require", "(I)I"⟩ : MethodName)) (z := (⟨"com/example/rankle/rankle/Limits$Count", "require", "(I)I"⟩ : MethodName)) hown (mvT hZ (ow hw 4 rfl)) (mvT hZ (ow hw 5 rfl)) (notFace_of_selects (args := #[]) (mvT hZ (ow hw 7 rfl))) (mvT hZ (ow hw 7 rfl)) (mvT hZ (ow hw 6 rfl)) (by decide) (backOf (W := 0) (rm1 l Z a0 hw [] w_TOP l_TOP (1 : Int32) (1 : Int32) (1000 : Int32) h0 n0 O (F_label_TOP.ext O.2) (F_min_TOP.ext O.2) (F_max_TOP.ext O.2) (by decide) (by decide)) hZ (ow hw 8 rfl) (ow hw 1 rfl) (by decide) (by decide)) q2a q2c (g := (mkF m 128 #[iv i0, iv i1, iv i2, iv (i0 &&& (3 : Int32)), rv w_TOP, iv 1, iv 1000, iv (i1 &&& (3 : Int32)), iv 1] [.int 1, .ref w_TOP])) rfl (by rw [hml]; rfl) (Steps.refl _) (argsL := [(.int (1 : Int32))]) (rest := []) (lenOf pd_1 rfl) rfl (by show 2 * 0 + _ ≤ _; exact Nat.le_of_eq rfl) (hb hby at_128) (fun _ _ => ⟨rfl, e1, (by decide : 0 + 0 ≤ _), (by decide : 0 + 0 ≤ _)⟩)
      dsimp only [Pt.U, Pt.locs, Pt.cells, Pt.slots] at X2 l2 y2 z2 st2 hQ2
      subst l2 y2 z2
      obtain ⟨rfl, rfl, e2⟩ := hQ2
      try rw [List.append_nil] at X2
      refine gb (fun _ k => st2.trans k) ?_
      show G T2 (mkF m 131 #[iv i0, iv i1, iv i2, iv (i0 &&& (3 : Int32)), rv w_TOP, iv 1, iv 1000, iv (i1 &&& (3 : Int32)), iv 1] [.int 1])
      refine gb (fun _ k => XS.iload X2.here hx rfl (hb hby at_131) rfl (XS.icmpNo X2.here hx rfl (hb hby at_133) rfl (teq (rfl : (1 : Int32) = (1 : Int32))).2 (XS.iconst X2.here hx rfl (hb hby at_136) (XS.goto X2.here hx rfl (pc0 := 137) (pc' := 141) rfl (hb hby at_137) (by decide) (by decide) k)))) ?_
      show G T2 (mkF m 141 #[iv i0, iv i1, iv i2, iv (i0 &&& (3 : Int32)), rv w_TOP, iv 1, iv 1000, iv (i1 &&& (3 : Int32)), iv 1] [.int 1])
      exact go X2 (v := (some (.int (1 : Int32)))) (fun h => by rw [Bd.returns] at h; cases h) (fun fs hr => retOut X2 hx Bd.returns rfl (Or.inl ⟨rfl, by simp, _, rfl⟩) (hb hby at_141) hr) (⟨rfl, N⟩) (by decide) (by decide)
    · skip
      refine gb (fun _ k => XS.ifYes X1.here hx rfl (pc0 := 84) (pc' := 94) rfl (hb hby at_84) rfl ((if0 _ _).trans (feq hc84).2) (by decide) (by decide) (XS.iload X1.here hx rfl (hb hby at_94) rfl (XS.iconst X1.here hx rfl (hb hby at_96) k))) ?_
      show G T1 (mkF m 97 #[iv i0, iv i1, iv i2, iv (i0 &&& (3 : Int32)), rv w_TOP, iv 1, iv 1000, iv (i1 &&& (3 : Int32)), .unset] [.int 1, .int (i1 &&& (3 : Int32))])
      by_cases hc97 : (i1 &&& (3 : Int32)) = (1 : Int32)
      · skip
        refine gb (fun _ k => XS.icmpNo X1.here hx rfl (hb hby at_97) rfl (teq hc97).2 (XS.iload X1.here hx rfl (hb hby at_100) rfl (XS.istore X1.here hx rfl (hb hby at_102) rfl (l' := #[iv i0, iv i1, iv i2, iv (i0 &&& (3 : Int32)), rv w_TOP, iv 1, iv 1000, iv (i1 &&& (3 : Int32)), iv 1000]) rfl (XS.goto X1.here hx rfl (pc0 := 104) (pc' := 124) rfl (hb hby at_104) (by decide) (by decide) (XS.aload X1.here hx rfl (hb hby at_124) rfl rfl (XS.iload X1.here hx rfl (hb hby at_126) rfl k)))))) ?_
        show G T1 (mkF m 128 #[iv i0, iv i1, iv i2, iv (i0 &&& (3 : Int32)), rv w_TOP, iv 1, iv 1000, iv (i1 &&& (3 : Int32)), iv 1000] [.int 1000, .ref w_TOP])
        obtain ⟨cq3, kq3, q3a, q3b, q3c⟩ := isOf hZ e1 (E_TOP.ext O.2)
        obtain ⟨_, _, ⟨T3, L3, k3, n3⟩, -, X3, ⟨Lc3, hQ3, l3, y3, z3⟩, st3⟩ := X1.virtualBack hx (y := (⟨"com/example/rankle/rankle/Limits$Count", "require", "(I)I"⟩ : MethodName)) (z := (⟨"com/example/rankle/rankle/Limits$Count", "require", "(I)I"⟩ : MethodName)) hown (mvT hZ (ow hw 4 rfl)) (mvT hZ (ow hw 5 rfl)) (notFace_of_selects (args := #[]) (mvT hZ (ow hw 7 rfl))) (mvT hZ (ow hw 7 rfl)) (mvT hZ (ow hw 6 rfl)) (by decide) (backOf (W := 0) (rm1 l Z a0 hw [] w_TOP l_TOP (1000 : Int32) (1 : Int32) (1000 : Int32) h0 n0 O (F_label_TOP.ext O.2) (F_min_TOP.ext O.2) (F_max_TOP.ext O.2) (by decide) (by decide)) hZ (ow hw 8 rfl) (ow hw 1 rfl) (by decide) (by decide)) q3a q3c (g := (mkF m 128 #[iv i0, iv i1, iv i2, iv (i0 &&& (3 : Int32)), rv w_TOP, iv 1, iv 1000, iv (i1 &&& (3 : Int32)), iv 1000] [.int 1000, .ref w_TOP])) rfl (by rw [hml]; rfl) (Steps.refl _) (argsL := [(.int (1000 : Int32))]) (rest := []) (lenOf pd_1 rfl) rfl (by show 2 * 0 + _ ≤ _; exact Nat.le_of_eq rfl) (hb hby at_128) (fun _ _ => ⟨rfl, e1, (by decide : 0 + 0 ≤ _), (by decide : 0 + 0 ≤ _)⟩)
        dsimp only [Pt.U, Pt.locs, Pt.cells, Pt.slots] at X3 l3 y3 z3 st3 hQ3
        subst l3 y3 z3
        obtain ⟨rfl, rfl, e3⟩ := hQ3
        try rw [List.append_nil] at X3
        refine gb (fun _ k => st3.trans k) ?_
        show G T3 (mkF m 131 #[iv i0, iv i1, iv i2, iv (i0 &&& (3 : Int32)), rv w_TOP, iv 1, iv 1000, iv (i1 &&& (3 : Int32)), iv 1000] [.int 1000])
        refine gb (fun _ k => XS.iload X3.here hx rfl (hb hby at_131) rfl (XS.icmpNo X3.here hx rfl (hb hby at_133) rfl (teq (rfl : (1000 : Int32) = (1000 : Int32))).2 (XS.iconst X3.here hx rfl (hb hby at_136) (XS.goto X3.here hx rfl (pc0 := 137) (pc' := 141) rfl (hb hby at_137) (by decide) (by decide) k)))) ?_
        show G T3 (mkF m 141 #[iv i0, iv i1, iv i2, iv (i0 &&& (3 : Int32)), rv w_TOP, iv 1, iv 1000, iv (i1 &&& (3 : Int32)), iv 1000] [.int 1])
        exact go X3 (v := (some (.int (1 : Int32)))) (fun h => by rw [Bd.returns] at h; cases h) (fun fs hr => retOut X3 hx Bd.returns rfl (Or.inl ⟨rfl, by simp, _, rfl⟩) (hb hby at_141) hr) (⟨rfl, N⟩) (by decide) (by decide)
      · skip
        refine gb (fun _ k => XS.icmpYes X1.here hx rfl (pc0 := 97) (pc' := 107) rfl (hb hby at_97) rfl (feq hc97).2 (by decide) (by decide) (XS.iload X1.here hx rfl (hb hby at_107) rfl (XS.iloadN X1.here hx rfl (hb hby at_109) rfl k))) ?_
        show G T1 (mkF m 110 #[iv i0, iv i1, iv i2, iv (i0 &&& (3 : Int32)), rv w_TOP, iv 1, iv 1000, iv (i1 &&& (3 : Int32)), .unset] [.int i2, .int 1])
        refine gb (X1.ldcInt hx hown (mvT hZ (ow hw 3 rfl)) (g := (mkF m 110 #[iv i0, iv i1, iv i2, iv (i0 &&& (3 : Int32)), rv w_TOP, iv 1, iv 1000, iv (i1 &&& (3 : Int32)), .unset] [.int i2, .int 1])) rfl (hb hby at_110)) ?_
        show G T1 (mkF m 112 #[iv i0, iv i1, iv i2, iv (i0 &&& (3 : Int32)), rv w_TOP, iv 1, iv 1000, iv (i1 &&& (3 : Int32)), .unset] [.int 2147483647, .int i2, .int 1])
        refine gb (fun _ k => XS.iand X1.here hx rfl (hb hby at_112) rfl (XS.iload X1.here hx rfl (hb hby at_113) rfl (XS.iload X1.here hx rfl (hb hby at_115) rfl (XS.isub X1.here hx rfl (hb hby at_117) rfl (XS.iconst X1.here hx rfl (hb hby at_118) (XS.iadd X1.here hx rfl (hb hby at_119) rfl k)))))) ?_
        show G T1 (mkF m 120 #[iv i0, iv i1, iv i2, iv (i0 &&& (3 : Int32)), rv w_TOP, iv 1, iv 1000, iv (i1 &&& (3 : Int32)), .unset] [.int 1000, .int (i2 &&& (2147483647 : Int32)), .int 1])
        refine gb (fun _ k => iremM X1 hx rfl (hb hby at_120) rfl (by decide) (XS.iadd X1.here hx rfl (hb hby at_121) rfl (XS.istore X1.here hx rfl (hb hby at_122) rfl (l' := #[iv i0, iv i1, iv i2, iv (i0 &&& (3 : Int32)), rv w_TOP, iv 1, iv 1000, iv (i1 &&& (3 : Int32)), iv ((1 : Int32) + ((i2 &&& (2147483647 : Int32)) % (1000 : Int32)))]) rfl (XS.aload X1.here hx rfl (hb hby at_124) rfl rfl (XS.iload X1.here hx rfl (hb hby at_126) rfl k))))) ?_
        show G T1 (mkF m 128 #[iv i0, iv i1, iv i2, iv (i0 &&& (3 : Int32)), rv w_TOP, iv 1, iv 1000, iv (i1 &&& (3 : Int32)), iv ((1 : Int32) + ((i2 &&& (2147483647 : Int32)) % (1000 : Int32)))] [.int ((1 : Int32) + ((i2 &&& (2147483647 : Int32)) % (1000 : Int32))), .ref w_TOP])
        obtain ⟨cq4, kq4, q4a, q4b, q4c⟩ := isOf hZ e1 (E_TOP.ext O.2)
        obtain ⟨_, _, ⟨T4, L4, k4, n4⟩, -, X4, ⟨Lc4, hQ4, l4, y4, z4⟩, st4⟩ := X1.virtualBack hx (y := (⟨"com/example/rankle/rankle/Limits$Count", "require", "(I)I"⟩ : MethodName)) (z := (⟨"com/example/rankle/rankle/Limits$Count", "require", "(I)I"⟩ : MethodName)) hown (mvT hZ (ow hw 4 rfl)) (mvT hZ (ow hw 5 rfl)) (notFace_of_selects (args := #[]) (mvT hZ (ow hw 7 rfl))) (mvT hZ (ow hw 7 rfl)) (mvT hZ (ow hw 6 rfl)) (by decide) (backOf (W := 0) (rm1 l Z a0 hw [] w_TOP l_TOP ((1 : Int32) + ((i2 &&& (2147483647 : Int32)) % (1000 : Int32))) (1 : Int32) (1000 : Int32) h0 n0 O (F_label_TOP.ext O.2) (F_min_TOP.ext O.2) (F_max_TOP.ext O.2) (own_rng i2 (1 : Int32) (1000 : Int32) _ (by decide) (by decide) (by decide) (by decide)).1 (own_rng i2 (1 : Int32) (1000 : Int32) _ (by decide) (by decide) (by decide) (by decide)).2) hZ (ow hw 8 rfl) (ow hw 1 rfl) (by decide) (by decide)) q4a q4c (g := (mkF m 128 #[iv i0, iv i1, iv i2, iv (i0 &&& (3 : Int32)), rv w_TOP, iv 1, iv 1000, iv (i1 &&& (3 : Int32)), iv ((1 : Int32) + ((i2 &&& (2147483647 : Int32)) % (1000 : Int32)))] [.int ((1 : Int32) + ((i2 &&& (2147483647 : Int32)) % (1000 : Int32))), .ref w_TOP])) rfl (by rw [hml]; rfl) (Steps.refl _) (argsL := [(.int ((1 : Int32) + ((i2 &&& (2147483647 : Int32)) % (1000 : Int32))))]) (rest := []) (lenOf pd_1 rfl) rfl (by show 2 * 0 + _ ≤ _; exact Nat.le_of_eq rfl) (hb hby at_128) (fun _ _ => ⟨rfl, e1, (by decide : 0 + 0 ≤ _), (by decide : 0 + 0 ≤ _)⟩)
        dsimp only [Pt.U, Pt.locs, Pt.cells, Pt.slots] at X4 l4 y4 z4 st4 hQ4
        subst l4 y4 z4
        obtain ⟨rfl, rfl, e4⟩ := hQ4
        try rw [List.append_nil] at X4
        refine gb (fun _ k => st4.trans k) ?_
        show G T4 (mkF m 131 #[iv i0, iv i1, iv i2, iv (i0 &&& (3 : Int32)), rv w_TOP, iv 1, iv 1000, iv (i1 &&& (3 : Int32)), iv ((1 : Int32) + ((i2 &&& (2147483647 : Int32)) % (1000 : Int32)))] [.int ((1 : Int32) + ((i2 &&& (2147483647 : Int32)) % (1000 : Int32)))])
        refine gb (fun _ k => XS.iload X4.here hx rfl (hb hby at_131) rfl (XS.icmpNo X4.here hx rfl (hb hby at_133) rfl (teq (rfl : ((1 : Int32) + ((i2 &&& (2147483647 : Int32)) % (1000 : Int32))) = ((1 : Int32) + ((i2 &&& (2147483647 : Int32)) % (1000 : Int32))))).2 (XS.iconst X4.here hx rfl (hb hby at_136) (XS.goto X4.here hx rfl (pc0 := 137) (pc' := 141) rfl (hb hby at_137) (by decide) (by decide) k)))) ?_
        show G T4 (mkF m 141 #[iv i0, iv i1, iv i2, iv (i0 &&& (3 : Int32)), rv w_TOP, iv 1, iv 1000, iv (i1 &&& (3 : Int32)), iv ((1 : Int32) + ((i2 &&& (2147483647 : Int32)) % (1000 : Int32)))] [.int 1])
        exact go X4 (v := (some (.int (1 : Int32)))) (fun h => by rw [Bd.returns] at h; cases h) (fun fs hr => retOut X4 hx Bd.returns rfl (Or.inl ⟨rfl, by simp, _, rfl⟩) (hb hby at_141) hr) (⟨rfl, N⟩) (by decide) (by decide)
  · skip
    refine gb (fun _ k => XS.ifYes X0.here hx rfl (pc0 := 5) (pc' := 24) rfl (hb hby at_5) rfl ((if0 _ _).trans (feq hc5).2) (by decide) (by decide) (XS.iloadN X0.here hx rfl (hb hby at_24) rfl (XS.iconst X0.here hx rfl (hb hby at_25) k))) ?_
    show G s₁ (mkF m 26 #[iv i0, iv i1, iv i2, iv (i0 &&& (3 : Int32)), .unset, .unset, .unset, .unset, .unset] [.int 1, .int (i0 &&& (3 : Int32))])
    by_cases hc26 : (i0 &&& (3 : Int32)) = (1 : Int32)
    · skip
      refine gb (fun _ k => XS.icmpNo X0.here hx rfl (hb hby at_26) rfl (teq hc26).2 k) ?_
      show G s₁ (mkF m 29 #[iv i0, iv i1, iv i2, iv (i0 &&& (3 : Int32)), .unset, .unset, .unset, .unset, .unset] [])
      obtain ⟨T5, X5, e5, st5⟩ := getS2 X0 hx hZ hown (host := "") (Or.inl (ow hw 19 rfl)) Via.refl e0 (S_BEFORE.ext O.2) (g := (mkF m 29 #[iv i0, iv i1, iv i2, iv (i0 &&& (3 : Int32)), .unset, .unset, .unset, .unset, .unset] [])) rfl (hb hby at_29)
      refine gb st5 ?_
      show G T5 (mkF m 32 #[iv i0, iv i1, iv i2, iv (i0 &&& (3 : Int32)), .unset, .unset, .unset, .unset, .unset] [.ref w_BEFORE])
      refine gb (fun _ k => XS.astore X5.here hx rfl (hb hby at_32) rfl rfl (l' := #[iv i0, iv i1, iv i2, iv (i0 &&& (3 : Int32)), rv w_BEFORE, .unset, .unset, .unset, .unset]) rfl (XS.iconst X5.here hx rfl (hb hby at_34) (XS.istore X5.here hx rfl (hb hby at_35) rfl (l' := #[iv i0, iv i1, iv i2, iv (i0 &&& (3 : Int32)), rv w_BEFORE, iv 0, .unset, .unset, .unset]) rfl (XS.bipush X5.here hx rfl (hb hby at_37) (XS.istore X5.here hx rfl (hb hby at_39) rfl (l' := #[iv i0, iv i1, iv i2, iv (i0 &&& (3 : Int32)), rv w_BEFORE, iv 0, iv 100, .unset, .unset]) rfl (XS.goto X5.here hx rfl (pc0 := 41) (pc' := 77) rfl (hb hby at_41) (by decide) (by decide) k)))))) ?_
      show G T5 (mkF m 77 #[iv i0, iv i1, iv i2, iv (i0 &&& (3 : Int32)), rv w_BEFORE, iv 0, iv 100, .unset, .unset] [])
      refine gb (fun _ k => XS.iloadN X5.here hx rfl (hb hby at_77) rfl (XS.iconst X5.here hx rfl (hb hby at_78) (XS.iand X5.here hx rfl (hb hby at_79) rfl (XS.istore X5.here hx rfl (hb hby at_80) rfl (l' := #[iv i0, iv i1, iv i2, iv (i0 &&& (3 : Int32)), rv w_BEFORE, iv 0, iv 100, iv (i1 &&& (3 : Int32)), .unset]) rfl (XS.iload X5.here hx rfl (hb hby at_82) rfl k))))) ?_
      show G T5 (mkF m 84 #[iv i0, iv i1, iv i2, iv (i0 &&& (3 : Int32)), rv w_BEFORE, iv 0, iv 100, iv (i1 &&& (3 : Int32)), .unset] [.int (i1 &&& (3 : Int32))])
      by_cases hc84 : (i1 &&& (3 : Int32)) = (0 : Int32)
      · skip
        refine gb (fun _ k => XS.ifNo X5.here hx rfl (hb hby at_84) rfl ((if0 _ _).trans (teq hc84).2) (XS.iload X5.here hx rfl (hb hby at_87) rfl (XS.istore X5.here hx rfl (hb hby at_89) rfl (l' := #[iv i0, iv i1, iv i2, iv (i0 &&& (3 : Int32)), rv w_BEFORE, iv 0, iv 100, iv (i1 &&& (3 : Int32)), iv 0]) rfl (XS.goto X5.here hx rfl (pc0 := 91) (pc' := 124) rfl (hb hby at_91) (by decide) (by decide) (XS.aload X5.here hx rfl (hb hby at_124) rfl rfl (XS.iload X5.here hx rfl (hb hby at_126) rfl k)))))) ?_
        show G T5 (mkF m 128 #[iv i0, iv i1, iv i2, iv (i0 &&& (3 : Int32)), rv w_BEFORE, iv 0, iv 100, iv (i1 &&& (3 : Int32)), iv 0] [.int 0, .ref w_BEFORE])
        obtain ⟨cq6, kq6, q6a, q6b, q6c⟩ := isOf hZ e5 (E_BEFORE.ext O.2)
        obtain ⟨_, _, ⟨T6, L6, k6, n6⟩, -, X6, ⟨Lc6, hQ6, l6, y6, z6⟩, st6⟩ := X5.virtualBack hx (y := (⟨"com/example/rankle/rankle/Limits$Count", "require", "(I)I"⟩ : MethodName)) (z := (⟨"com/example/rankle/rankle/Limits$Count", "require", "(I)I"⟩ : MethodName)) hown (mvT hZ (ow hw 4 rfl)) (mvT hZ (ow hw 5 rfl)) (notFace_of_selects (args := #[]) (mvT hZ (ow hw 7 rfl))) (mvT hZ (ow hw 7 rfl)) (mvT hZ (ow hw 6 rfl)) (by decide) (backOf (W := 0) (rm1 l Z a0 hw [] w_BEFORE l_BEFORE (0 : Int32) (0 : Int32) (100 : Int32) h0 n0 O (F_label_BEFORE.ext O.2) (F_min_BEFORE.ext O.2) (F_max_BEFORE.ext O.2) (by decide) (by decide)) hZ (ow hw 8 rfl) (ow hw 1 rfl) (by decide) (by decide)) q6a q6c (g := (mkF m 128 #[iv i0, iv i1, iv i2, iv (i0 &&& (3 : Int32)), rv w_BEFORE, iv 0, iv 100, iv (i1 &&& (3 : Int32)), iv 0] [.int 0, .ref w_BEFORE])) rfl (by rw [hml]; rfl) (Steps.refl _) (argsL := [(.int (0 : Int32))]) (rest := []) (lenOf pd_1 rfl) rfl (by show 2 * 0 + _ ≤ _; exact Nat.le_of_eq rfl) (hb hby at_128) (fun _ _ => ⟨rfl, e5, (by decide : 0 + 0 ≤ _), (by decide : 0 + 0 ≤ _)⟩)
        dsimp only [Pt.U, Pt.locs, Pt.cells, Pt.slots] at X6 l6 y6 z6 st6 hQ6
        subst l6 y6 z6
        obtain ⟨rfl, rfl, e6⟩ := hQ6
        try rw [List.append_nil] at X6
        refine gb (fun _ k => st6.trans k) ?_
        show G T6 (mkF m 131 #[iv i0, iv i1, iv i2, iv (i0 &&& (3 : Int32)), rv w_BEFORE, iv 0, iv 100, iv (i1 &&& (3 : Int32)), iv 0] [.int 0])
        refine gb (fun _ k => XS.iload X6.here hx rfl (hb hby at_131) rfl (XS.icmpNo X6.here hx rfl (hb hby at_133) rfl (teq (rfl : (0 : Int32) = (0 : Int32))).2 (XS.iconst X6.here hx rfl (hb hby at_136) (XS.goto X6.here hx rfl (pc0 := 137) (pc' := 141) rfl (hb hby at_137) (by decide) (by decide) k)))) ?_
        show G T6 (mkF m 141 #[iv i0, iv i1, iv i2, iv (i0 &&& (3 : Int32)), rv w_BEFORE, iv 0, iv 100, iv (i1 &&& (3 : Int32)), iv 0] [.int 1])
        exact go X6 (v := (some (.int (1 : Int32)))) (fun h => by rw [Bd.returns] at h; cases h) (fun fs hr => retOut X6 hx Bd.returns rfl (Or.inl ⟨rfl, by simp, _, rfl⟩) (hb hby at_141) hr) (⟨rfl, N⟩) (by decide) (by decide)
      · skip
        refine gb (fun _ k => XS.ifYes X5.here hx rfl (pc0 := 84) (pc' := 94) rfl (hb hby at_84) rfl ((if0 _ _).trans (feq hc84).2) (by decide) (by decide) (XS.iload X5.here hx rfl (hb hby at_94) rfl (XS.iconst X5.here hx rfl (hb hby at_96) k))) ?_
        show G T5 (mkF m 97 #[iv i0, iv i1, iv i2, iv (i0 &&& (3 : Int32)), rv w_BEFORE, iv 0, iv 100, iv (i1 &&& (3 : Int32)), .unset] [.int 1, .int (i1 &&& (3 : Int32))])
        by_cases hc97 : (i1 &&& (3 : Int32)) = (1 : Int32)
        · skip
          refine gb (fun _ k => XS.icmpNo X5.here hx rfl (hb hby at_97) rfl (teq hc97).2 (XS.iload X5.here hx rfl (hb hby at_100) rfl (XS.istore X5.here hx rfl (hb hby at_102) rfl (l' := #[iv i0, iv i1, iv i2, iv (i0 &&& (3 : Int32)), rv w_BEFORE, iv 0, iv 100, iv (i1 &&& (3 : Int32)), iv 100]) rfl (XS.goto X5.here hx rfl (pc0 := 104) (pc' := 124) rfl (hb hby at_104) (by decide) (by decide) (XS.aload X5.here hx rfl (hb hby at_124) rfl rfl (XS.iload X5.here hx rfl (hb hby at_126) rfl k)))))) ?_
          show G T5 (mkF m 128 #[iv i0, iv i1, iv i2, iv (i0 &&& (3 : Int32)), rv w_BEFORE, iv 0, iv 100, iv (i1 &&& (3 : Int32)), iv 100] [.int 100, .ref w_BEFORE])
          obtain ⟨cq7, kq7, q7a, q7b, q7c⟩ := isOf hZ e5 (E_BEFORE.ext O.2)
          obtain ⟨_, _, ⟨T7, L7, k7, n7⟩, -, X7, ⟨Lc7, hQ7, l7, y7, z7⟩, st7⟩ := X5.virtualBack hx (y := (⟨"com/example/rankle/rankle/Limits$Count", "require", "(I)I"⟩ : MethodName)) (z := (⟨"com/example/rankle/rankle/Limits$Count", "require", "(I)I"⟩ : MethodName)) hown (mvT hZ (ow hw 4 rfl)) (mvT hZ (ow hw 5 rfl)) (notFace_of_selects (args := #[]) (mvT hZ (ow hw 7 rfl))) (mvT hZ (ow hw 7 rfl)) (mvT hZ (ow hw 6 rfl)) (by decide) (backOf (W := 0) (rm1 l Z a0 hw [] w_BEFORE l_BEFORE (100 : Int32) (0 : Int32) (100 : Int32) h0 n0 O (F_label_BEFORE.ext O.2) (F_min_BEFORE.ext O.2) (F_max_BEFORE.ext O.2) (by decide) (by decide)) hZ (ow hw 8 rfl) (ow hw 1 rfl) (by decide) (by decide)) q7a q7c (g := (mkF m 128 #[iv i0, iv i1, iv i2, iv (i0 &&& (3 : Int32)), rv w_BEFORE, iv 0, iv 100, iv (i1 &&& (3 : Int32)), iv 100] [.int 100, .ref w_BEFORE])) rfl (by rw [hml]; rfl) (Steps.refl _) (argsL := [(.int (100 : Int32))]) (rest := []) (lenOf pd_1 rfl) rfl (by show 2 * 0 + _ ≤ _; exact Nat.le_of_eq rfl) (hb hby at_128) (fun _ _ => ⟨rfl, e5, (by decide : 0 + 0 ≤ _), (by decide : 0 + 0 ≤ _)⟩)
          dsimp only [Pt.U, Pt.locs, Pt.cells, Pt.slots] at X7 l7 y7 z7 st7 hQ7
          subst l7 y7 z7
          obtain ⟨rfl, rfl, e7⟩ := hQ7
          try rw [List.append_nil] at X7
          refine gb (fun _ k => st7.trans k) ?_
          show G T7 (mkF m 131 #[iv i0, iv i1, iv i2, iv (i0 &&& (3 : Int32)), rv w_BEFORE, iv 0, iv 100, iv (i1 &&& (3 : Int32)), iv 100] [.int 100])
          refine gb (fun _ k => XS.iload X7.here hx rfl (hb hby at_131) rfl (XS.icmpNo X7.here hx rfl (hb hby at_133) rfl (teq (rfl : (100 : Int32) = (100 : Int32))).2 (XS.iconst X7.here hx rfl (hb hby at_136) (XS.goto X7.here hx rfl (pc0 := 137) (pc' := 141) rfl (hb hby at_137) (by decide) (by decide) k)))) ?_
          show G T7 (mkF m 141 #[iv i0, iv i1, iv i2, iv (i0 &&& (3 : Int32)), rv w_BEFORE, iv 0, iv 100, iv (i1 &&& (3 : Int32)), iv 100] [.int 1])
          exact go X7 (v := (some (.int (1 : Int32)))) (fun h => by rw [Bd.returns] at h; cases h) (fun fs hr => retOut X7 hx Bd.returns rfl (Or.inl ⟨rfl, by simp, _, rfl⟩) (hb hby at_141) hr) (⟨rfl, N⟩) (by decide) (by decide)
        · skip
          refine gb (fun _ k => XS.icmpYes X5.here hx rfl (pc0 := 97) (pc' := 107) rfl (hb hby at_97) rfl (feq hc97).2 (by decide) (by decide) (XS.iload X5.here hx rfl (hb hby at_107) rfl (XS.iloadN X5.here hx rfl (hb hby at_109) rfl k))) ?_
          show G T5 (mkF m 110 #[iv i0, iv i1, iv i2, iv (i0 &&& (3 : Int32)), rv w_BEFORE, iv 0, iv 100, iv (i1 &&& (3 : Int32)), .unset] [.int i2, .int 0])
          refine gb (X5.ldcInt hx hown (mvT hZ (ow hw 3 rfl)) (g := (mkF m 110 #[iv i0, iv i1, iv i2, iv (i0 &&& (3 : Int32)), rv w_BEFORE, iv 0, iv 100, iv (i1 &&& (3 : Int32)), .unset] [.int i2, .int 0])) rfl (hb hby at_110)) ?_
          show G T5 (mkF m 112 #[iv i0, iv i1, iv i2, iv (i0 &&& (3 : Int32)), rv w_BEFORE, iv 0, iv 100, iv (i1 &&& (3 : Int32)), .unset] [.int 2147483647, .int i2, .int 0])
          refine gb (fun _ k => XS.iand X5.here hx rfl (hb hby at_112) rfl (XS.iload X5.here hx rfl (hb hby at_113) rfl (XS.iload X5.here hx rfl (hb hby at_115) rfl (XS.isub X5.here hx rfl (hb hby at_117) rfl (XS.iconst X5.here hx rfl (hb hby at_118) (XS.iadd X5.here hx rfl (hb hby at_119) rfl k)))))) ?_
          show G T5 (mkF m 120 #[iv i0, iv i1, iv i2, iv (i0 &&& (3 : Int32)), rv w_BEFORE, iv 0, iv 100, iv (i1 &&& (3 : Int32)), .unset] [.int 101, .int (i2 &&& (2147483647 : Int32)), .int 0])
          refine gb (fun _ k => iremM X5 hx rfl (hb hby at_120) rfl (by decide) (XS.iadd X5.here hx rfl (hb hby at_121) rfl (XS.istore X5.here hx rfl (hb hby at_122) rfl (l' := #[iv i0, iv i1, iv i2, iv (i0 &&& (3 : Int32)), rv w_BEFORE, iv 0, iv 100, iv (i1 &&& (3 : Int32)), iv ((0 : Int32) + ((i2 &&& (2147483647 : Int32)) % (101 : Int32)))]) rfl (XS.aload X5.here hx rfl (hb hby at_124) rfl rfl (XS.iload X5.here hx rfl (hb hby at_126) rfl k))))) ?_
          show G T5 (mkF m 128 #[iv i0, iv i1, iv i2, iv (i0 &&& (3 : Int32)), rv w_BEFORE, iv 0, iv 100, iv (i1 &&& (3 : Int32)), iv ((0 : Int32) + ((i2 &&& (2147483647 : Int32)) % (101 : Int32)))] [.int ((0 : Int32) + ((i2 &&& (2147483647 : Int32)) % (101 : Int32))), .ref w_BEFORE])
          obtain ⟨cq8, kq8, q8a, q8b, q8c⟩ := isOf hZ e5 (E_BEFORE.ext O.2)
          obtain ⟨_, _, ⟨T8, L8, k8, n8⟩, -, X8, ⟨Lc8, hQ8, l8, y8, z8⟩, st8⟩ := X5.virtualBack hx (y := (⟨"com/example/rankle/rankle/Limits$Count", "require", "(I)I"⟩ : MethodName)) (z := (⟨"com/example/rankle/rankle/Limits$Count", "require", "(I)I"⟩ : MethodName)) hown (mvT hZ (ow hw 4 rfl)) (mvT hZ (ow hw 5 rfl)) (notFace_of_selects (args := #[]) (mvT hZ (ow hw 7 rfl))) (mvT hZ (ow hw 7 rfl)) (mvT hZ (ow hw 6 rfl)) (by decide) (backOf (W := 0) (rm1 l Z a0 hw [] w_BEFORE l_BEFORE ((0 : Int32) + ((i2 &&& (2147483647 : Int32)) % (101 : Int32))) (0 : Int32) (100 : Int32) h0 n0 O (F_label_BEFORE.ext O.2) (F_min_BEFORE.ext O.2) (F_max_BEFORE.ext O.2) (own_rng i2 (0 : Int32) (100 : Int32) _ (by decide) (by decide) (by decide) (by decide)).1 (own_rng i2 (0 : Int32) (100 : Int32) _ (by decide) (by decide) (by decide) (by decide)).2) hZ (ow hw 8 rfl) (ow hw 1 rfl) (by decide) (by decide)) q8a q8c (g := (mkF m 128 #[iv i0, iv i1, iv i2, iv (i0 &&& (3 : Int32)), rv w_BEFORE, iv 0, iv 100, iv (i1 &&& (3 : Int32)), iv ((0 : Int32) + ((i2 &&& (2147483647 : Int32)) % (101 : Int32)))] [.int ((0 : Int32) + ((i2 &&& (2147483647 : Int32)) % (101 : Int32))), .ref w_BEFORE])) rfl (by rw [hml]; rfl) (Steps.refl _) (argsL := [(.int ((0 : Int32) + ((i2 &&& (2147483647 : Int32)) % (101 : Int32))))]) (rest := []) (lenOf pd_1 rfl) rfl (by show 2 * 0 + _ ≤ _; exact Nat.le_of_eq rfl) (hb hby at_128) (fun _ _ => ⟨rfl, e5, (by decide : 0 + 0 ≤ _), (by decide : 0 + 0 ≤ _)⟩)
          dsimp only [Pt.U, Pt.locs, Pt.cells, Pt.slots] at X8 l8 y8 z8 st8 hQ8
          subst l8 y8 z8
          obtain ⟨rfl, rfl, e8⟩ := hQ8
          try rw [List.append_nil] at X8
          refine gb (fun _ k => st8.trans k) ?_
          show G T8 (mkF m 131 #[iv i0, iv i1, iv i2, iv (i0 &&& (3 : Int32)), rv w_BEFORE, iv 0, iv 100, iv (i1 &&& (3 : Int32)), iv ((0 : Int32) + ((i2 &&& (2147483647 : Int32)) % (101 : Int32)))] [.int ((0 : Int32) + ((i2 &&& (2147483647 : Int32)) % (101 : Int32)))])
          refine gb (fun _ k => XS.iload X8.here hx rfl (hb hby at_131) rfl (XS.icmpNo X8.here hx rfl (hb hby at_133) rfl (teq (rfl : ((0 : Int32) + ((i2 &&& (2147483647 : Int32)) % (101 : Int32))) = ((0 : Int32) + ((i2 &&& (2147483647 : Int32)) % (101 : Int32))))).2 (XS.iconst X8.here hx rfl (hb hby at_136) (XS.goto X8.here hx rfl (pc0 := 137) (pc' := 141) rfl (hb hby at_137) (by decide) (by decide) k)))) ?_
          show G T8 (mkF m 141 #[iv i0, iv i1, iv i2, iv (i0 &&& (3 : Int32)), rv w_BEFORE, iv 0, iv 100, iv (i1 &&& (3 : Int32)), iv ((0 : Int32) + ((i2 &&& (2147483647 : Int32)) % (101 : Int32)))] [.int 1])
          exact go X8 (v := (some (.int (1 : Int32)))) (fun h => by rw [Bd.returns] at h; cases h) (fun fs hr => retOut X8 hx Bd.returns rfl (Or.inl ⟨rfl, by simp, _, rfl⟩) (hb hby at_141) hr) (⟨rfl, N⟩) (by decide) (by decide)
    · skip
      refine gb (fun _ k => XS.icmpYes X0.here hx rfl (pc0 := 26) (pc' := 44) rfl (hb hby at_26) rfl (feq hc26).2 (by decide) (by decide) (XS.iloadN X0.here hx rfl (hb hby at_44) rfl (XS.iconst X0.here hx rfl (hb hby at_45) k))) ?_
      show G s₁ (mkF m 46 #[iv i0, iv i1, iv i2, iv (i0 &&& (3 : Int32)), .unset, .unset, .unset, .unset, .unset] [.int 2, .int (i0 &&& (3 : Int32))])
      by_cases hc46 : (i0 &&& (3 : Int32)) = (2 : Int32)
      · skip
        refine gb (fun _ k => XS.icmpNo X0.here hx rfl (hb hby at_46) rfl (teq hc46).2 k) ?_
        show G s₁ (mkF m 49 #[iv i0, iv i1, iv i2, iv (i0 &&& (3 : Int32)), .unset, .unset, .unset, .unset, .unset] [])
        obtain ⟨T9, X9, e9, st9⟩ := getS2 X0 hx hZ hown (host := "") (Or.inl (ow hw 23 rfl)) Via.refl e0 (S_AFTER.ext O.2) (g := (mkF m 49 #[iv i0, iv i1, iv i2, iv (i0 &&& (3 : Int32)), .unset, .unset, .unset, .unset, .unset] [])) rfl (hb hby at_49)
        refine gb st9 ?_
        show G T9 (mkF m 52 #[iv i0, iv i1, iv i2, iv (i0 &&& (3 : Int32)), .unset, .unset, .unset, .unset, .unset] [.ref w_AFTER])
        refine gb (fun _ k => XS.astore X9.here hx rfl (hb hby at_52) rfl rfl (l' := #[iv i0, iv i1, iv i2, iv (i0 &&& (3 : Int32)), rv w_AFTER, .unset, .unset, .unset, .unset]) rfl (XS.iconst X9.here hx rfl (hb hby at_54) (XS.istore X9.here hx rfl (hb hby at_55) rfl (l' := #[iv i0, iv i1, iv i2, iv (i0 &&& (3 : Int32)), rv w_AFTER, iv 0, .unset, .unset, .unset]) rfl (XS.bipush X9.here hx rfl (hb hby at_57) (XS.istore X9.here hx rfl (hb hby at_59) rfl (l' := #[iv i0, iv i1, iv i2, iv (i0 &&& (3 : Int32)), rv w_AFTER, iv 0, iv 100, .unset, .unset]) rfl (XS.goto X9.here hx rfl (pc0 := 61) (pc' := 77) rfl (hb hby at_61) (by decide) (by decide) k)))))) ?_
        show G T9 (mkF m 77 #[iv i0, iv i1, iv i2, iv (i0 &&& (3 : Int32)), rv w_AFTER, iv 0, iv 100, .unset, .unset] [])
        refine gb (fun _ k => XS.iloadN X9.here hx rfl (hb hby at_77) rfl (XS.iconst X9.here hx rfl (hb hby at_78) (XS.iand X9.here hx rfl (hb hby at_79) rfl (XS.istore X9.here hx rfl (hb hby at_80) rfl (l' := #[iv i0, iv i1, iv i2, iv (i0 &&& (3 : Int32)), rv w_AFTER, iv 0, iv 100, iv (i1 &&& (3 : Int32)), .unset]) rfl (XS.iload X9.here hx rfl (hb hby at_82) rfl k))))) ?_
        show G T9 (mkF m 84 #[iv i0, iv i1, iv i2, iv (i0 &&& (3 : Int32)), rv w_AFTER, iv 0, iv 100, iv (i1 &&& (3 : Int32)), .unset] [.int (i1 &&& (3 : Int32))])
        by_cases hc84 : (i1 &&& (3 : Int32)) = (0 : Int32)
        · skip
          refine gb (fun _ k => XS.ifNo X9.here hx rfl (hb hby at_84) rfl ((if0 _ _).trans (teq hc84).2) (XS.iload X9.here hx rfl (hb hby at_87) rfl (XS.istore X9.here hx rfl (hb hby at_89) rfl (l' := #[iv i0, iv i1, iv i2, iv (i0 &&& (3 : Int32)), rv w_AFTER, iv 0, iv 100, iv (i1 &&& (3 : Int32)), iv 0]) rfl (XS.goto X9.here hx rfl (pc0 := 91) (pc' := 124) rfl (hb hby at_91) (by decide) (by decide) (XS.aload X9.here hx rfl (hb hby at_124) rfl rfl (XS.iload X9.here hx rfl (hb hby at_126) rfl k)))))) ?_
          show G T9 (mkF m 128 #[iv i0, iv i1, iv i2, iv (i0 &&& (3 : Int32)), rv w_AFTER, iv 0, iv 100, iv (i1 &&& (3 : Int32)), iv 0] [.int 0, .ref w_AFTER])
          obtain ⟨cq10, kq10, q10a, q10b, q10c⟩ := isOf hZ e9 (E_AFTER.ext O.2)
          obtain ⟨_, _, ⟨T10, L10, k10, n10⟩, -, X10, ⟨Lc10, hQ10, l10, y10, z10⟩, st10⟩ := X9.virtualBack hx (y := (⟨"com/example/rankle/rankle/Limits$Count", "require", "(I)I"⟩ : MethodName)) (z := (⟨"com/example/rankle/rankle/Limits$Count", "require", "(I)I"⟩ : MethodName)) hown (mvT hZ (ow hw 4 rfl)) (mvT hZ (ow hw 5 rfl)) (notFace_of_selects (args := #[]) (mvT hZ (ow hw 7 rfl))) (mvT hZ (ow hw 7 rfl)) (mvT hZ (ow hw 6 rfl)) (by decide) (backOf (W := 0) (rm1 l Z a0 hw [] w_AFTER l_AFTER (0 : Int32) (0 : Int32) (100 : Int32) h0 n0 O (F_label_AFTER.ext O.2) (F_min_AFTER.ext O.2) (F_max_AFTER.ext O.2) (by decide) (by decide)) hZ (ow hw 8 rfl) (ow hw 1 rfl) (by decide) (by decide)) q10a q10c (g := (mkF m 128 #[iv i0, iv i1, iv i2, iv (i0 &&& (3 : Int32)), rv w_AFTER, iv 0, iv 100, iv (i1 &&& (3 : Int32)), iv 0] [.int 0, .ref w_AFTER])) rfl (by rw [hml]; rfl) (Steps.refl _) (argsL := [(.int (0 : Int32))]) (rest := []) (lenOf pd_1 rfl) rfl (by show 2 * 0 + _ ≤ _; exact Nat.le_of_eq rfl) (hb hby at_128) (fun _ _ => ⟨rfl, e9, (by decide : 0 + 0 ≤ _), (by decide : 0 + 0 ≤ _)⟩)
          dsimp only [Pt.U, Pt.locs, Pt.cells, Pt.slots] at X10 l10 y10 z10 st10 hQ10
          subst l10 y10 z10
          obtain ⟨rfl, rfl, e10⟩ := hQ10
          try rw [List.append_nil] at X10
          refine gb (fun _ k => st10.trans k) ?_
          show G T10 (mkF m 131 #[iv i0, iv i1, iv i2, iv (i0 &&& (3 : Int32)), rv w_AFTER, iv 0, iv 100, iv (i1 &&& (3 : Int32)), iv 0] [.int 0])
          refine gb (fun _ k => XS.iload X10.here hx rfl (hb hby at_131) rfl (XS.icmpNo X10.here hx rfl (hb hby at_133) rfl (teq (rfl : (0 : Int32) = (0 : Int32))).2 (XS.iconst X10.here hx rfl (hb hby at_136) (XS.goto X10.here hx rfl (pc0 := 137) (pc' := 141) rfl (hb hby at_137) (by decide) (by decide) k)))) ?_
          show G T10 (mkF m 141 #[iv i0, iv i1, iv i2, iv (i0 &&& (3 : Int32)), rv w_AFTER, iv 0, iv 100, iv (i1 &&& (3 : Int32)), iv 0] [.int 1])
          exact go X10 (v := (some (.int (1 : Int32)))) (fun h => by rw [Bd.returns] at h; cases h) (fun fs hr => retOut X10 hx Bd.returns rfl (Or.inl ⟨rfl, by simp, _, rfl⟩) (hb hby at_141) hr) (⟨rfl, N⟩) (by decide) (by decide)
        · skip
          refine gb (fun _ k => XS.ifYes X9.here hx rfl (pc0 := 84) (pc' := 94) rfl (hb hby at_84) rfl ((if0 _ _).trans (feq hc84).2) (by decide) (by decide) (XS.iload X9.here hx rfl (hb hby at_94) rfl (XS.iconst X9.here hx rfl (hb hby at_96) k))) ?_
          show G T9 (mkF m 97 #[iv i0, iv i1, iv i2, iv (i0 &&& (3 : Int32)), rv w_AFTER, iv 0, iv 100, iv (i1 &&& (3 : Int32)), .unset] [.int 1, .int (i1 &&& (3 : Int32))])
          by_cases hc97 : (i1 &&& (3 : Int32)) = (1 : Int32)
          · skip
            refine gb (fun _ k => XS.icmpNo X9.here hx rfl (hb hby at_97) rfl (teq hc97).2 (XS.iload X9.here hx rfl (hb hby at_100) rfl (XS.istore X9.here hx rfl (hb hby at_102) rfl (l' := #[iv i0, iv i1, iv i2, iv (i0 &&& (3 : Int32)), rv w_AFTER, iv 0, iv 100, iv (i1 &&& (3 : Int32)), iv 100]) rfl (XS.goto X9.here hx rfl (pc0 := 104) (pc' := 124) rfl (hb hby at_104) (by decide) (by decide) (XS.aload X9.here hx rfl (hb hby at_124) rfl rfl (XS.iload X9.here hx rfl (hb hby at_126) rfl k)))))) ?_
            show G T9 (mkF m 128 #[iv i0, iv i1, iv i2, iv (i0 &&& (3 : Int32)), rv w_AFTER, iv 0, iv 100, iv (i1 &&& (3 : Int32)), iv 100] [.int 100, .ref w_AFTER])
            obtain ⟨cq11, kq11, q11a, q11b, q11c⟩ := isOf hZ e9 (E_AFTER.ext O.2)
            obtain ⟨_, _, ⟨T11, L11, k11, n11⟩, -, X11, ⟨Lc11, hQ11, l11, y11, z11⟩, st11⟩ := X9.virtualBack hx (y := (⟨"com/example/rankle/rankle/Limits$Count", "require", "(I)I"⟩ : MethodName)) (z := (⟨"com/example/rankle/rankle/Limits$Count", "require", "(I)I"⟩ : MethodName)) hown (mvT hZ (ow hw 4 rfl)) (mvT hZ (ow hw 5 rfl)) (notFace_of_selects (args := #[]) (mvT hZ (ow hw 7 rfl))) (mvT hZ (ow hw 7 rfl)) (mvT hZ (ow hw 6 rfl)) (by decide) (backOf (W := 0) (rm1 l Z a0 hw [] w_AFTER l_AFTER (100 : Int32) (0 : Int32) (100 : Int32) h0 n0 O (F_label_AFTER.ext O.2) (F_min_AFTER.ext O.2) (F_max_AFTER.ext O.2) (by decide) (by decide)) hZ (ow hw 8 rfl) (ow hw 1 rfl) (by decide) (by decide)) q11a q11c (g := (mkF m 128 #[iv i0, iv i1, iv i2, iv (i0 &&& (3 : Int32)), rv w_AFTER, iv 0, iv 100, iv (i1 &&& (3 : Int32)), iv 100] [.int 100, .ref w_AFTER])) rfl (by rw [hml]; rfl) (Steps.refl _) (argsL := [(.int (100 : Int32))]) (rest := []) (lenOf pd_1 rfl) rfl (by show 2 * 0 + _ ≤ _; exact Nat.le_of_eq rfl) (hb hby at_128) (fun _ _ => ⟨rfl, e9, (by decide : 0 + 0 ≤ _), (by decide : 0 + 0 ≤ _)⟩)
            dsimp only [Pt.U, Pt.locs, Pt.cells, Pt.slots] at X11 l11 y11 z11 st11 hQ11
            subst l11 y11 z11
            obtain ⟨rfl, rfl, e11⟩ := hQ11
            try rw [List.append_nil] at X11
            refine gb (fun _ k => st11.trans k) ?_
            show G T11 (mkF m 131 #[iv i0, iv i1, iv i2, iv (i0 &&& (3 : Int32)), rv w_AFTER, iv 0, iv 100, iv (i1 &&& (3 : Int32)), iv 100] [.int 100])
            refine gb (fun _ k => XS.iload X11.here hx rfl (hb hby at_131) rfl (XS.icmpNo X11.here hx rfl (hb hby at_133) rfl (teq (rfl : (100 : Int32) = (100 : Int32))).2 (XS.iconst X11.here hx rfl (hb hby at_136) (XS.goto X11.here hx rfl (pc0 := 137) (pc' := 141) rfl (hb hby at_137) (by decide) (by decide) k)))) ?_
            show G T11 (mkF m 141 #[iv i0, iv i1, iv i2, iv (i0 &&& (3 : Int32)), rv w_AFTER, iv 0, iv 100, iv (i1 &&& (3 : Int32)), iv 100] [.int 1])
            exact go X11 (v := (some (.int (1 : Int32)))) (fun h => by rw [Bd.returns] at h; cases h) (fun fs hr => retOut X11 hx Bd.returns rfl (Or.inl ⟨rfl, by simp, _, rfl⟩) (hb hby at_141) hr) (⟨rfl, N⟩) (by decide) (by decide)
          · skip
            refine gb (fun _ k => XS.icmpYes X9.here hx rfl (pc0 := 97) (pc' := 107) rfl (hb hby at_97) rfl (feq hc97).2 (by decide) (by decide) (XS.iload X9.here hx rfl (hb hby at_107) rfl (XS.iloadN X9.here hx rfl (hb hby at_109) rfl k))) ?_
            show G T9 (mkF m 110 #[iv i0, iv i1, iv i2, iv (i0 &&& (3 : Int32)), rv w_AFTER, iv 0, iv 100, iv (i1 &&& (3 : Int32)), .unset] [.int i2, .int 0])
            refine gb (X9.ldcInt hx hown (mvT hZ (ow hw 3 rfl)) (g := (mkF m 110 #[iv i0, iv i1, iv i2, iv (i0 &&& (3 : Int32)), rv w_AFTER, iv 0, iv 100, iv (i1 &&& (3 : Int32)), .unset] [.int i2, .int 0])) rfl (hb hby at_110)) ?_
            show G T9 (mkF m 112 #[iv i0, iv i1, iv i2, iv (i0 &&& (3 : Int32)), rv w_AFTER, iv 0, iv 100, iv (i1 &&& (3 : Int32)), .unset] [.int 2147483647, .int i2, .int 0])
            refine gb (fun _ k => XS.iand X9.here hx rfl (hb hby at_112) rfl (XS.iload X9.here hx rfl (hb hby at_113) rfl (XS.iload X9.here hx rfl (hb hby at_115) rfl (XS.isub X9.here hx rfl (hb hby at_117) rfl (XS.iconst X9.here hx rfl (hb hby at_118) (XS.iadd X9.here hx rfl (hb hby at_119) rfl k)))))) ?_
            show G T9 (mkF m 120 #[iv i0, iv i1, iv i2, iv (i0 &&& (3 : Int32)), rv w_AFTER, iv 0, iv 100, iv (i1 &&& (3 : Int32)), .unset] [.int 101, .int (i2 &&& (2147483647 : Int32)), .int 0])
            refine gb (fun _ k => iremM X9 hx rfl (hb hby at_120) rfl (by decide) (XS.iadd X9.here hx rfl (hb hby at_121) rfl (XS.istore X9.here hx rfl (hb hby at_122) rfl (l' := #[iv i0, iv i1, iv i2, iv (i0 &&& (3 : Int32)), rv w_AFTER, iv 0, iv 100, iv (i1 &&& (3 : Int32)), iv ((0 : Int32) + ((i2 &&& (2147483647 : Int32)) % (101 : Int32)))]) rfl (XS.aload X9.here hx rfl (hb hby at_124) rfl rfl (XS.iload X9.here hx rfl (hb hby at_126) rfl k))))) ?_
            show G T9 (mkF m 128 #[iv i0, iv i1, iv i2, iv (i0 &&& (3 : Int32)), rv w_AFTER, iv 0, iv 100, iv (i1 &&& (3 : Int32)), iv ((0 : Int32) + ((i2 &&& (2147483647 : Int32)) % (101 : Int32)))] [.int ((0 : Int32) + ((i2 &&& (2147483647 : Int32)) % (101 : Int32))), .ref w_AFTER])
            obtain ⟨cq12, kq12, q12a, q12b, q12c⟩ := isOf hZ e9 (E_AFTER.ext O.2)
            obtain ⟨_, _, ⟨T12, L12, k12, n12⟩, -, X12, ⟨Lc12, hQ12, l12, y12, z12⟩, st12⟩ := X9.virtualBack hx (y := (⟨"com/example/rankle/rankle/Limits$Count", "require", "(I)I"⟩ : MethodName)) (z := (⟨"com/example/rankle/rankle/Limits$Count", "require", "(I)I"⟩ : MethodName)) hown (mvT hZ (ow hw 4 rfl)) (mvT hZ (ow hw 5 rfl)) (notFace_of_selects (args := #[]) (mvT hZ (ow hw 7 rfl))) (mvT hZ (ow hw 7 rfl)) (mvT hZ (ow hw 6 rfl)) (by decide) (backOf (W := 0) (rm1 l Z a0 hw [] w_AFTER l_AFTER ((0 : Int32) + ((i2 &&& (2147483647 : Int32)) % (101 : Int32))) (0 : Int32) (100 : Int32) h0 n0 O (F_label_AFTER.ext O.2) (F_min_AFTER.ext O.2) (F_max_AFTER.ext O.2) (own_rng i2 (0 : Int32) (100 : Int32) _ (by decide) (by decide) (by decide) (by decide)).1 (own_rng i2 (0 : Int32) (100 : Int32) _ (by decide) (by decide) (by decide) (by decide)).2) hZ (ow hw 8 rfl) (ow hw 1 rfl) (by decide) (by decide)) q12a q12c (g := (mkF m 128 #[iv i0, iv i1, iv i2, iv (i0 &&& (3 : Int32)), rv w_AFTER, iv 0, iv 100, iv (i1 &&& (3 : Int32)), iv ((0 : Int32) + ((i2 &&& (2147483647 : Int32)) % (101 : Int32)))] [.int ((0 : Int32) + ((i2 &&& (2147483647 : Int32)) % (101 : Int32))), .ref w_AFTER])) rfl (by rw [hml]; rfl) (Steps.refl _) (argsL := [(.int ((0 : Int32) + ((i2 &&& (2147483647 : Int32)) % (101 : Int32))))]) (rest := []) (lenOf pd_1 rfl) rfl (by show 2 * 0 + _ ≤ _; exact Nat.le_of_eq rfl) (hb hby at_128) (fun _ _ => ⟨rfl, e9, (by decide : 0 + 0 ≤ _), (by decide : 0 + 0 ≤ _)⟩)
            dsimp only [Pt.U, Pt.locs, Pt.cells, Pt.slots] at X12 l12 y12 z12 st12 hQ12
            subst l12 y12 z12
            obtain ⟨rfl, rfl, e12⟩ := hQ12
            try rw [List.append_nil] at X12
            refine gb (fun _ k => st12.trans k) ?_
            show G T12 (mkF m 131 #[iv i0, iv i1, iv i2, iv (i0 &&& (3 : Int32)), rv w_AFTER, iv 0, iv 100, iv (i1 &&& (3 : Int32)), iv ((0 : Int32) + ((i2 &&& (2147483647 : Int32)) % (101 : Int32)))] [.int ((0 : Int32) + ((i2 &&& (2147483647 : Int32)) % (101 : Int32)))])
            refine gb (fun _ k => XS.iload X12.here hx rfl (hb hby at_131) rfl (XS.icmpNo X12.here hx rfl (hb hby at_133) rfl (teq (rfl : ((0 : Int32) + ((i2 &&& (2147483647 : Int32)) % (101 : Int32))) = ((0 : Int32) + ((i2 &&& (2147483647 : Int32)) % (101 : Int32))))).2 (XS.iconst X12.here hx rfl (hb hby at_136) (XS.goto X12.here hx rfl (pc0 := 137) (pc' := 141) rfl (hb hby at_137) (by decide) (by decide) k)))) ?_
            show G T12 (mkF m 141 #[iv i0, iv i1, iv i2, iv (i0 &&& (3 : Int32)), rv w_AFTER, iv 0, iv 100, iv (i1 &&& (3 : Int32)), iv ((0 : Int32) + ((i2 &&& (2147483647 : Int32)) % (101 : Int32)))] [.int 1])
            exact go X12 (v := (some (.int (1 : Int32)))) (fun h => by rw [Bd.returns] at h; cases h) (fun fs hr => retOut X12 hx Bd.returns rfl (Or.inl ⟨rfl, by simp, _, rfl⟩) (hb hby at_141) hr) (⟨rfl, N⟩) (by decide) (by decide)
      · skip
        refine gb (fun _ k => XS.icmpYes X0.here hx rfl (pc0 := 46) (pc' := 64) rfl (hb hby at_46) rfl (feq hc46).2 (by decide) (by decide) k) ?_
        show G s₁ (mkF m 64 #[iv i0, iv i1, iv i2, iv (i0 &&& (3 : Int32)), .unset, .unset, .unset, .unset, .unset] [])
        obtain ⟨T13, X13, e13, st13⟩ := getS2 X0 hx hZ hown (host := "") (Or.inl (ow hw 21 rfl)) Via.refl e0 (S_OPPONENTS.ext O.2) (g := (mkF m 64 #[iv i0, iv i1, iv i2, iv (i0 &&& (3 : Int32)), .unset, .unset, .unset, .unset, .unset] [])) rfl (hb hby at_64)
        refine gb st13 ?_
        show G T13 (mkF m 67 #[iv i0, iv i1, iv i2, iv (i0 &&& (3 : Int32)), .unset, .unset, .unset, .unset, .unset] [.ref w_OPPONENTS])
        refine gb (fun _ k => XS.astore X13.here hx rfl (hb hby at_67) rfl rfl (l' := #[iv i0, iv i1, iv i2, iv (i0 &&& (3 : Int32)), rv w_OPPONENTS, .unset, .unset, .unset, .unset]) rfl (XS.iconst X13.here hx rfl (hb hby at_69) (XS.istore X13.here hx rfl (hb hby at_70) rfl (l' := #[iv i0, iv i1, iv i2, iv (i0 &&& (3 : Int32)), rv w_OPPONENTS, iv 1, .unset, .unset, .unset]) rfl (XS.sipush X13.here hx rfl (hb hby at_72) (XS.istore X13.here hx rfl (hb hby at_75) rfl (l' := #[iv i0, iv i1, iv i2, iv (i0 &&& (3 : Int32)), rv w_OPPONENTS, iv 1, iv 10000, .unset, .unset]) rfl (XS.iloadN X13.here hx rfl (hb hby at_77) rfl k)))))) ?_
        show G T13 (mkF m 78 #[iv i0, iv i1, iv i2, iv (i0 &&& (3 : Int32)), rv w_OPPONENTS, iv 1, iv 10000, .unset, .unset] [.int i1])
        refine gb (fun _ k => XS.iconst X13.here hx rfl (hb hby at_78) (XS.iand X13.here hx rfl (hb hby at_79) rfl (XS.istore X13.here hx rfl (hb hby at_80) rfl (l' := #[iv i0, iv i1, iv i2, iv (i0 &&& (3 : Int32)), rv w_OPPONENTS, iv 1, iv 10000, iv (i1 &&& (3 : Int32)), .unset]) rfl (XS.iload X13.here hx rfl (hb hby at_82) rfl k)))) ?_
        show G T13 (mkF m 84 #[iv i0, iv i1, iv i2, iv (i0 &&& (3 : Int32)), rv w_OPPONENTS, iv 1, iv 10000, iv (i1 &&& (3 : Int32)), .unset] [.int (i1 &&& (3 : Int32))])
        by_cases hc84 : (i1 &&& (3 : Int32)) = (0 : Int32)
        · skip
          refine gb (fun _ k => XS.ifNo X13.here hx rfl (hb hby at_84) rfl ((if0 _ _).trans (teq hc84).2) (XS.iload X13.here hx rfl (hb hby at_87) rfl (XS.istore X13.here hx rfl (hb hby at_89) rfl (l' := #[iv i0, iv i1, iv i2, iv (i0 &&& (3 : Int32)), rv w_OPPONENTS, iv 1, iv 10000, iv (i1 &&& (3 : Int32)), iv 1]) rfl (XS.goto X13.here hx rfl (pc0 := 91) (pc' := 124) rfl (hb hby at_91) (by decide) (by decide) (XS.aload X13.here hx rfl (hb hby at_124) rfl rfl (XS.iload X13.here hx rfl (hb hby at_126) rfl k)))))) ?_
          show G T13 (mkF m 128 #[iv i0, iv i1, iv i2, iv (i0 &&& (3 : Int32)), rv w_OPPONENTS, iv 1, iv 10000, iv (i1 &&& (3 : Int32)), iv 1] [.int 1, .ref w_OPPONENTS])
          obtain ⟨cq14, kq14, q14a, q14b, q14c⟩ := isOf hZ e13 (E_OPPONENTS.ext O.2)
          obtain ⟨_, _, ⟨T14, L14, k14, n14⟩, -, X14, ⟨Lc14, hQ14, l14, y14, z14⟩, st14⟩ := X13.virtualBack hx (y := (⟨"com/example/rankle/rankle/Limits$Count", "require", "(I)I"⟩ : MethodName)) (z := (⟨"com/example/rankle/rankle/Limits$Count", "require", "(I)I"⟩ : MethodName)) hown (mvT hZ (ow hw 4 rfl)) (mvT hZ (ow hw 5 rfl)) (notFace_of_selects (args := #[]) (mvT hZ (ow hw 7 rfl))) (mvT hZ (ow hw 7 rfl)) (mvT hZ (ow hw 6 rfl)) (by decide) (backOf (W := 0) (rm1 l Z a0 hw [] w_OPPONENTS l_OPPONENTS (1 : Int32) (1 : Int32) (10000 : Int32) h0 n0 O (F_label_OPPONENTS.ext O.2) (F_min_OPPONENTS.ext O.2) (F_max_OPPONENTS.ext O.2) (by decide) (by decide)) hZ (ow hw 8 rfl) (ow hw 1 rfl) (by decide) (by decide)) q14a q14c (g := (mkF m 128 #[iv i0, iv i1, iv i2, iv (i0 &&& (3 : Int32)), rv w_OPPONENTS, iv 1, iv 10000, iv (i1 &&& (3 : Int32)), iv 1] [.int 1, .ref w_OPPONENTS])) rfl (by rw [hml]; rfl) (Steps.refl _) (argsL := [(.int (1 : Int32))]) (rest := []) (lenOf pd_1 rfl) rfl (by show 2 * 0 + _ ≤ _; exact Nat.le_of_eq rfl) (hb hby at_128) (fun _ _ => ⟨rfl, e13, (by decide : 0 + 0 ≤ _), (by decide : 0 + 0 ≤ _)⟩)
          dsimp only [Pt.U, Pt.locs, Pt.cells, Pt.slots] at X14 l14 y14 z14 st14 hQ14
          subst l14 y14 z14
          obtain ⟨rfl, rfl, e14⟩ := hQ14
          try rw [List.append_nil] at X14
          refine gb (fun _ k => st14.trans k) ?_
          show G T14 (mkF m 131 #[iv i0, iv i1, iv i2, iv (i0 &&& (3 : Int32)), rv w_OPPONENTS, iv 1, iv 10000, iv (i1 &&& (3 : Int32)), iv 1] [.int 1])
          refine gb (fun _ k => XS.iload X14.here hx rfl (hb hby at_131) rfl (XS.icmpNo X14.here hx rfl (hb hby at_133) rfl (teq (rfl : (1 : Int32) = (1 : Int32))).2 (XS.iconst X14.here hx rfl (hb hby at_136) (XS.goto X14.here hx rfl (pc0 := 137) (pc' := 141) rfl (hb hby at_137) (by decide) (by decide) k)))) ?_
          show G T14 (mkF m 141 #[iv i0, iv i1, iv i2, iv (i0 &&& (3 : Int32)), rv w_OPPONENTS, iv 1, iv 10000, iv (i1 &&& (3 : Int32)), iv 1] [.int 1])
          exact go X14 (v := (some (.int (1 : Int32)))) (fun h => by rw [Bd.returns] at h; cases h) (fun fs hr => retOut X14 hx Bd.returns rfl (Or.inl ⟨rfl, by simp, _, rfl⟩) (hb hby at_141) hr) (⟨rfl, N⟩) (by decide) (by decide)
        · skip
          refine gb (fun _ k => XS.ifYes X13.here hx rfl (pc0 := 84) (pc' := 94) rfl (hb hby at_84) rfl ((if0 _ _).trans (feq hc84).2) (by decide) (by decide) (XS.iload X13.here hx rfl (hb hby at_94) rfl (XS.iconst X13.here hx rfl (hb hby at_96) k))) ?_
          show G T13 (mkF m 97 #[iv i0, iv i1, iv i2, iv (i0 &&& (3 : Int32)), rv w_OPPONENTS, iv 1, iv 10000, iv (i1 &&& (3 : Int32)), .unset] [.int 1, .int (i1 &&& (3 : Int32))])
          by_cases hc97 : (i1 &&& (3 : Int32)) = (1 : Int32)
          · skip
            refine gb (fun _ k => XS.icmpNo X13.here hx rfl (hb hby at_97) rfl (teq hc97).2 (XS.iload X13.here hx rfl (hb hby at_100) rfl (XS.istore X13.here hx rfl (hb hby at_102) rfl (l' := #[iv i0, iv i1, iv i2, iv (i0 &&& (3 : Int32)), rv w_OPPONENTS, iv 1, iv 10000, iv (i1 &&& (3 : Int32)), iv 10000]) rfl (XS.goto X13.here hx rfl (pc0 := 104) (pc' := 124) rfl (hb hby at_104) (by decide) (by decide) (XS.aload X13.here hx rfl (hb hby at_124) rfl rfl (XS.iload X13.here hx rfl (hb hby at_126) rfl k)))))) ?_
            show G T13 (mkF m 128 #[iv i0, iv i1, iv i2, iv (i0 &&& (3 : Int32)), rv w_OPPONENTS, iv 1, iv 10000, iv (i1 &&& (3 : Int32)), iv 10000] [.int 10000, .ref w_OPPONENTS])
            obtain ⟨cq15, kq15, q15a, q15b, q15c⟩ := isOf hZ e13 (E_OPPONENTS.ext O.2)
            obtain ⟨_, _, ⟨T15, L15, k15, n15⟩, -, X15, ⟨Lc15, hQ15, l15, y15, z15⟩, st15⟩ := X13.virtualBack hx (y := (⟨"com/example/rankle/rankle/Limits$Count", "require", "(I)I"⟩ : MethodName)) (z := (⟨"com/example/rankle/rankle/Limits$Count", "require", "(I)I"⟩ : MethodName)) hown (mvT hZ (ow hw 4 rfl)) (mvT hZ (ow hw 5 rfl)) (notFace_of_selects (args := #[]) (mvT hZ (ow hw 7 rfl))) (mvT hZ (ow hw 7 rfl)) (mvT hZ (ow hw 6 rfl)) (by decide) (backOf (W := 0) (rm1 l Z a0 hw [] w_OPPONENTS l_OPPONENTS (10000 : Int32) (1 : Int32) (10000 : Int32) h0 n0 O (F_label_OPPONENTS.ext O.2) (F_min_OPPONENTS.ext O.2) (F_max_OPPONENTS.ext O.2) (by decide) (by decide)) hZ (ow hw 8 rfl) (ow hw 1 rfl) (by decide) (by decide)) q15a q15c (g := (mkF m 128 #[iv i0, iv i1, iv i2, iv (i0 &&& (3 : Int32)), rv w_OPPONENTS, iv 1, iv 10000, iv (i1 &&& (3 : Int32)), iv 10000] [.int 10000, .ref w_OPPONENTS])) rfl (by rw [hml]; rfl) (Steps.refl _) (argsL := [(.int (10000 : Int32))]) (rest := []) (lenOf pd_1 rfl) rfl (by show 2 * 0 + _ ≤ _; exact Nat.le_of_eq rfl) (hb hby at_128) (fun _ _ => ⟨rfl, e13, (by decide : 0 + 0 ≤ _), (by decide : 0 + 0 ≤ _)⟩)
            dsimp only [Pt.U, Pt.locs, Pt.cells, Pt.slots] at X15 l15 y15 z15 st15 hQ15
            subst l15 y15 z15
            obtain ⟨rfl, rfl, e15⟩ := hQ15
            try rw [List.append_nil] at X15
            refine gb (fun _ k => st15.trans k) ?_
            show G T15 (mkF m 131 #[iv i0, iv i1, iv i2, iv (i0 &&& (3 : Int32)), rv w_OPPONENTS, iv 1, iv 10000, iv (i1 &&& (3 : Int32)), iv 10000] [.int 10000])
            refine gb (fun _ k => XS.iload X15.here hx rfl (hb hby at_131) rfl (XS.icmpNo X15.here hx rfl (hb hby at_133) rfl (teq (rfl : (10000 : Int32) = (10000 : Int32))).2 (XS.iconst X15.here hx rfl (hb hby at_136) (XS.goto X15.here hx rfl (pc0 := 137) (pc' := 141) rfl (hb hby at_137) (by decide) (by decide) k)))) ?_
            show G T15 (mkF m 141 #[iv i0, iv i1, iv i2, iv (i0 &&& (3 : Int32)), rv w_OPPONENTS, iv 1, iv 10000, iv (i1 &&& (3 : Int32)), iv 10000] [.int 1])
            exact go X15 (v := (some (.int (1 : Int32)))) (fun h => by rw [Bd.returns] at h; cases h) (fun fs hr => retOut X15 hx Bd.returns rfl (Or.inl ⟨rfl, by simp, _, rfl⟩) (hb hby at_141) hr) (⟨rfl, N⟩) (by decide) (by decide)
          · skip
            refine gb (fun _ k => XS.icmpYes X13.here hx rfl (pc0 := 97) (pc' := 107) rfl (hb hby at_97) rfl (feq hc97).2 (by decide) (by decide) (XS.iload X13.here hx rfl (hb hby at_107) rfl (XS.iloadN X13.here hx rfl (hb hby at_109) rfl k))) ?_
            show G T13 (mkF m 110 #[iv i0, iv i1, iv i2, iv (i0 &&& (3 : Int32)), rv w_OPPONENTS, iv 1, iv 10000, iv (i1 &&& (3 : Int32)), .unset] [.int i2, .int 1])
            refine gb (X13.ldcInt hx hown (mvT hZ (ow hw 3 rfl)) (g := (mkF m 110 #[iv i0, iv i1, iv i2, iv (i0 &&& (3 : Int32)), rv w_OPPONENTS, iv 1, iv 10000, iv (i1 &&& (3 : Int32)), .unset] [.int i2, .int 1])) rfl (hb hby at_110)) ?_
            show G T13 (mkF m 112 #[iv i0, iv i1, iv i2, iv (i0 &&& (3 : Int32)), rv w_OPPONENTS, iv 1, iv 10000, iv (i1 &&& (3 : Int32)), .unset] [.int 2147483647, .int i2, .int 1])
            refine gb (fun _ k => XS.iand X13.here hx rfl (hb hby at_112) rfl (XS.iload X13.here hx rfl (hb hby at_113) rfl (XS.iload X13.here hx rfl (hb hby at_115) rfl (XS.isub X13.here hx rfl (hb hby at_117) rfl (XS.iconst X13.here hx rfl (hb hby at_118) (XS.iadd X13.here hx rfl (hb hby at_119) rfl k)))))) ?_
            show G T13 (mkF m 120 #[iv i0, iv i1, iv i2, iv (i0 &&& (3 : Int32)), rv w_OPPONENTS, iv 1, iv 10000, iv (i1 &&& (3 : Int32)), .unset] [.int 10000, .int (i2 &&& (2147483647 : Int32)), .int 1])
            refine gb (fun _ k => iremM X13 hx rfl (hb hby at_120) rfl (by decide) (XS.iadd X13.here hx rfl (hb hby at_121) rfl (XS.istore X13.here hx rfl (hb hby at_122) rfl (l' := #[iv i0, iv i1, iv i2, iv (i0 &&& (3 : Int32)), rv w_OPPONENTS, iv 1, iv 10000, iv (i1 &&& (3 : Int32)), iv ((1 : Int32) + ((i2 &&& (2147483647 : Int32)) % (10000 : Int32)))]) rfl (XS.aload X13.here hx rfl (hb hby at_124) rfl rfl (XS.iload X13.here hx rfl (hb hby at_126) rfl k))))) ?_
            show G T13 (mkF m 128 #[iv i0, iv i1, iv i2, iv (i0 &&& (3 : Int32)), rv w_OPPONENTS, iv 1, iv 10000, iv (i1 &&& (3 : Int32)), iv ((1 : Int32) + ((i2 &&& (2147483647 : Int32)) % (10000 : Int32)))] [.int ((1 : Int32) + ((i2 &&& (2147483647 : Int32)) % (10000 : Int32))), .ref w_OPPONENTS])
            obtain ⟨cq16, kq16, q16a, q16b, q16c⟩ := isOf hZ e13 (E_OPPONENTS.ext O.2)
            obtain ⟨_, _, ⟨T16, L16, k16, n16⟩, -, X16, ⟨Lc16, hQ16, l16, y16, z16⟩, st16⟩ := X13.virtualBack hx (y := (⟨"com/example/rankle/rankle/Limits$Count", "require", "(I)I"⟩ : MethodName)) (z := (⟨"com/example/rankle/rankle/Limits$Count", "require", "(I)I"⟩ : MethodName)) hown (mvT hZ (ow hw 4 rfl)) (mvT hZ (ow hw 5 rfl)) (notFace_of_selects (args := #[]) (mvT hZ (ow hw 7 rfl))) (mvT hZ (ow hw 7 rfl)) (mvT hZ (ow hw 6 rfl)) (by decide) (backOf (W := 0) (rm1 l Z a0 hw [] w_OPPONENTS l_OPPONENTS ((1 : Int32) + ((i2 &&& (2147483647 : Int32)) % (10000 : Int32))) (1 : Int32) (10000 : Int32) h0 n0 O (F_label_OPPONENTS.ext O.2) (F_min_OPPONENTS.ext O.2) (F_max_OPPONENTS.ext O.2) (own_rng i2 (1 : Int32) (10000 : Int32) _ (by decide) (by decide) (by decide) (by decide)).1 (own_rng i2 (1 : Int32) (10000 : Int32) _ (by decide) (by decide) (by decide) (by decide)).2) hZ (ow hw 8 rfl) (ow hw 1 rfl) (by decide) (by decide)) q16a q16c (g := (mkF m 128 #[iv i0, iv i1, iv i2, iv (i0 &&& (3 : Int32)), rv w_OPPONENTS, iv 1, iv 10000, iv (i1 &&& (3 : Int32)), iv ((1 : Int32) + ((i2 &&& (2147483647 : Int32)) % (10000 : Int32)))] [.int ((1 : Int32) + ((i2 &&& (2147483647 : Int32)) % (10000 : Int32))), .ref w_OPPONENTS])) rfl (by rw [hml]; rfl) (Steps.refl _) (argsL := [(.int ((1 : Int32) + ((i2 &&& (2147483647 : Int32)) % (10000 : Int32))))]) (rest := []) (lenOf pd_1 rfl) rfl (by show 2 * 0 + _ ≤ _; exact Nat.le_of_eq rfl) (hb hby at_128) (fun _ _ => ⟨rfl, e13, (by decide : 0 + 0 ≤ _), (by decide : 0 + 0 ≤ _)⟩)
            dsimp only [Pt.U, Pt.locs, Pt.cells, Pt.slots] at X16 l16 y16 z16 st16 hQ16
            subst l16 y16 z16
            obtain ⟨rfl, rfl, e16⟩ := hQ16
            try rw [List.append_nil] at X16
            refine gb (fun _ k => st16.trans k) ?_
            show G T16 (mkF m 131 #[iv i0, iv i1, iv i2, iv (i0 &&& (3 : Int32)), rv w_OPPONENTS, iv 1, iv 10000, iv (i1 &&& (3 : Int32)), iv ((1 : Int32) + ((i2 &&& (2147483647 : Int32)) % (10000 : Int32)))] [.int ((1 : Int32) + ((i2 &&& (2147483647 : Int32)) % (10000 : Int32)))])
            refine gb (fun _ k => XS.iload X16.here hx rfl (hb hby at_131) rfl (XS.icmpNo X16.here hx rfl (hb hby at_133) rfl (teq (rfl : ((1 : Int32) + ((i2 &&& (2147483647 : Int32)) % (10000 : Int32))) = ((1 : Int32) + ((i2 &&& (2147483647 : Int32)) % (10000 : Int32))))).2 (XS.iconst X16.here hx rfl (hb hby at_136) (XS.goto X16.here hx rfl (pc0 := 137) (pc' := 141) rfl (hb hby at_137) (by decide) (by decide) k)))) ?_
            show G T16 (mkF m 141 #[iv i0, iv i1, iv i2, iv (i0 &&& (3 : Int32)), rv w_OPPONENTS, iv 1, iv 10000, iv (i1 &&& (3 : Int32)), iv ((1 : Int32) + ((i2 &&& (2147483647 : Int32)) % (10000 : Int32)))] [.int 1])
            exact go X16 (v := (some (.int (1 : Int32)))) (fun h => by rw [Bd.returns] at h; cases h) (fun fs hr => retOut X16 hx Bd.returns rfl (Or.inl ⟨rfl, by simp, _, rfl⟩) (hb hby at_141) hr) (⟨rfl, N⟩) (by decide) (by decide)
set_option maxRecDepth 65536 in
set_option maxHeartbeats 40000000 in
theorem comes_1 {Post : Tables → Env → Array Value → State → Outcome → State → Prop} (hpost : ∀ tb e args s v u, (limb_1_1.after args s (.returned v) u = true ∧ limb_1_2.after args s (.returned v) u = true ∧ True) → FrameEnd s (.returned v) u (Jvm.fieldLocs frame_1_writes args s ++ Jvm.arrayLocs frame_1_arrays args s ++ Jvm.staticLocs frame_1_statics s) 0 0 → Post tb e args s (.returned v) u) :
    ArmFor flags0 classFile x code maxLocals ret World_1 tables_1 room_1 Calls_1 rest_1 Pre_1 Post := by
  intro l hfl _ _ p e ha hc hk s m args below hf hA hF happ hP
  obtain ⟨hcalls, hrest, hpre⟩ := hP
  obtain ⟨-, -, -, hnamed, -, -, -, hat⟩ := (Spec.applies_iff hf).mp happ
  obtain ⟨hg, hn⟩ := and_e (Cond.before_iff.mp (show (Jvm.Cond.and given_1 narrow_1).before args s = true from hpre))
  obtain ⟨g1, g2⟩ := and_e hg
  obtain ⟨g3, g4⟩ := and_e g2
  obtain ⟨g5, g6⟩ := and_e g4
  obtain ⟨g7, g8⟩ := and_e hn
  obtain ⟨g9, g10⟩ := and_e g8
  obtain ⟨g11, g12⟩ := and_e g10
  obtain ⟨g13, g14⟩ := and_e g12
  obtain ⟨g15, g16⟩ := and_e g14
  obtain ⟨g17, g18⟩ := and_e g16
  obtain ⟨g19, g20⟩ := and_e g18
  obtain ⟨g21, g22⟩ := and_e g20
  obtain ⟨g23, g24⟩ := and_e g22
  obtain ⟨g25, g26⟩ := and_e g24
  obtain ⟨g27, g28⟩ := and_e g26
  obtain ⟨g29, g30⟩ := and_e g28
  obtain ⟨g31, g32⟩ := and_e g30
  obtain ⟨g33, g34⟩ := and_e g32
  obtain ⟨g35, g36⟩ := and_e g34
  obtain ⟨w0, w1, w2, rfl⟩ : ∃ w0 w1 w2 : Value, args = #[w0, w1, w2] := by
    have hs : args.size = 3 := by simpa [Cond.value, given_1] using g1
    obtain ⟨L⟩ := args
    match L, hs with
    | [w0, w1, w2], _ => exact ⟨w0, w1, w2, rfl⟩
  have hw := fun d (hd : d ∈ tables_1) => atoms_spec (ws := Jvm.Cond.code x code maxLocals ret :: tables_1) hat d (List.mem_cons_of_mem _ hd)
  have hfit : Fit s := fun {y c} hc i hi => by
    obtain ⟨ha, rfl⟩ := Array.getElem?_eq_some_iff.mp hc
    have q := List.all_eq_true.mp ((Array.all_eq_true_iff_forall_mem.mp hF) _ (Array.getElem_mem ha)) i (List.mem_range.mpr hi)
    simpa [Array.getElem?_eq_getElem hi] using q
  obtain ⟨i0, ei0⟩ := is_v g3
  obtain rfl : w0 = (.int i0) := Option.some.inj ei0
  obtain ⟨i1, ei1⟩ := is_v g5
  obtain rfl : w1 = (.int i1) := Option.some.inj ei1
  obtain ⟨i2, ei2⟩ := is_v g6
  obtain rfl : w2 = (.int i2) := Option.some.inj ei2
  obtain ⟨w_TOP, ev_TOP⟩ := exa_v g7
  have S_TOP : Sta s s.heap "com/example/rankle/rankle/Limits$Count" "TOP" "Lcom/example/rankle/rankle/Limits$Count;" (.ref w_TOP) := Sta.start ev_TOP (Or.inr ⟨(ow hw 1 rfl), (ow hw 2 rfl)⟩)
  have E_TOP : Exa s s.heap w_TOP "com/example/rankle/rankle/Limits$Count" := Exa.start ev_TOP g7
  obtain ⟨w_BEFORE, ev_BEFORE⟩ := exa_v g15
  have S_BEFORE : Sta s s.heap "com/example/rankle/rankle/Limits$Count" "BEFORE" "Lcom/example/rankle/rankle/Limits$Count;" (.ref w_BEFORE) := Sta.start ev_BEFORE (Or.inr ⟨(ow hw 1 rfl), (ow hw 20 rfl)⟩)
  have E_BEFORE : Exa s s.heap w_BEFORE "com/example/rankle/rankle/Limits$Count" := Exa.start ev_BEFORE g15
  obtain ⟨w_OPPONENTS, ev_OPPONENTS⟩ := exa_v g23
  have S_OPPONENTS : Sta s s.heap "com/example/rankle/rankle/Limits$Count" "OPPONENTS" "Lcom/example/rankle/rankle/Limits$Count;" (.ref w_OPPONENTS) := Sta.start ev_OPPONENTS (Or.inr ⟨(ow hw 1 rfl), (ow hw 22 rfl)⟩)
  have E_OPPONENTS : Exa s s.heap w_OPPONENTS "com/example/rankle/rankle/Limits$Count" := Exa.start ev_OPPONENTS g23
  obtain ⟨w_AFTER, ev_AFTER⟩ := exa_v g31
  have S_AFTER : Sta s s.heap "com/example/rankle/rankle/Limits$Count" "AFTER" "Lcom/example/rankle/rankle/Limits$Count;" (.ref w_AFTER) := Sta.start ev_AFTER (Or.inr ⟨(ow hw 1 rfl), (ow hw 24 rfl)⟩)
  have E_AFTER : Exa s s.heap w_AFTER "com/example/rankle/rankle/Limits$Count" := Exa.start ev_AFTER g31
  have F_min_TOP := own_fldI ev_TOP g11
  have F_max_TOP := own_fldI ev_TOP g13
  have F_min_BEFORE := own_fldI ev_BEFORE g19
  have F_max_BEFORE := own_fldI ev_BEFORE g21
  have F_min_OPPONENTS := own_fldI ev_OPPONENTS g27
  have F_max_OPPONENTS := own_fldI ev_OPPONENTS g29
  have F_min_AFTER := own_fldI ev_AFTER g35
  have F_max_AFTER := own_fldI ev_AFTER g36
  obtain ⟨l_TOP, el_TOP⟩ := exa_v g9
  rw [fld_at ev_TOP] at el_TOP
  have F_label_TOP := Fld.start el_TOP
  obtain ⟨l_BEFORE, el_BEFORE⟩ := exa_v g17
  rw [fld_at ev_BEFORE] at el_BEFORE
  have F_label_BEFORE := Fld.start el_BEFORE
  obtain ⟨l_AFTER, el_AFTER⟩ := exa_v g33
  rw [fld_at ev_AFTER] at el_AFTER
  have F_label_AFTER := Fld.start el_AFTER
  obtain ⟨l_OPPONENTS, el_OPPONENTS⟩ := exa_v g25
  rw [fld_at ev_OPPONENTS] at el_OPPONENTS
  have F_label_OPPONENTS := Fld.start el_OPPONENTS
  obtain ⟨n, o, h1, h2, h3, _, L, rfl, ⟨rfl, N⟩, hq⟩ := rm0 l s _ hw tables_1 i0 i1 i2 s.heap s.heap.size (Old.start s) w_TOP l_TOP S_TOP E_TOP F_label_TOP F_min_TOP F_max_TOP w_BEFORE l_BEFORE S_BEFORE E_BEFORE F_label_BEFORE F_min_BEFORE F_max_BEFORE w_AFTER l_AFTER S_AFTER E_AFTER F_label_AFTER F_min_AFTER F_max_AFTER w_OPPONENTS l_OPPONENTS S_OPPONENTS E_OPPONENTS F_label_OPPONENTS F_min_OPPONENTS F_max_OPPONENTS p e ha hc hk s m _ below hf ((Spec.applies_iff_loose hf).mp happ).1 ⟨rfl, State.Warmed39.refl s, rfl, rfl⟩ trivial
  refine ⟨n, _, h1, h2, h3, hpost _ _ _ _ _ _ ⟨Cond.after_iff.mpr rfl, Cond.after_iff.mpr (eq_i res_at (Term.int_eval (1)) rfl), trivial⟩ ⟨hq.1, hq.2.1, (hq.2.2.sift fun y hy => Or.inr (N y hy)).mono (by decide) (by decide)⟩⟩
theorem main_1_1 : Claimed_1_1 := comes_1 fun _ _ _ _ _ _ h hF => ⟨h.1, hF⟩
theorem main_1_2 : Claimed_1_2 := comes_1 fun _ _ _ _ _ _ h hF => ⟨h.2.1, hF⟩
end Jvm.Pilot.@@N@@
namespace Jvm.Pilot.@@N@@
open Jvm Jvm.ClassFile Sem Op Lib Jvm.Free Jvm.Stand Jvm.Pilot.@@N@@.Jvm.D
/-! MADE BY PROGRAM (witnessworld.py) out of the Statement's table words and the real class files: 16 classes; the members and pool entries that the words name. The judged class is class 1, her method 1. -/
namespace start1
open Jvm.ClassFile
def u (s : String) : CpInfo := .utf8 (stringToUtf16 s)
/-- a pool by its gaps: so many unusable entries, then the entry; so many at the end -/
def gap : Nat → List CpInfo → List CpInfo
  | 0, r => r
  | n + 1, r => .unusable :: gap n r
def poolList (es : List (Nat × CpInfo)) (last : Nat) : List CpInfo := es.foldr (fun e r => gap e.1 (e.2 :: r)) (gap last [])
def pool (es : List (Nat × CpInfo)) (last : Nat) : Array CpInfo := ⟨poolList es last⟩
def fileOf (pool : Array CpInfo) (this : Nat) (attrs : Array Attribute := #[]) (ms : Array MethodInfo := #[]) (fl : Nat := 33) (sup : Nat := 0) (ifs : Array Nat := #[]) (fds : Array FieldInfo := #[]) : ClassFile where
  minorVersion := 0
  majorVersion := 65
  constantPool := pool
  accessFlags := fl
  thisClass := this
  superClass := sup
  interfaces := ifs
  fields := fds
  methods := ms
  attributes := attrs
def plain (name : String) (sup : Option ClassId) : Class where
  name := name
  kind := .ordinary
  loader := none
  accessFlags := 33
  super := sup
  interfaces := #[]
  cf := none
  fields := #[]
  methods := #[]
  instanceTypes := #[]
  staticTypes := #[]
  resolved := #[]
  callSites := []
  init := .initialized
  statics := none
  mirror := none

def pool0 : Array CpInfo := pool [(5, u "<init>"), (0, u "()V"), (1, .class_ 10), (1, u "java/lang/Object")] 113

def k0m0 : Method := { name := "<init>", desc := "()V", sig := { parameters := [], returnType := none }, accessFlags := 1, code := none }
/-- java/lang/Object -/
def k0 : Class := { plain "java/lang/Object" none with
  accessFlags := 33
  interfaces := #[]
  cf := some (fileOf pool0 8 #[] #[{ accessFlags := 1, nameIndex := 5, descriptorIndex := 6, attributes := #[] }] 33 0 #[] #[])
  fields := #[]
  methods := #[k0m0]
  instanceTypes := #[]
  staticTypes := #[]
  resolved := Array.replicate 124 none
  statics := none }

def pool1 : Array CpInfo := pool [(2, .class_ 4), (1, u "java/lang/Object"), (0, u "<init>"), (0, u "()V"), (0, .fieldref 8 9), (0, .class_ 10), (0, .nameAndType 11 12), (0, u "com/example/rankle/rankle/Limits$Count"), (0, u "TOP"), (0, u "Lcom/example/rankle/rankle/Limits$Count;"), (0, .fieldref 8 14), (0, .nameAndType 15 12), (0, u "BEFORE"), (0, .fieldref 8 17), (0, .nameAndType 18 12), (0, u "AFTER"), (0, .fieldref 8 20), (0, .nameAndType 21 12), (0, u "OPPONENTS"), (0, .integer 2147483647), (0, .methodref 8 24), (0, .nameAndType 25 26), (0, u "require"), (0, u "(I)I"), (0, .class_ 28), (0, u "com/example/rankle/rankle/CountRequirePinLaw"), (2, u "law"), (0, u "(III)Z")] 7

def k1m0 : Method := { name := "<init>", desc := "()V", sig := { parameters := [], returnType := none }, accessFlags := 1, code := none }
def k1c1 : Code := { maxStack := 4, maxLocals := 9, code := code, exceptionTable := #[], attributes := #[] }
def k1m1 : Method := { name := "law", desc := "(III)Z", sig := { parameters := [.int, .int, .int], returnType := some .boolean }, accessFlags := 9, code := some k1c1 }
/-- com/example/rankle/rankle/CountRequirePinLaw -/
def k1 : Class := { plain "com/example/rankle/rankle/CountRequirePinLaw" (some 0) with
  accessFlags := 49
  interfaces := #[]
  cf := some (fileOf pool1 27 #[] #[{ accessFlags := 1, nameIndex := 5, descriptorIndex := 6, attributes := #[] }, { accessFlags := 9, nameIndex := 31, descriptorIndex := 32, attributes := #[] }] 49 2 #[] #[])
  fields := #[]
  methods := #[k1m0, k1m1]
  instanceTypes := #[]
  staticTypes := #[]
  resolved := Array.replicate 40 none
  statics := none }

def pool2 : Array CpInfo := pool [(1, .class_ 2), (0, u "java/lang/constant/Constable"), (0, .class_ 4), (0, u "java/lang/Object")] 6

/-- java/lang/constant/Constable -/
def k2 : Class := { plain "java/lang/constant/Constable" (some 0) with
  accessFlags := 1537
  interfaces := #[]
  cf := some (fileOf pool2 1 #[] #[] 1537 3 #[] #[])
  fields := #[]
  methods := #[]
  instanceTypes := #[]
  staticTypes := #[]
  resolved := Array.replicate 11 none
  statics := none }

def pool3 : Array CpInfo := pool [(1, .class_ 2), (0, u "java/lang/Comparable"), (0, .class_ 4), (0, u "java/lang/Object")] 7

/-- java/lang/Comparable -/
def k3 : Class := { plain "java/lang/Comparable" (some 0) with
  accessFlags := 1537
  interfaces := #[]
  cf := some (fileOf pool3 1 #[] #[] 1537 3 #[] #[])
  fields := #[]
  methods := #[]
  instanceTypes := #[]
  staticTypes := #[]
  resolved := Array.replicate 12 none
  statics := none }

def pool4 : Array CpInfo := pool [(1, .class_ 2), (0, u "java/io/Serializable"), (0, .class_ 4), (0, u "java/lang/Object")] 2

/-- java/io/Serializable -/
def k4 : Class := { plain "java/io/Serializable" (some 0) with
  accessFlags := 1537
  interfaces := #[]
  cf := some (fileOf pool4 1 #[] #[] 1537 3 #[] #[])
  fields := #[]
  methods := #[]
  instanceTypes := #[]
  staticTypes := #[]
  resolved := Array.replicate 7 none
  statics := none }

def pool5 : Array CpInfo := pool [(2, .class_ 4), (1, u "java/lang/Enum"), (0, u "name"), (0, u "Ljava/lang/String;"), (2, u "ordinal"), (0, u "I"), (1, .class_ 14), (1, u "java/lang/Object"), (4, u "hash"), (86, .class_ 108), (1, u "java/lang/Enum$EnumDesc"), (2, .class_ 112), (0, u "java/lang/constant/Constable"), (0, .class_ 114), (0, u "java/lang/Comparable"), (0, .class_ 116), (0, u "java/io/Serializable")] 87

/-- java/lang/Enum -/
def k5 : Class := { plain "java/lang/Enum" (some 0) with
  accessFlags := 1057
  interfaces := #[2, 3, 4]
  cf := some (fileOf pool5 2 #[.nestMembers #[106]] #[] 1057 12 #[111, 113, 115] #[{ accessFlags := 18, nameIndex := 5, descriptorIndex := 6, attributes := #[] }, { accessFlags := 18, nameIndex := 9, descriptorIndex := 10, attributes := #[] }, { accessFlags := 2, nameIndex := 19, descriptorIndex := 10, attributes := #[] }])
  fields := #[{ name := "name", type := (.object "java/lang/String"), accessFlags := 18, slot := 0, constantValue := 0 }, { name := "ordinal", type := .int, accessFlags := 18, slot := 1, constantValue := 0 }, { name := "hash", type := .int, accessFlags := 2, slot := 2, constantValue := 0 }]
  methods := #[]
  instanceTypes := #[(.object "java/lang/String"), .int, .int]
  staticTypes := #[]
  resolved := Array.replicate 204 none
  statics := none }

def pool6 : Array CpInfo := pool [(1, .class_ 2), (0, u "com/example/rankle/rankle/Limits$Count"), (2, u "TOP"), (0, u "Lcom/example/rankle/rankle/Limits$Count;"), (2, u "BEFORE"), (2, u "AFTER"), (2, u "OPPONENTS"), (2, u "$VALUES"), (0, u "[Lcom/example/rankle/rankle/Limits$Count;"), (6, .class_ 28), (1, u "java/lang/Enum"), (6, .fieldref 1 36), (0, .nameAndType 37 38), (0, u "label"), (0, u "Ljava/lang/String;"), (0, .fieldref 1 40), (0, .nameAndType 41 42), (0, u "min"), (0, u "I"), (0, .fieldref 1 44), (0, .nameAndType 45 42), (0, u "max"), (1, .class_ 49), (1, u "com/example/rankle/rankle/Limits"), (2, .methodref 47 53), (0, .nameAndType 54 55), (0, u "requireCount"), (0, u "(Ljava/lang/String;JII)J"), (29, u "require"), (0, u "(I)I")] 8

def k6c0 : Code := { maxStack := 5, maxLocals := 2, code := prog_7_method_6_code, exceptionTable := #[], attributes := #[] }
def k6m0 : Method := { name := "require", desc := "(I)I", sig := { parameters := [.int], returnType := some .int }, accessFlags := 0, code := some k6c0 }
/-- com/example/rankle/rankle/Limits$Count -/
def k6 : Class := { plain "com/example/rankle/rankle/Limits$Count" (some 5) with
  accessFlags := 16432
  interfaces := #[]
  cf := some (fileOf pool6 1 #[.nestHost 47] #[{ accessFlags := 0, nameIndex := 85, descriptorIndex := 86, attributes := #[] }] 16432 26 #[] #[{ accessFlags := 16409, nameIndex := 5, descriptorIndex := 6, attributes := #[] }, { accessFlags := 16409, nameIndex := 9, descriptorIndex := 6, attributes := #[] }, { accessFlags := 16409, nameIndex := 12, descriptorIndex := 6, attributes := #[] }, { accessFlags := 16409, nameIndex := 15, descriptorIndex := 6, attributes := #[] }, { accessFlags := 18, nameIndex := 37, descriptorIndex := 38, attributes := #[] }, { accessFlags := 18, nameIndex := 41, descriptorIndex := 42, attributes := #[] }, { accessFlags := 18, nameIndex := 45, descriptorIndex := 42, attributes := #[] }, { accessFlags := 4122, nameIndex := 18, descriptorIndex := 19, attributes := #[] }])
  fields := #[{ name := "TOP", type := (.object "com/example/rankle/rankle/Limits$Count"), accessFlags := 16409, slot := 0, constantValue := 0 }, { name := "BEFORE", type := (.object "com/example/rankle/rankle/Limits$Count"), accessFlags := 16409, slot := 1, constantValue := 0 }, { name := "AFTER", type := (.object "com/example/rankle/rankle/Limits$Count"), accessFlags := 16409, slot := 2, constantValue := 0 }, { name := "OPPONENTS", type := (.object "com/example/rankle/rankle/Limits$Count"), accessFlags := 16409, slot := 3, constantValue := 0 }, { name := "label", type := (.object "java/lang/String"), accessFlags := 18, slot := 3, constantValue := 0 }, { name := "min", type := .int, accessFlags := 18, slot := 4, constantValue := 0 }, { name := "max", type := .int, accessFlags := 18, slot := 5, constantValue := 0 }, { name := "$VALUES", type := (.array (.object "com/example/rankle/rankle/Limits$Count")), accessFlags := 4122, slot := 4, constantValue := 0 }]
  methods := #[k6m0]
  instanceTypes := #[(.object "java/lang/String"), .int, .int, (.object "java/lang/String"), .int, .int]
  staticTypes := #[(.object "com/example/rankle/rankle/Limits$Count"), (.object "com/example/rankle/rankle/Limits$Count"), (.object "com/example/rankle/rankle/Limits$Count"), (.object "com/example/rankle/rankle/Limits$Count"), (.array (.object "com/example/rankle/rankle/Limits$Count"))]
  resolved := Array.replicate 95 none
  statics := some 0 }

def pool7 : Array CpInfo := pool [(2, .class_ 4), (1, u "java/lang/Object"), (0, u "<init>"), (0, u "()V"), (0, .class_ 8), (0, u "com/example/rankle/rankle/Limits"), (67, u "requireCount"), (0, u "(Ljava/lang/String;JII)J"), (8, u "MAX_BOARD_LENGTH"), (0, u "I"), (2, u "MAX_PLAYER_LENGTH"), (1, u "BOARD_PUNCTUATION"), (0, u "Ljava/lang/String;"), (0, u "PLAYER_PUNCTUATION"), (11, .class_ 107), (0, u "com/example/rankle/rankle/Limits$Count")] 16

def k7m0 : Method := { name := "<init>", desc := "()V", sig := { parameters := [], returnType := none }, accessFlags := 2, code := none }
def k7c1 : Code := { maxStack := 4, maxLocals := 5, code := prog_6_method_7_code, exceptionTable := #[], attributes := #[] }
def k7m1 : Method := { name := "requireCount", desc := "(Ljava/lang/String;JII)J", sig := { parameters := [(.object "java/lang/String"), .long, .int, .int], returnType := some .long }, accessFlags := 10, code := some k7c1 }
/-- com/example/rankle/rankle/Limits -/
def k7 : Class := { plain "com/example/rankle/rankle/Limits" (some 0) with
  accessFlags := 32
  interfaces := #[]
  cf := some (fileOf pool7 7 #[.nestMembers #[106]] #[{ accessFlags := 2, nameIndex := 5, descriptorIndex := 6, attributes := #[] }, { accessFlags := 10, nameIndex := 76, descriptorIndex := 77, attributes := #[] }] 32 2 #[] #[{ accessFlags := 24, nameIndex := 86, descriptorIndex := 87, attributes := #[] }, { accessFlags := 24, nameIndex := 90, descriptorIndex := 87, attributes := #[] }, { accessFlags := 26, nameIndex := 92, descriptorIndex := 93, attributes := #[] }, { accessFlags := 26, nameIndex := 94, descriptorIndex := 93, attributes := #[] }])
  fields := #[{ name := "MAX_BOARD_LENGTH", type := .int, accessFlags := 24, slot := 0, constantValue := 0 }, { name := "MAX_PLAYER_LENGTH", type := .int, accessFlags := 24, slot := 1, constantValue := 0 }, { name := "BOARD_PUNCTUATION", type := (.object "java/lang/String"), accessFlags := 26, slot := 2, constantValue := 0 }, { name := "PLAYER_PUNCTUATION", type := (.object "java/lang/String"), accessFlags := 26, slot := 3, constantValue := 0 }]
  methods := #[k7m0, k7m1]
  instanceTypes := #[]
  staticTypes := #[.int, .int, (.object "java/lang/String"), (.object "java/lang/String")]
  resolved := Array.replicate 124 none
  statics := none }

def pool8 : Array CpInfo := pool [(2, .class_ 4), (1, u "java/lang/CharSequence"), (42, .class_ 48), (0, u "java/lang/CharSequence$1CodePointIterator"), (10, .class_ 60), (0, u "java/lang/CharSequence$1CharIterator"), (5, .class_ 67), (0, u "java/lang/Object")] 63

/-- java/lang/CharSequence -/
def k8 : Class := { plain "java/lang/CharSequence" (some 0) with
  accessFlags := 1537
  interfaces := #[]
  cf := some (fileOf pool8 2 #[.nestMembers #[47, 59]] #[] 1537 66 #[] #[])
  fields := #[]
  methods := #[]
  instanceTypes := #[]
  staticTypes := #[]
  resolved := Array.replicate 131 none
  statics := none }

def pool9 : Array CpInfo := pool [(1, .class_ 2), (0, u "java/lang/constant/ConstantDesc"), (0, .class_ 4), (0, u "java/lang/Object")] 32

/-- java/lang/constant/ConstantDesc -/
def k9 : Class := { plain "java/lang/constant/ConstantDesc" (some 0) with
  accessFlags := 1537
  interfaces := #[]
  cf := some (fileOf pool9 1 #[] #[] 1537 3 #[] #[])
  fields := #[]
  methods := #[]
  instanceTypes := #[]
  staticTypes := #[]
  resolved := Array.replicate 37 none
  statics := none }

def pool10 : Array CpInfo := pool [(2, .class_ 4), (1, u "java/lang/Object"), (0, u "<init>"), (0, u "()V"), (3, .class_ 12), (1, u "java/lang/String"), (0, u "value"), (0, u "[B"), (2, u "coder"), (0, u "B"), (2, u "hash"), (0, u "I"), (2, u "hashIsZero"), (0, u "Z"), (13, u "COMPACT_STRINGS"), (534, .class_ 576), (0, u "java/lang/CharSequence"), (22, u "CASE_INSENSITIVE_ORDER"), (0, u "Ljava/util/Comparator;"), (500, u "serialPersistentFields"), (0, u "[Ljava/io/ObjectStreamField;"), (0, .class_ 1104), (0, u "java/lang/String$CaseInsensitiveComparator"), (1, .class_ 1107), (0, u "java/io/Serializable"), (0, .class_ 1109), (0, u "java/lang/Comparable"), (0, .class_ 1111), (0, u "java/lang/constant/Constable"), (0, .class_ 1113), (0, u "java/lang/constant/ConstantDesc"), (2, u "serialVersionUID"), (0, u "J"), (3, u "REPL"), (0, u "C"), (2, u "LATIN1"), (1, u "UTF16")] 323

def k10m0 : Method := { name := "<init>", desc := "()V", sig := { parameters := [], returnType := none }, accessFlags := 1, code := none }
/-- java/lang/String -/
def k10 : Class := { plain "java/lang/String" (some 0) with
  accessFlags := 49
  interfaces := #[4, 3, 8, 2, 9]
  cf := some (fileOf pool10 10 #[.nestMembers #[1103]] #[{ accessFlags := 1, nameIndex := 5, descriptorIndex := 6, attributes := #[] }] 49 2 #[1106, 1108, 575, 1110, 1112] #[{ accessFlags := 18, nameIndex := 13, descriptorIndex := 14, attributes := #[] }, { accessFlags := 18, nameIndex := 17, descriptorIndex := 18, attributes := #[] }, { accessFlags := 2, nameIndex := 21, descriptorIndex := 22, attributes := #[] }, { accessFlags := 2, nameIndex := 25, descriptorIndex := 26, attributes := #[] }, { accessFlags := 26, nameIndex := 1116, descriptorIndex := 1117, attributes := #[] }, { accessFlags := 24, nameIndex := 40, descriptorIndex := 26, attributes := #[] }, { accessFlags := 26, nameIndex := 1101, descriptorIndex := 1102, attributes := #[] }, { accessFlags := 26, nameIndex := 1121, descriptorIndex := 1122, attributes := #[] }, { accessFlags := 25, nameIndex := 599, descriptorIndex := 600, attributes := #[] }, { accessFlags := 24, nameIndex := 1125, descriptorIndex := 18, attributes := #[] }, { accessFlags := 24, nameIndex := 1127, descriptorIndex := 18, attributes := #[] }])
  fields := #[{ name := "value", type := (.array .byte), accessFlags := 18, slot := 0, constantValue := 0 }, { name := "coder", type := .byte, accessFlags := 18, slot := 1, constantValue := 0 }, { name := "hash", type := .int, accessFlags := 2, slot := 2, constantValue := 0 }, { name := "hashIsZero", type := .boolean, accessFlags := 2, slot := 3, constantValue := 0 }, { name := "serialVersionUID", type := .long, accessFlags := 26, slot := 0, constantValue := 0 }, { name := "COMPACT_STRINGS", type := .boolean, accessFlags := 24, slot := 1, constantValue := 0 }, { name := "serialPersistentFields", type := (.array (.object "java/io/ObjectStreamField")), accessFlags := 26, slot := 2, constantValue := 0 }, { name := "REPL", type := .char, accessFlags := 26, slot := 3, constantValue := 0 }, { name := "CASE_INSENSITIVE_ORDER", type := (.object "java/util/Comparator"), accessFlags := 25, slot := 4, constantValue := 0 }, { name := "LATIN1", type := .byte, accessFlags := 24, slot := 5, constantValue := 0 }, { name := "UTF16", type := .byte, accessFlags := 24, slot := 6, constantValue := 0 }]
  methods := #[k10m0]
  instanceTypes := #[(.array .byte), .byte, .int, .boolean]
  staticTypes := #[.long, .boolean, (.array (.object "java/io/ObjectStreamField")), .char, (.object "java/util/Comparator"), .byte, .byte]
  resolved := Array.replicate 1451 none
  statics := none }

def pool11 : Array CpInfo := pool [(1, u "java/lang/Cloneable"), (0, .class_ 1), (0, u "java/lang/Object"), (0, .class_ 3)] 3

/-- java/lang/Cloneable -/
def k11 : Class := { plain "java/lang/Cloneable" (some 0) with
  accessFlags := 1537
  interfaces := #[]
  cf := some (fileOf pool11 2 #[] #[] 1537 4 #[] #[])
  fields := #[]
  methods := #[]
  instanceTypes := #[]
  staticTypes := #[]
  resolved := Array.replicate 8 none
  statics := none }

/-- the primitive byte -/
def k12 : Class := { plain "byte" none with kind := .primitive 'B', accessFlags := 0x411 }
/-- [B -/
def k13 : Class := { plain "[B" (some 0) with kind := .array 12 .byte, interfaces := #[11, 4], accessFlags := 1041 }

/-- the primitive int -/
def k14 : Class := { plain "int" none with kind := .primitive 'I', accessFlags := 0x411 }
/-- [I -/
def k15 : Class := { plain "[I" (some 0) with kind := .array 14 .int, interfaces := #[11, 4], accessFlags := 1041 }

def heap : Heap := #[{ cls := 6, slots := #[.ref 2, .ref 3, .ref 4, .ref 5, .null], vm := .statics 6 },
  { cls := 10, slots := #[.null, .int 0, .int 0, .int 0], vm := .none },
  { cls := 6, slots := #[.null, .int 0, .int 0, .ref 1, .int 1, .int 1000], vm := .none },
  { cls := 6, slots := #[.null, .int 0, .int 0, .ref 1, .int 0, .int 100], vm := .none },
  { cls := 6, slots := #[.null, .int 0, .int 0, .ref 1, .int 0, .int 100], vm := .none },
  { cls := 6, slots := #[.null, .int 0, .int 0, .ref 1, .int 1, .int 10000], vm := .none }]
def classes : Array Class := #[k0, k1, k2, k3, k4, k5, k6, k7, k8, k9, k10, k11, k12, k13, k14, k15]
def interned : List (Array UInt16 × Addr) := []
def slotsUsed : Nat := 33
def theMethod : MethodId := ⟨1, 1⟩
def args0 : Array Value := #[.int 5, .int 5, .int 5]
def aboutOver (below : List Frame) : State where
  vm := { classes := classes, interned := interned.toArray }
  heap := heap
  slotsUsed := slotsUsed
  threads := #[{ frames := .invoking theMethod args0 :: below }]
def below0 : List Frame := [.native { method := ⟨0, 0⟩, args := #[] }]
def about1 : State := aboutOver below0
def p0 : Program := .bare "" "" ""
def e0 : Env := launch0.env 0 0 0
theorem w_frames : about1.frames = Frame.invoking theMethod args0 :: below0 := rfl
set_option maxRecDepth 65536 in
theorem w_args : argsFit about1.vm theMethod args0 = true := by decide +kernel
set_option maxRecDepth 65536 in
theorem w_heap : heapFits about1 = true := by decide +kernel
set_option maxRecDepth 65536 in
theorem w_runnable : about1.curStatus? = some .runnable := by decide +kernel
set_option maxRecDepth 65536 in
theorem w_alone : about1.alone = true := by decide +kernel
set_option maxRecDepth 65536 in
theorem w_named : about1.methodNamed? x = some theMethod := by decide +kernel
set_option maxRecDepth 65536 in
theorem w_hears : about1.hears theMethod below0 = true := by decide +kernel
set_option maxRecDepth 65536 in
theorem w_ripe : about1.ripe theMethod args0 below0 = true := by decide +kernel
theorem w_running : about1.status = .running := rfl
set_option maxRecDepth 65536 in
theorem w_room : about1.hasRoom e0.platform room_1 = true :=
  launch0.hasRoom_least _ room_1 (by decide +kernel) (by decide +kernel) (by decide +kernel) (by decide +kernel) (by decide +kernel) (by decide +kernel)
theorem allAtoms_all (ts : List Jvm.Cond) (a : Array Jvm.Value) (st : Jvm.State) : (allAtoms ts).before a st = ts.all (fun c => c.before a st) := by
  induction ts with
  | nil => rfl
  | cons c t ih =>
    show (Jvm.Cond.and c (allAtoms t)).before a st = _
    rw [Jvm.Cond.before_and, ih, List.all_cons]
def words1 : List Jvm.Cond := Jvm.Cond.code x code maxLocals ret :: tables_1
/-- a 'code' word, met by the world's own term for the bytes: nothing is compared byte by byte -/
theorem code_word {y : MethodName} {bytes : ByteArray} {mx : Nat} {rt : Option FieldType} {a : Array Value} {s : State} {m : MethodId} {meth : Method} {c : Code} (h1 : s.methodNamed? y = some m) (h2 : s.vm.method? m = some meth) (h3 : meth.code = some c) (h4 : c.code = bytes)
    (h5 : (c.maxLocals == mx && c.exceptionTable.isEmpty && decide (c.maxStack ≤ mostOperands) && decide (meth.sig.returnType = rt) && !meth.locks && decide (parseMethodDescriptor y.desc = some meth.sig)) = true) : (Jvm.Cond.code y bytes mx rt).before a s = true := by
  simp only [Bool.and_eq_true, beq_iff_eq, Bool.not_eq_true', decide_eq_true_eq] at h5
  obtain ⟨⟨⟨⟨⟨g1, g2⟩, g3⟩, g4⟩, g5⟩, g6⟩ := h5
  simp [Cond.before, Cond.holds, Cond.value, h1, h2, h3, h4, g1, g2, g3, g4, g5, g6]
def isCode : Jvm.Cond → Bool
  | .code _ _ _ _ => true
  | _ => false
theorem all_split {L : List Jvm.Cond} {P : Jvm.Cond → Bool} (h1 : L.all (fun c => isCode c || P c) = true) (h2 : ∀ c ∈ L.filter isCode, P c = true) : L.all P = true := by
  refine List.all_eq_true.mpr fun c hc => ?_
  have h := List.all_eq_true.mp h1 c hc
  rcases Bool.eq_false_or_eq_true (isCode c) with hi | hi
  · exact h2 c (List.mem_filter.mpr ⟨hc, hi⟩)
  · simpa [hi] using h
set_option maxRecDepth 65536 in
theorem w_c0 : (Jvm.Cond.code x code maxLocals ret).before args0 about1 = true := code_word (m := ⟨1, 1⟩) (meth := k1m1) (c := k1c1) (by decide +kernel) rfl rfl rfl (by decide +kernel)
set_option maxRecDepth 65536 in
theorem w_c1 : (Jvm.Cond.code ({ cls := "com/example/rankle/rankle/Limits$Count", name := "require", desc := "(I)I" } : Jvm.MethodName) prog_7_method_6_code (2 : Nat) (Option.some Jvm.ClassFile.FieldType.int)).before args0 about1 = true := code_word (m := ⟨6, 0⟩) (meth := k6m0) (c := k6c0) (by decide +kernel) rfl rfl rfl (by decide +kernel)
set_option maxRecDepth 65536 in
theorem w_c2 : (Jvm.Cond.code ({ cls := "com/example/rankle/rankle/Limits", name := "requireCount", desc := "(Ljava/lang/String;JII)J" } : Jvm.MethodName) prog_6_method_7_code (5 : Nat) (Option.some Jvm.ClassFile.FieldType.long)).before args0 about1 = true := code_word (m := ⟨7, 1⟩) (meth := k7m1) (c := k7c1) (by decide +kernel) rfl rfl rfl (by decide +kernel)
def codes1 : List Jvm.Cond := [Jvm.Cond.code x code maxLocals ret, Jvm.Cond.code ({ cls := "com/example/rankle/rankle/Limits$Count", name := "require", desc := "(I)I" } : Jvm.MethodName) prog_7_method_6_code (2 : Nat) (Option.some Jvm.ClassFile.FieldType.int), Jvm.Cond.code ({ cls := "com/example/rankle/rankle/Limits", name := "requireCount", desc := "(Ljava/lang/String;JII)J" } : Jvm.MethodName) prog_6_method_7_code (5 : Nat) (Option.some Jvm.ClassFile.FieldType.long)]
set_option maxRecDepth 65536 in
theorem codes_eq : words1.filter isCode = codes1 := rfl
theorem w_codes : ∀ c ∈ words1.filter isCode, c.before args0 about1 = true := by
  rw [codes_eq]
  intro c hc
  simp only [codes1, List.mem_cons, List.not_mem_nil, or_false] at hc
  rcases hc with rfl | rfl | rfl
  · exact w_c0
  · exact w_c1
  · exact w_c2
set_option maxRecDepth 65536 in
theorem w_t1 : (words1.take 24).all (fun c => isCode c || c.before args0 about1) = true := by decide +kernel
set_option maxRecDepth 65536 in
theorem w_t2 : (words1.drop 24).all (fun c => isCode c || c.before args0 about1) = true := by decide +kernel
theorem w_tables : (allAtoms (Jvm.Cond.code x code maxLocals ret :: tables_1)).before args0 about1 = true := by
  rw [allAtoms_all]
  show words1.all (fun c => c.before args0 about1) = true
  refine all_split ?_ w_codes
  rw [← List.take_append_drop 24 words1, List.all_append, w_t1, w_t2]
  rfl
set_option maxRecDepth 65536 in
theorem w_case : (Jvm.Cond.and given_1 narrow_1).before args0 about1 = true := by decide +kernel
theorem w_applies : (headSpec (Jvm.Cond.code x code maxLocals ret :: tables_1) room_1).applies x e0.platform about1 = true :=
  (Spec.applies_iff w_frames).mpr ⟨w_running, w_runnable, w_alone, w_named, w_hears, w_ripe, w_room, w_tables⟩
theorem atStart : AtStart classFile x code maxLocals ret World_1 tables_1 room_1 Calls_1 rest_1 Pre_1 launch0 p0 e0 about1 theMethod args0 below0 :=
  ⟨lists_1, trivial, launch0.admits_env _ _ _, launch0.least_env, fairChoices_fair.cas, fairChoices_fair.clock, w_frames, w_args, w_heap, w_applies, trivial, trivial, w_case⟩
end start1
theorem witness_1 : WitnessClaimed_1 := ⟨start1.p0, start1.e0, start1.about1, start1.theMethod, start1.args0, start1.below0, start1.atStart⟩
end Jvm.Pilot.@@N@@
