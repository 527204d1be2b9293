import JvmDerived
import JvmDerived.Pilot.@@N@@Statement
import JvmDerived.Pilot.@@N@@Code
set_option linter.unusedVariables false
set_option linter.unusedSimpArgs false
namespace Jvm.RoadKit
open Sem ClassFile Op Lib Jvm.Stand Jvm.Free Jvm.LawKit
section New
variable {p : Program} {l : Launch} {e : Env} {R : Room} {s : State} {m : MethodId} {args : Array Value} {below : List Frame} {meth : Method} {c : Code} {T : State} {locs : List Loc} {cells slots : Nat}
theorem retI (X : Stand p l e R s m args below meth c T locs cells slots) (hx : p.tables.exec = Jvm.exec) {pc : Nat} {Ls : Array Slot} {z : Int32} {rest : List Value} (hret : meth.sig.returnType = some .int) (hd : decode c.code pc = .ok (.ireturn, 1)) {fs : List Frame}
    (hl : ∀ (f : JFrame) (acts : List Action), f.method = m → f.locked = none → f.entered = [] → (doReturn e (T.setTop f) acts (some (.int z))).1 = T.setFrames fs) : Steps p.tables e below (T.setTop (mkF m pc Ls (.int z :: rest))) (T.setFrames fs) := by
  have hm' : T.vm.method? m = some meth := X.method'
  have hn : narrow .int (.int z) = .int z := rfl
  show Steps p.tables e below (T.setTop { method := m, pc := pc, locals := Ls, stack := _ :: rest, locked := none }) _
  jvm_step X.here [X.here.top, hx, hd, hm', hret, hn]
  first | (intro acts; rw [hl _ acts rfl rfl rfl]) | rw [hl _ _ rfl rfl rfl]
  exact Steps.refl _
end New
end Jvm.RoadKit
namespace Jvm.Pilot.@@N@@
open Jvm Jvm.ClassFile Sem Op Lib Jvm.Free Jvm.Stand Jvm.LawKit Jvm.RoadKit Bundle Jvm.Pilot.@@N@@.Jvm.D
abbrev OwnG (tb : Tables) (e : Env) (below : List Frame) (R : State → Outcome → Prop) (cur : State) : Prop := ∃ s₂ o, Steps tb e below cur s₂ ∧ R s₂ o
theorem own_go {tb : Tables} {e : Env} {below : List Frame} {R : State → Outcome → Prop} {cur nxt : State} (h : ∀ t, Steps tb e below nxt t → Steps tb e below cur t) (k : OwnG tb e below R nxt) : OwnG tb e below R cur := by
  obtain ⟨s₂, o, h1, h2⟩ := k
  exact ⟨s₂, o, h _ h1, h2⟩
theorem own_pick {α : Type} (c : Prop) (a b : α) : ∃ z : α, (c → z = a) ∧ (¬ c → z = b) := by
  by_cases h : c
  · exact ⟨a, fun _ => rfl, fun q => absurd h q⟩
  · exact ⟨b, fun q => absurd q h, fun _ => rfl⟩
theorem own_ne_or {a d x n : Nat} (h : x = d ∨ n ≤ x) (h1 : a ≠ d) (h2 : a < n) : a ≠ x := by
  rcases h with h | h <;> omega
theorem own_ge_or {d x n k : Nat} (h : x = d ∨ n ≤ x) (h1 : k ≤ d) (h2 : k ≤ n) : k ≤ x := by
  rcases h with h | h <;> omega
theorem own_in_or {d x n k : Nat} {ws : List Nat} (h : x = d ∨ n ≤ x) (h1 : d ∈ ws) (h2 : k ≤ n) : x ∈ ws ∨ k ≤ x := by
  rcases h with rfl | h
  · exact Or.inl h1
  · exact Or.inr (Nat.le_trans h2 h)
theorem own_iw_or {d x n k : Nat} {ws : List Nat} (h : x = d ∨ n ≤ x) (h1 : d ∈ ws ∨ k ≤ d) (h2 : k ≤ n) : x ∈ ws ∨ k ≤ x := by
  rcases h with rfl | h
  · exact h1
  · exact Or.inr (Nat.le_trans h2 h)
section OwnStat
variable {args : Array Value} {s : State} {t u w : Term} {a b : Addr} {cl : Cell} {ty : FieldType}
theorem own_eqI {v : Int32} (h : (Cond.eq t (.int v)).value args s none s [] = some true) : t.eval args s none [] s = some (.int v) := by
  cases hx : t.eval args s none [] s with
  | none => simp [Cond.value, Term.eval, hx] at h
  | some y => cases y <;> simp [Cond.value, Term.eval, hx] at h; rw [h]
theorem own_eqJ {v : Int64} (h : (Cond.eq t (.long v)).value args s none s [] = some true) : t.eval args s none [] s = some (.long v) := by
  cases hx : t.eval args s none [] s with
  | none => simp [Cond.value, Term.eval, hx] at h
  | some y => cases y <;> simp [Cond.value, Term.eval, hx] at h; rw [h]
theorem own_eqR (h : (Cond.eq t u).value args s none s [] = some true) (hu : u.eval args s none [] s = some (.ref b)) : t.eval args s none [] s = some (.ref b) := by
  cases hx : t.eval args s none [] s with
  | none => simp [Cond.value, hu, hx] at h
  | some y => cases y <;> simp [Cond.value, hu, hx] at h; rw [h]
theorem own_neI {i v : Int32} (h : (Cond.not (.eq t (.int v))).value args s none s [] = some true) (ev : t.eval args s none [] s = some (.int i)) : i ≠ v := by
  intro e
  subst e
  simp [Cond.value, ev, Term.eval] at h
theorem own_len {n : Int32} (ev : t.eval args s none [] s = some (.ref a)) (A : Arr s s.heap a cl ty) (h : (Cond.eq (.length t) (.int n)).value args s none s [] = some true) : cl.slots.size < 2 ^ 31 ∧ cl.slots.size.toInt32 = n := by
  have e := own_eqI h
  have hA : s.arrayAt? a = some cl := A.fin (Vm.Alike.refl _)
  by_cases q : cl.slots.size < 2 ^ 31
  · rw [len_f ev hA q] at e
    exact ⟨q, by cases e; rfl⟩
  · simp [Term.eval, ev, hA, q] at e
theorem own_elem {j : Int32} {v : Value} (hj : ¬ j < 0) (ev : t.eval args s none [] s = some (.ref a)) (A : Arr s s.heap a cl ty) (h : (Term.elem t (.int j)).eval args s none [] s = some v) : cl.slots[j.toNatClampNeg]? = some v := by
  rw [elem_f (a := .int j) ev rfl (A.fin (Vm.Alike.refl _)) hj] at h; exact h
theorem own_fld {C n d : String} {v : Value} (ev : t.eval args s none [] s = some (.ref a)) (h : (Term.field t C n d).eval args s none [] s = some v) : Fld s s.heap a C n d v :=
  Fld.start (by rw [← fld_at ev]; exact h)
end OwnStat

theorem own_bits (p : Int32) : (p &&& 3 = 0 ∧ p &&& 1 = 0 ∧ p &&& 2 = 0) ∨ (p &&& 3 = 1 ∧ p &&& 1 = 1 ∧ p &&& 2 = 0) ∨ (p &&& 3 = 2 ∧ p &&& 1 = 0 ∧ p &&& 2 = 2) ∨ (p &&& 3 = 3 ∧ p &&& 1 = 1 ∧ p &&& 2 = 2) := by
  have e1 : p &&& 1 = (p &&& 3) &&& 1 := by rw [Int32.and_assoc]; rfl
  have e2 : p &&& 2 = (p &&& 3) &&& 2 := by rw [Int32.and_assoc]; rfl
  rw [e1, e2]
  have h := c_mask p 3 2 (by decide) rfl
  have k : (p &&& 3).toInt = 0 ∨ (p &&& 3).toInt = 1 ∨ (p &&& 3).toInt = 2 ∨ (p &&& 3).toInt = 3 := by rw [h]; omega
  rcases k with k | k | k | k
  · have q : p &&& 3 = 0 := Int32.toInt_inj.mp k
    rw [q]; exact Or.inl ⟨rfl, rfl, rfl⟩
  · have q : p &&& 3 = 1 := Int32.toInt_inj.mp k
    rw [q]; exact Or.inr (Or.inl ⟨rfl, rfl, rfl⟩)
  · have q : p &&& 3 = 2 := Int32.toInt_inj.mp k
    rw [q]; exact Or.inr (Or.inr (Or.inl ⟨rfl, rfl, rfl⟩))
  · have q : p &&& 3 = 3 := Int32.toInt_inj.mp k
    rw [q]; exact Or.inr (Or.inr (Or.inr ⟨rfl, rfl, rfl⟩))
theorem own_ef0 (m : MethodId) (a1 : Addr) : entryFrame m #[(.ref a1)] 1 = mkF m 0 #[.val (.ref a1)] [] := by first | (simp [entryFrame, mkF, argsToLocals, Value.category]; done) | rfl
theorem own_pn1 : plainName "java/util/Objects" = true := by first | (simp [plainName, overriddenIn]; done) | decide +kernel
theorem own_d2 : decode jdk_31_method_10_code 0 = .ok (.aload_n 0, 1) := by decide +kernel
theorem own_d3 : decode jdk_31_method_10_code 1 = .ok (.ifnonnull 11, 3) := by decide +kernel
theorem own_d4 : decode jdk_31_method_10_code 12 = .ok (.aload_n 0, 1) := by decide +kernel
theorem own_d5 : decode jdk_31_method_10_code 13 = .ok (.areturn, 1) := by decide +kernel
def Q_own_rnn (Z : State) (a1 : Addr) (h0 : Heap) (n0 : Nat) (v : Option Value) (h : Heap) (L : List Loc) : Prop := v = some (.ref a1) ∧ Fr n0 L ∧ h = h0
set_option maxRecDepth 65536 in
set_option maxHeartbeats 40000000 in
theorem own_rnn (l : Launch) (Z : State) (a0 : Array Value) (hw : ∀ d ∈ tables_1, d.before a0 Z = true) (ws : List Jvm.Cond) (a1 : Addr) (h0 : Heap) (n0 : Nat) (Z0 : n0 ≤ h0.size) :
    MetFree l (⟨"java/util/Objects", "requireNonNull", "(Ljava/lang/Object;)Ljava/lang/Object;"⟩ : MethodName) (head1 (Jvm.Cond.code (⟨"java/util/Objects", "requireNonNull", "(Ljava/lang/Object;)Ljava/lang/Object;"⟩ : MethodName) jdk_31_method_10_code 1 (some (.object "java/lang/Object")) :: ws) ({ frames := 0, cells := 0, slots := 0, locals := 0 } : Room)) (fun a U => a = #[(.ref a1)] ∧ Z.Warmed39 U.vm ∧ U.heap = h0) (fun _ _ _ _ _ => True) (fun _ U o U' => ∃ v L, o = .returned v ∧ Q_own_rnn Z a1 h0 n0 v U'.heap L ∧ FrameEnd U o U' L ({ frames := 0, cells := 0, slots := 0, locals := 0 } : Room).cells ({ frames := 0, cells := 0, slots := 0, locals := 0 } : Room).slots) := by
  refine MetFree.of_bodySF (plainFor_of_name own_pn1) hisR ?_
  intro p e s m args below meth c s₁ Bd hml0 hP hK
  obtain ⟨rfl, hZ, hh⟩ := hP
  have hx := Bd.exec
  have hby := Bd.bytes
  have hml : c.maxLocals = 1 := hml0
  have hown : s.vm.findClass "java/util/Objects" = some m.cls := findClass_of_methodNamed Bd.named
  have hnm := (name_of_methodNamed Bd.named Bd.method).1
  have X0 : Stand p l e ({ frames := 0, cells := 0, slots := 0, locals := 0 } : Room) s m #[(.ref a1)] below meth c s₁ [] 0 0 := Stand.of_body Bd
  have e0 : s₁.heap = h0 := by rw [← hh, Bd.state]; rfl
  have N0 := Fr.nil n0
  have K0 := Keep.refl h0 []
  refine own_go (fun t k => castTop (own_ef0 m a1) k) ?_
  show OwnG p.tables e below _ (s₁.setTop (mkF m 0 #[.val (.ref a1)] []))
  refine own_go (fun t k => XS.aloadN X0.here hx rfl (hb hby own_d2) rfl rfl k) ?_
  show OwnG p.tables e below _ (s₁.setTop (mkF m 1 #[.val (.ref a1)] [(.ref a1)]))
  refine own_go (fun t k => XS.ifnonnullYes X0.here hx rfl (pc0 := 1) (pc' := 12) rfl (hb hby own_d3) rfl (by decide) (by decide) k) ?_
  show OwnG p.tables e below _ (s₁.setTop (mkF m 12 #[.val (.ref a1)] []))
  refine own_go (fun t k => XS.aloadN X0.here hx rfl (hb hby own_d4) rfl rfl k) ?_
  show OwnG p.tables e below _ (s₁.setTop (mkF m 13 #[.val (.ref a1)] [(.ref a1)]))
  obtain ⟨fs, hr, hrun, hended, hW, hsame⟩ := X0.leave (v := some (.ref a1)) (fun h => by rw [Bd.returns] at h; cases h)
  have hlast : Steps p.tables e below (s₁.setTop (mkF m 13 #[.val (.ref a1)] [(.ref a1)])) (s₁.setFrames fs) := by
    exact retOut X0 hx (t := (.object "java/lang/Object")) Bd.returns rfl (Or.inr (Or.inr (Or.inr (Or.inr ⟨rfl, rfl, rfl⟩)))) (hb hby own_d5) hr
  refine ⟨_, _, hlast, hrun, hended, _, _, rfl, ?_, ⟨_, rfl⟩, hW, hsame.mono (by decide) (by decide)⟩
  show Q_own_rnn Z a1 h0 n0 _ s₁.heap _
  rw [e0]
  exact ⟨rfl, N0, rfl⟩
theorem own_ef6 (m : MethodId) (a1 : Addr) (a2 : Addr) : entryFrame m #[(.ref a1), (.ref a2)] 2 = mkF m 0 #[.val (.ref a1), .val (.ref a2)] [] := by first | (simp [entryFrame, mkF, argsToLocals, Value.category]; done) | rfl
theorem own_pn7 : plainName "java/util/Optional" = true := by first | (simp [plainName, overriddenIn]; done) | decide +kernel
theorem own_d8 : decode jdk_32_method_2_code 0 = .ok (.aload_n 0, 1) := by decide +kernel
theorem own_d9 : decode jdk_32_method_2_code 1 = .ok (.invokespecial 7, 3) := by decide +kernel
theorem own_d10 : decode jdk_32_method_2_code 4 = .ok (.aload_n 0, 1) := by decide +kernel
theorem own_d11 : decode jdk_32_method_2_code 5 = .ok (.aload_n 1, 1) := by decide +kernel
theorem own_d12 : decode jdk_32_method_2_code 6 = .ok (.putfield 13, 3) := by decide +kernel
theorem own_d13 : decode jdk_32_method_2_code 9 = .ok (.return_, 1) := by decide +kernel
def Q_own_init (Z : State) (a1 : Addr) (a2 : Addr) (h0 : Heap) (n0 : Nat) (v : Option Value) (h : Heap) (L : List Loc) : Prop := v = none ∧ Fr n0 L ∧ Keep h0 h [a1] ∧ Exa Z h a1 "java/util/Optional" ∧ Fld Z h a1 "java/util/Optional" "value" "Ljava/lang/Object;" (.ref a2)
set_option maxRecDepth 65536 in
set_option maxHeartbeats 40000000 in
theorem own_init (l : Launch) (Z : State) (a0 : Array Value) (hw : ∀ d ∈ tables_1, d.before a0 Z = true) (ws : List Jvm.Cond) (a1 : Addr) (a2 : Addr) (h0 : Heap) (n0 : Nat) (Z0 : n0 ≤ h0.size) (f0_0 : Exa Z h0 a1 "java/util/Optional") (f0_1 : Fld Z h0 a1 "java/util/Optional" "value" "Ljava/lang/Object;" .null) (g_a1 : n0 ≤ a1) :
    MetFree l (⟨"java/util/Optional", "<init>", "(Ljava/lang/Object;)V"⟩ : MethodName) (head1 (Jvm.Cond.code (⟨"java/util/Optional", "<init>", "(Ljava/lang/Object;)V"⟩ : MethodName) jdk_32_method_2_code 2 none :: ws) ({ frames := 1, cells := 0, slots := 0, locals := 12 } : Room)) (fun a U => a = #[(.ref a1), (.ref a2)] ∧ Z.Warmed39 U.vm ∧ U.heap = h0) (fun _ _ _ _ _ => True) (fun _ U o U' => ∃ v L, o = .returned v ∧ Q_own_init Z a1 a2 h0 n0 v U'.heap L ∧ FrameEnd U o U' L ({ frames := 1, cells := 0, slots := 0, locals := 12 } : Room).cells ({ frames := 1, cells := 0, slots := 0, locals := 12 } : Room).slots) := by
  refine MetFree.of_bodySF (plainFor_of_name own_pn7) hisR ?_
  intro p e s m args below meth c s₁ Bd hml0 hP hK
  obtain ⟨rfl, hZ, hh⟩ := hP
  have hx := Bd.exec
  have hby := Bd.bytes
  have hml : c.maxLocals = 2 := hml0
  have hown : s.vm.findClass "java/util/Optional" = some m.cls := findClass_of_methodNamed Bd.named
  have hnm := (name_of_methodNamed Bd.named Bd.method).1
  have X0 : Stand p l e ({ frames := 1, cells := 0, slots := 0, locals := 12 } : Room) s m #[(.ref a1), (.ref a2)] below meth c s₁ [] 0 0 := Stand.of_body Bd
  have e0 : s₁.heap = h0 := by rw [← hh, Bd.state]; rfl
  have N0 := Fr.nil n0
  have K0 := Keep.refl h0 [a1]
  refine own_go (fun t k => castTop (own_ef6 m a1 a2) k) ?_
  show OwnG p.tables e below _ (s₁.setTop (mkF m 0 #[.val (.ref a1), .val (.ref a2)] []))
  refine own_go (fun t k => XS.aloadN X0.here hx rfl (hb hby own_d8) rfl rfl k) ?_
  show OwnG p.tables e below _ (s₁.setTop (mkF m 1 #[.val (.ref a1), .val (.ref a2)] [(.ref a1)]))
  obtain ⟨T1, X1, e1, st1⟩ := initO X0 hx hZ hown (hw _ (List.mem_of_getElem? (i := 39) rfl)) (hw _ (List.mem_of_getElem? (i := 40) rfl)) (hw _ (List.mem_of_getElem? (i := 41) rfl)) e0 (g := (mkF m 1 #[.val (.ref a1), .val (.ref a2)] [(.ref a1)])) rfl (by rw [hml]; rfl) rfl (hb hby own_d9) (by decide) (W := 0) (by show 2 * 0 + _ ≤ _; exact Nat.le_of_eq rfl) (by decide)
  refine own_go (fun t k => st1 t k) ?_
  show OwnG p.tables e below _ (T1.setTop (mkF m 4 #[.val (.ref a1), .val (.ref a2)] []))
  refine own_go (fun t k => XS.aloadN X1.here hx rfl (hb hby own_d10) rfl rfl k) ?_
  show OwnG p.tables e below _ (T1.setTop (mkF m 5 #[.val (.ref a1), .val (.ref a2)] [(.ref a1)]))
  refine own_go (fun t k => XS.aloadN X1.here hx rfl (hb hby own_d11) rfl rfl k) ?_
  show OwnG p.tables e below _ (T1.setTop (mkF m 6 #[.val (.ref a1), .val (.ref a2)] [(.ref a2), (.ref a1)]))
  obtain ⟨T2, h2, X2, e2, W2, st2⟩ := putF X1 hx hZ hown (host := "") (Or.inl (hw _ (List.mem_of_getElem? (i := 23) rfl))) Via.refl e1 f0_1 f0_0 (Or.inr ⟨(hw _ (List.mem_of_getElem? (i := 24) rfl)), rfl, hnm⟩) (hw _ (List.mem_of_getElem? (i := 30) rfl)) (ty := (.object "java/lang/Object")) (by decide) rfl rfl (g := (mkF m 6 #[.val (.ref a1), .val (.ref a2)] [(.ref a2), (.ref a1)])) rfl rfl (hb hby own_d12)
  have F3 : Exa Z h2 a1 "java/util/Optional" := f0_0.wr W2
  have F4 : Fld Z h2 a1 "java/util/Optional" "value" "Ljava/lang/Object;" (.ref a2) := f0_1.same W2
  have N5 := Fr.snoc X2 N0 g_a1
  have K5 : Keep h0 h2 [a1] := K0.wr W2 (Or.inl (List.mem_of_getElem? (i := 0) rfl))
  have Z5 : n0 ≤ h2.size := Nat.le_trans Z0 (Keep.of_wr W2).1
  refine own_go (fun t k => st2 t k) ?_
  show OwnG p.tables e below _ (T2.setTop (mkF m 9 #[.val (.ref a1), .val (.ref a2)] []))
  obtain ⟨fs, hr, hrun, hended, hW, hsame⟩ := X2.leave (v := none) (fun _ => rfl)
  refine ⟨_, _, X2.returnOut hx Bd.returns (hb hby own_d13) hr, hrun, hended, _, _, rfl, ?_, ⟨_, rfl⟩, hW, hsame.mono (by decide) (by decide)⟩
  show Q_own_init Z a1 a2 h0 n0 _ T2.heap _
  rw [e2]
  exact ⟨rfl, N5, K5, F3, F4⟩
theorem own_ef14 (m : MethodId) (a1 : Addr) : entryFrame m #[(.ref a1)] 1 = mkF m 0 #[.val (.ref a1)] [] := by first | (simp [entryFrame, mkF, argsToLocals, Value.category]; done) | rfl
theorem own_d15 : decode jdk_32_method_3_code 0 = .ok (.new 2, 3) := by decide +kernel
theorem own_d16 : decode jdk_32_method_3_code 3 = .ok (.dup, 1) := by decide +kernel
theorem own_d17 : decode jdk_32_method_3_code 4 = .ok (.aload_n 0, 1) := by decide +kernel
theorem own_d18 : decode jdk_32_method_3_code 5 = .ok (.invokestatic 17, 3) := by decide +kernel
theorem own_pd19 : parseMethodDescriptor "(Ljava/lang/Object;)Ljava/lang/Object;" = some ⟨[(.object "java/lang/Object")], some (.object "java/lang/Object")⟩ := by decide +kernel
theorem own_d20 : decode jdk_32_method_3_code 8 = .ok (.invokespecial 23, 3) := by decide +kernel
theorem own_pd21 : parseMethodDescriptor "(Ljava/lang/Object;)V" = some ⟨[(.object "java/lang/Object")], none⟩ := by decide +kernel
theorem own_d22 : decode jdk_32_method_3_code 11 = .ok (.areturn, 1) := by decide +kernel
def Q_own_of (Z : State) (a1 : Addr) (h0 : Heap) (n0 : Nat) (v : Option Value) (h : Heap) (L : List Loc) : Prop := ∃ bv : Addr, v = some (.ref bv) ∧ Fr n0 L ∧ Keep h0 h [] ∧ Exa Z h bv "java/util/Optional" ∧ Fld Z h bv "java/util/Optional" "value" "Ljava/lang/Object;" (.ref a1)
set_option maxRecDepth 65536 in
set_option maxHeartbeats 40000000 in
theorem own_of (l : Launch) (Z : State) (a0 : Array Value) (hw : ∀ d ∈ tables_1, d.before a0 Z = true) (ws : List Jvm.Cond) (a1 : Addr) (h0 : Heap) (n0 : Nat) (Z0 : n0 ≤ h0.size) :
    MetFree l (⟨"java/util/Optional", "of", "(Ljava/lang/Object;)Ljava/util/Optional;"⟩ : MethodName) (head1 (Jvm.Cond.code (⟨"java/util/Optional", "of", "(Ljava/lang/Object;)Ljava/util/Optional;"⟩ : MethodName) jdk_32_method_3_code 1 (some (.object "java/util/Optional")) :: ws) ({ frames := 2, cells := 1, slots := 1, locals := 26 } : Room)) (fun a U => a = #[(.ref a1)] ∧ Z.Warmed39 U.vm ∧ U.heap = h0) (fun _ _ _ _ _ => True) (fun _ U o U' => ∃ v L, o = .returned v ∧ Q_own_of Z a1 h0 n0 v U'.heap L ∧ FrameEnd U o U' L ({ frames := 2, cells := 1, slots := 1, locals := 26 } : Room).cells ({ frames := 2, cells := 1, slots := 1, locals := 26 } : Room).slots) := by
  refine MetFree.of_bodySF (plainFor_of_name own_pn7) hisR ?_
  intro p e s m args below meth c s₁ Bd hml0 hP hK
  obtain ⟨rfl, hZ, hh⟩ := hP
  have hx := Bd.exec
  have hby := Bd.bytes
  have hml : c.maxLocals = 1 := hml0
  have hown : s.vm.findClass "java/util/Optional" = some m.cls := findClass_of_methodNamed Bd.named
  have hnm := (name_of_methodNamed Bd.named Bd.method).1
  have X0 : Stand p l e ({ frames := 2, cells := 1, slots := 1, locals := 26 } : Room) s m #[(.ref a1)] below meth c s₁ [] 0 0 := Stand.of_body Bd
  have e0 : s₁.heap = h0 := by rw [← hh, Bd.state]; rfl
  have N0 := Fr.nil n0
  have K0 := Keep.refl h0 []
  refine own_go (fun t k => castTop (own_ef14 m a1) k) ?_
  show OwnG p.tables e below _ (s₁.setTop (mkF m 0 #[.val (.ref a1)] []))
  obtain ⟨T1, h1, X1, e1, E1, A1, D1, -, st1⟩ := newO X0 hx hZ hown (hw _ (List.mem_of_getElem? (i := 29) rfl)) (hw _ (List.mem_of_getElem? (i := 30) rfl)) (hw _ (List.mem_of_getElem? (i := 15) rfl)) e0 (g := (mkF m 0 #[.val (.ref a1)] [])) rfl (hb hby own_d15) (by decide) (by decide)
  obtain ⟨b1, g1⟩ : ∃ z, z = h0.size := ⟨_, rfl⟩
  rw [← g1] at A1 D1 st1
  have g_b1 : n0 ≤ b1 := Nat.le_trans Z0 (Nat.le_of_eq g1.symm)
  have sz_b1 : h0.size ≤ b1 := Nat.le_trans K0.1 (Nat.le_of_eq g1.symm)
  have K2 : Keep h0 h1 [] := K0.ext E1
  have Z2 : n0 ≤ h1.size := Nat.le_trans Z0 E1.1
  have F3 : Fld Z h1 b1 "java/util/Optional" "value" "Ljava/lang/Object;" .null := D1 (Or.inr (hw _ (List.mem_of_getElem? (i := 24) rfl))) (ty := (.object "java/lang/Object")) (by decide)
  refine own_go (fun t k => st1 t k) ?_
  show OwnG p.tables e below _ (T1.setTop (mkF m 3 #[.val (.ref a1)] [(.ref b1)]))
  refine own_go (fun t k => XS.dup X1.here hx rfl (hb hby own_d16) rfl rfl k) ?_
  show OwnG p.tables e below _ (T1.setTop (mkF m 4 #[.val (.ref a1)] [(.ref b1), (.ref b1)]))
  refine own_go (fun t k => XS.aloadN X1.here hx rfl (hb hby own_d17) rfl rfl k) ?_
  show OwnG p.tables e below _ (T1.setTop (mkF m 5 #[.val (.ref a1)] [(.ref a1), (.ref b1), (.ref b1)]))
  obtain ⟨_, _, ⟨T4, L4, k4, n4⟩, -, X4, ⟨Lc4, hQ4, l4, y4, z4⟩, st4⟩ := Jvm.LawKit.callS X1 hx (y := (⟨"java/util/Objects", "requireNonNull", "(Ljava/lang/Object;)Ljava/lang/Object;"⟩ : MethodName)) hown (mvT hZ (hw _ (List.mem_of_getElem? (i := 31) rfl))) (mvT hZ (hw _ (List.mem_of_getElem? (i := 32) rfl))) (mvT hZ (hw _ (List.mem_of_getElem? (i := 33) rfl))) (mvT hZ (hw _ (List.mem_of_getElem? (i := 34) rfl))) (by decide) (backOf (W := 2) (own_rnn l Z a0 hw [] a1 h1 n0 Z2) hZ (hw _ (List.mem_of_getElem? (i := 34) rfl)) (hw _ (List.mem_of_getElem? (i := 33) rfl)) (by decide) (by decide)) (g := (mkF m 5 #[.val (.ref a1)] [(.ref a1), (.ref b1), (.ref b1)])) rfl (by rw [hml]; rfl) (argsL := [(.ref a1)]) (rest := [(.ref b1), (.ref b1)]) (lenOf own_pd19 rfl) rfl (by show 2 * 0 + _ ≤ _; exact Nat.le_of_eq rfl) (hb hby own_d18) (fun _ _ => ⟨rfl, e1, (by decide : 1 + 0 ≤ _), (by decide : 1 + 0 ≤ _)⟩)
  dsimp only [Pt.U, Pt.locs, Pt.cells, Pt.slots] at X4 l4 y4 z4 st4 hQ4
  subst l4 y4 z4
  obtain ⟨rfl, Nq4, eq4⟩ := hQ4
  have N4 := Fr.app N0 Nq4
  have e4 : T4.heap = h1 := eq4
  refine own_go (fun t k => st4 t k) ?_
  show OwnG p.tables e below _ (T4.setTop (mkF m 8 #[.val (.ref a1)] [(.ref a1), (.ref b1), (.ref b1)]))
  obtain ⟨_, _, ⟨T5, L5, k5, n5⟩, -, X5, ⟨Lc5, hQ5, l5, y5, z5⟩, st5⟩ := X4.specialBack hx (y := (⟨"java/util/Optional", "<init>", "(Ljava/lang/Object;)V"⟩ : MethodName)) rfl hown (mvT hZ (hw _ (List.mem_of_getElem? (i := 35) rfl))) (mvT hZ (hw _ (List.mem_of_getElem? (i := 36) rfl))) (mvT hZ (hw _ (List.mem_of_getElem? (i := 38) rfl))) (by decide) (backOf (W := 1) (own_init l Z a0 hw [] b1 a1 h1 n0 Z2 A1 F3 g_b1) hZ (hw _ (List.mem_of_getElem? (i := 38) rfl)) (hw _ (List.mem_of_getElem? (i := 15) rfl)) (by decide) (by decide)) (g := (mkF m 8 #[.val (.ref a1)] [(.ref a1), (.ref b1), (.ref b1)])) rfl (by rw [hml]; rfl) (Steps.refl _) (a := b1) (argsL := [(.ref a1)]) (rest := [(.ref b1)]) (lenOf own_pd21 rfl) rfl (by show 2 * 0 + _ ≤ _; exact Nat.le_of_eq rfl) (hb hby own_d20) (fun _ _ => ⟨rfl, e4, (by decide : 1 + 0 ≤ _), (by decide : 1 + 0 ≤ _)⟩)
  dsimp only [Pt.U, Pt.locs, Pt.cells, Pt.slots] at X5 l5 y5 z5 st5 hQ5
  subst l5 y5 z5
  obtain ⟨rfl, Nq5, Kq5, Fq5_0, Fq5_1⟩ := hQ5
  have N5 := Fr.app N4 Nq5
  have F6 : Exa Z T5.heap b1 "java/util/Optional" := A1.keep Kq5
  have K5 : Keep h0 T5.heap [] := K2.trans Kq5 (allS (Or.inr sz_b1) all0)
  have Z5 : n0 ≤ T5.heap.size := Nat.le_trans Z2 Kq5.1
  refine own_go (fun t k => st5.trans k) ?_
  show OwnG p.tables e below _ (T5.setTop (mkF m 11 #[.val (.ref a1)] [(.ref b1)]))
  obtain ⟨fs, hr, hrun, hended, hW, hsame⟩ := X5.leave (v := some (.ref b1)) (fun h => by rw [Bd.returns] at h; cases h)
  have hlast : Steps p.tables e below (T5.setTop (mkF m 11 #[.val (.ref a1)] [(.ref b1)])) (T5.setFrames fs) := by
    exact retOut X5 hx (t := (.object "java/util/Optional")) Bd.returns rfl (Or.inr (Or.inr (Or.inr (Or.inr ⟨rfl, rfl, rfl⟩)))) (hb hby own_d22) hr
  refine ⟨_, _, hlast, hrun, hended, _, _, rfl, ?_, ⟨_, rfl⟩, hW, hsame.mono (by decide) (by decide)⟩
  show Q_own_of Z a1 h0 n0 _ T5.heap _
  exact ⟨b1, rfl, N5, K5, Fq5_0, Fq5_1⟩
theorem own_ef23 (m : MethodId)  : entryFrame m #[] 1 = mkF m 0 #[.unset] [] := by first | (simp [entryFrame, mkF, argsToLocals, Value.category]; done) | rfl
theorem own_d24 : decode jdk_32_method_1_code 0 = .ok (.getstatic 1, 3) := by decide +kernel
theorem own_d25 : decode jdk_32_method_1_code 3 = .ok (.astore_n 0, 1) := by decide +kernel
theorem own_d26 : decode jdk_32_method_1_code 4 = .ok (.aload_n 0, 1) := by decide +kernel
theorem own_d27 : decode jdk_32_method_1_code 5 = .ok (.areturn, 1) := by decide +kernel
def Q_own_empty (Z : State) (o_COLUMNS : Addr) (o_DEPENDENCIES : Addr) (o_COLUMNS_AND_DEPENDENCIES : Addr) (o_EMPTY : Addr) (h0 : Heap) (n0 : Nat) (v : Option Value) (h : Heap) (L : List Loc) : Prop := v = some (.ref o_EMPTY) ∧ Fr n0 L ∧ h = h0
set_option maxRecDepth 65536 in
set_option maxHeartbeats 40000000 in
theorem own_empty (l : Launch) (Z : State) (a0 : Array Value) (hw : ∀ d ∈ tables_1, d.before a0 Z = true) (ws : List Jvm.Cond) (o_COLUMNS : Addr) (o_DEPENDENCIES : Addr) (o_COLUMNS_AND_DEPENDENCIES : Addr) (o_EMPTY : Addr) (h0 : Heap) (n0 : Nat) (Z0 : n0 ≤ h0.size) (O0 : Old Z n0 h0) (S_COLUMNS : Sta Z Z.heap "standwatch/query/CatalogChange" "COLUMNS" "Lstandwatch/query/CatalogChange;" (.ref o_COLUMNS)) (E_o_COLUMNS : Exa Z Z.heap o_COLUMNS "standwatch/query/CatalogChange") (S_DEPENDENCIES : Sta Z Z.heap "standwatch/query/CatalogChange" "DEPENDENCIES" "Lstandwatch/query/CatalogChange;" (.ref o_DEPENDENCIES)) (E_o_DEPENDENCIES : Exa Z Z.heap o_DEPENDENCIES "standwatch/query/CatalogChange") (S_COLUMNS_AND_DEPENDENCIES : Sta Z Z.heap "standwatch/query/CatalogChange" "COLUMNS_AND_DEPENDENCIES" "Lstandwatch/query/CatalogChange;" (.ref o_COLUMNS_AND_DEPENDENCIES)) (E_o_COLUMNS_AND_DEPENDENCIES : Exa Z Z.heap o_COLUMNS_AND_DEPENDENCIES "standwatch/query/CatalogChange") (S_EMPTY : Sta Z Z.heap "java/util/Optional" "EMPTY" "Ljava/util/Optional;" (.ref o_EMPTY)) (E_o_EMPTY : Exa Z Z.heap o_EMPTY "java/util/Optional") (F_o_EMPTY_value : Fld Z Z.heap o_EMPTY "java/util/Optional" "value" "Ljava/lang/Object;" .null) :
    MetFree l (⟨"java/util/Optional", "empty", "()Ljava/util/Optional;"⟩ : MethodName) (head1 (Jvm.Cond.code (⟨"java/util/Optional", "empty", "()Ljava/util/Optional;"⟩ : MethodName) jdk_32_method_1_code 1 (some (.object "java/util/Optional")) :: ws) ({ frames := 0, cells := 0, slots := 0, locals := 0 } : Room)) (fun a U => a = #[] ∧ Z.Warmed39 U.vm ∧ U.heap = h0) (fun _ _ _ _ _ => True) (fun _ U o U' => ∃ v L, o = .returned v ∧ Q_own_empty Z o_COLUMNS o_DEPENDENCIES o_COLUMNS_AND_DEPENDENCIES o_EMPTY h0 n0 v U'.heap L ∧ FrameEnd U o U' L ({ frames := 0, cells := 0, slots := 0, locals := 0 } : Room).cells ({ frames := 0, cells := 0, slots := 0, locals := 0 } : Room).slots) := by
  refine MetFree.of_bodySF (plainFor_of_name own_pn7) hisR ?_
  intro p e s m args below meth c s₁ Bd hml0 hP hK
  obtain ⟨rfl, hZ, hh⟩ := hP
  have hx := Bd.exec
  have hby := Bd.bytes
  have hml : c.maxLocals = 1 := hml0
  have hown : s.vm.findClass "java/util/Optional" = some m.cls := findClass_of_methodNamed Bd.named
  have hnm := (name_of_methodNamed Bd.named Bd.method).1
  have X0 : Stand p l e ({ frames := 0, cells := 0, slots := 0, locals := 0 } : Room) s m #[] below meth c s₁ [] 0 0 := Stand.of_body Bd
  have e0 : s₁.heap = h0 := by rw [← hh, Bd.state]; rfl
  have N0 := Fr.nil n0
  have K0 := Keep.refl h0 []
  refine own_go (fun t k => castTop (own_ef23 m ) k) ?_
  show OwnG p.tables e below _ (s₁.setTop (mkF m 0 #[.unset] []))
  obtain ⟨T1, X1, e1, st1⟩ := getS2 X0 hx hZ hown (host := "") (Or.inl (hw _ (List.mem_of_getElem? (i := 17) rfl))) Via.refl e0 (S_EMPTY.ext O0.2) (g := (mkF m 0 #[.unset] [])) rfl (hb hby own_d24)
  refine own_go (fun t k => st1 t k) ?_
  show OwnG p.tables e below _ (T1.setTop (mkF m 3 #[.unset] [(.ref o_EMPTY)]))
  refine own_go (fun t k => XS.astoreN X1.here hx rfl (hb hby own_d25) rfl rfl (l' := #[.val (.ref o_EMPTY)]) rfl k) ?_
  show OwnG p.tables e below _ (T1.setTop (mkF m 4 #[.val (.ref o_EMPTY)] []))
  refine own_go (fun t k => XS.aloadN X1.here hx rfl (hb hby own_d26) rfl rfl k) ?_
  show OwnG p.tables e below _ (T1.setTop (mkF m 5 #[.val (.ref o_EMPTY)] [(.ref o_EMPTY)]))
  obtain ⟨fs, hr, hrun, hended, hW, hsame⟩ := X1.leave (v := some (.ref o_EMPTY)) (fun h => by rw [Bd.returns] at h; cases h)
  have hlast : Steps p.tables e below (T1.setTop (mkF m 5 #[.val (.ref o_EMPTY)] [(.ref o_EMPTY)])) (T1.setFrames fs) := by
    exact retOut X1 hx (t := (.object "java/util/Optional")) Bd.returns rfl (Or.inr (Or.inr (Or.inr (Or.inr ⟨rfl, rfl, rfl⟩)))) (hb hby own_d27) hr
  refine ⟨_, _, hlast, hrun, hended, _, _, rfl, ?_, ⟨_, rfl⟩, hW, hsame.mono (by decide) (by decide)⟩
  show Q_own_empty Z o_COLUMNS o_DEPENDENCIES o_COLUMNS_AND_DEPENDENCIES o_EMPTY h0 n0 _ T1.heap _
  rw [e1]
  exact ⟨rfl, N0, rfl⟩
theorem own_ef28 (m : MethodId) (a1 : Addr) : entryFrame m #[(.ref a1)] 1 = mkF m 0 #[.val (.ref a1)] [] := by first | (simp [entryFrame, mkF, argsToLocals, Value.category]; done) | rfl
theorem own_d29 : decode jdk_32_method_6_code 0 = .ok (.aload_n 0, 1) := by decide +kernel
theorem own_d30 : decode jdk_32_method_6_code 1 = .ok (.getfield 13, 3) := by decide +kernel
theorem own_d31 : decode jdk_32_method_6_code 4 = .ok (.ifnull 7, 3) := by decide +kernel
theorem own_d32 : decode jdk_32_method_6_code 11 = .ok (.iconst 0, 1) := by decide +kernel
theorem own_d33 : decode jdk_32_method_6_code 12 = .ok (.ireturn, 1) := by decide +kernel
def Q_own_ip0 (Z : State) (a1 : Addr) (h0 : Heap) (n0 : Nat) (v : Option Value) (h : Heap) (L : List Loc) : Prop := v = some (.int (0 : Int32)) ∧ Fr n0 L ∧ h = h0
set_option maxRecDepth 65536 in
set_option maxHeartbeats 40000000 in
theorem own_ip0 (l : Launch) (Z : State) (a0 : Array Value) (hw : ∀ d ∈ tables_1, d.before a0 Z = true) (ws : List Jvm.Cond) (a1 : Addr) (h0 : Heap) (n0 : Nat) (Z0 : n0 ≤ h0.size) (f0_0 : Fld Z h0 a1 "java/util/Optional" "value" "Ljava/lang/Object;" .null) :
    MetFree l (⟨"java/util/Optional", "isPresent", "()Z"⟩ : MethodName) (head1 (Jvm.Cond.code (⟨"java/util/Optional", "isPresent", "()Z"⟩ : MethodName) jdk_32_method_6_code 1 (some .boolean) :: ws) ({ frames := 0, cells := 0, slots := 0, locals := 0 } : Room)) (fun a U => a = #[(.ref a1)] ∧ Z.Warmed39 U.vm ∧ U.heap = h0) (fun _ _ _ _ _ => True) (fun _ U o U' => ∃ v L, o = .returned v ∧ Q_own_ip0 Z a1 h0 n0 v U'.heap L ∧ FrameEnd U o U' L ({ frames := 0, cells := 0, slots := 0, locals := 0 } : Room).cells ({ frames := 0, cells := 0, slots := 0, locals := 0 } : Room).slots) := by
  refine MetFree.of_bodySF (plainFor_of_name own_pn7) hisR ?_
  intro p e s m args below meth c s₁ Bd hml0 hP hK
  obtain ⟨rfl, hZ, hh⟩ := hP
  have hx := Bd.exec
  have hby := Bd.bytes
  have hml : c.maxLocals = 1 := hml0
  have hown : s.vm.findClass "java/util/Optional" = some m.cls := findClass_of_methodNamed Bd.named
  have hnm := (name_of_methodNamed Bd.named Bd.method).1
  have X0 : Stand p l e ({ frames := 0, cells := 0, slots := 0, locals := 0 } : Room) s m #[(.ref a1)] below meth c s₁ [] 0 0 := Stand.of_body Bd
  have e0 : s₁.heap = h0 := by rw [← hh, Bd.state]; rfl
  have N0 := Fr.nil n0
  have K0 := Keep.refl h0 []
  refine own_go (fun t k => castTop (own_ef28 m a1) k) ?_
  show OwnG p.tables e below _ (s₁.setTop (mkF m 0 #[.val (.ref a1)] []))
  refine own_go (fun t k => XS.aloadN X0.here hx rfl (hb hby own_d29) rfl rfl k) ?_
  show OwnG p.tables e below _ (s₁.setTop (mkF m 1 #[.val (.ref a1)] [(.ref a1)]))
  obtain ⟨T1, X1, e1, st1⟩ := getF X0 hx hZ hown (host := "") (Or.inl (hw _ (List.mem_of_getElem? (i := 23) rfl))) Via.refl e0 f0_0 (g := (mkF m 1 #[.val (.ref a1)] [(.ref a1)])) rfl rfl (hb hby own_d30)
  refine own_go (fun t k => st1 t k) ?_
  show OwnG p.tables e below _ (T1.setTop (mkF m 4 #[.val (.ref a1)] [.null]))
  refine own_go (fun t k => XS.ifnullYes X1.here hx rfl (pc0 := 4) (pc' := 11) rfl (hb hby own_d31) rfl (by decide) (by decide) k) ?_
  show OwnG p.tables e below _ (T1.setTop (mkF m 11 #[.val (.ref a1)] []))
  refine own_go (fun t k => XS.iconst X1.here hx rfl (hb hby own_d32) k) ?_
  show OwnG p.tables e below _ (T1.setTop (mkF m 12 #[.val (.ref a1)] [(.int (0 : Int32))]))
  obtain ⟨fs, hr, hrun, hended, hW, hsame⟩ := X1.leave (v := some (.int (0 : Int32))) (fun h => by rw [Bd.returns] at h; cases h)
  refine ⟨_, _, retN X1 hx (t := .boolean) Bd.returns (by simp) (hb hby own_d33) hr, hrun, hended, _, _, rfl, ?_, ⟨_, rfl⟩, hW, hsame.mono (by decide) (by decide)⟩
  show Q_own_ip0 Z a1 h0 n0 _ T1.heap _
  rw [e1]
  exact ⟨rfl, N0, rfl⟩
theorem own_ef34 (m : MethodId) (a1 : Addr) : entryFrame m #[(.ref a1)] 1 = mkF m 0 #[.val (.ref a1)] [] := by first | (simp [entryFrame, mkF, argsToLocals, Value.category]; done) | rfl
theorem own_d35 : decode jdk_32_method_6_code 7 = .ok (.iconst 1, 1) := by decide +kernel
theorem own_d36 : decode jdk_32_method_6_code 8 = .ok (.goto 4, 3) := by decide +kernel
def Q_own_ip1 (Z : State) (a1 : Addr) (a2 : Addr) (h0 : Heap) (n0 : Nat) (v : Option Value) (h : Heap) (L : List Loc) : Prop := v = some (.int (1 : Int32)) ∧ Fr n0 L ∧ h = h0
set_option maxRecDepth 65536 in
set_option maxHeartbeats 40000000 in
theorem own_ip1 (l : Launch) (Z : State) (a0 : Array Value) (hw : ∀ d ∈ tables_1, d.before a0 Z = true) (ws : List Jvm.Cond) (a1 : Addr) (a2 : Addr) (h0 : Heap) (n0 : Nat) (Z0 : n0 ≤ h0.size) (f0_0 : Fld Z h0 a1 "java/util/Optional" "value" "Ljava/lang/Object;" (.ref a2)) :
    MetFree l (⟨"java/util/Optional", "isPresent", "()Z"⟩ : MethodName) (head1 (Jvm.Cond.code (⟨"java/util/Optional", "isPresent", "()Z"⟩ : MethodName) jdk_32_method_6_code 1 (some .boolean) :: ws) ({ frames := 0, cells := 0, slots := 0, locals := 0 } : Room)) (fun a U => a = #[(.ref a1)] ∧ Z.Warmed39 U.vm ∧ U.heap = h0) (fun _ _ _ _ _ => True) (fun _ U o U' => ∃ v L, o = .returned v ∧ Q_own_ip1 Z a1 a2 h0 n0 v U'.heap L ∧ FrameEnd U o U' L ({ frames := 0, cells := 0, slots := 0, locals := 0 } : Room).cells ({ frames := 0, cells := 0, slots := 0, locals := 0 } : Room).slots) := by
  refine MetFree.of_bodySF (plainFor_of_name own_pn7) hisR ?_
  intro p e s m args below meth c s₁ Bd hml0 hP hK
  obtain ⟨rfl, hZ, hh⟩ := hP
  have hx := Bd.exec
  have hby := Bd.bytes
  have hml : c.maxLocals = 1 := hml0
  have hown : s.vm.findClass "java/util/Optional" = some m.cls := findClass_of_methodNamed Bd.named
  have hnm := (name_of_methodNamed Bd.named Bd.method).1
  have X0 : Stand p l e ({ frames := 0, cells := 0, slots := 0, locals := 0 } : Room) s m #[(.ref a1)] below meth c s₁ [] 0 0 := Stand.of_body Bd
  have e0 : s₁.heap = h0 := by rw [← hh, Bd.state]; rfl
  have N0 := Fr.nil n0
  have K0 := Keep.refl h0 []
  refine own_go (fun t k => castTop (own_ef34 m a1) k) ?_
  show OwnG p.tables e below _ (s₁.setTop (mkF m 0 #[.val (.ref a1)] []))
  refine own_go (fun t k => XS.aloadN X0.here hx rfl (hb hby own_d29) rfl rfl k) ?_
  show OwnG p.tables e below _ (s₁.setTop (mkF m 1 #[.val (.ref a1)] [(.ref a1)]))
  obtain ⟨T1, X1, e1, st1⟩ := getF X0 hx hZ hown (host := "") (Or.inl (hw _ (List.mem_of_getElem? (i := 23) rfl))) Via.refl e0 f0_0 (g := (mkF m 1 #[.val (.ref a1)] [(.ref a1)])) rfl rfl (hb hby own_d30)
  refine own_go (fun t k => st1 t k) ?_
  show OwnG p.tables e below _ (T1.setTop (mkF m 4 #[.val (.ref a1)] [(.ref a2)]))
  refine own_go (fun t k => XS.ifnullNo X1.here hx rfl (hb hby own_d31) rfl k) ?_
  show OwnG p.tables e below _ (T1.setTop (mkF m 7 #[.val (.ref a1)] []))
  refine own_go (fun t k => XS.iconst X1.here hx rfl (hb hby own_d35) k) ?_
  show OwnG p.tables e below _ (T1.setTop (mkF m 8 #[.val (.ref a1)] [(.int (1 : Int32))]))
  refine own_go (fun t k => XS.goto X1.here hx rfl (pc0 := 8) (pc' := 12) rfl (hb hby own_d36) (by decide) (by decide) k) ?_
  show OwnG p.tables e below _ (T1.setTop (mkF m 12 #[.val (.ref a1)] [(.int (1 : Int32))]))
  obtain ⟨fs, hr, hrun, hended, hW, hsame⟩ := X1.leave (v := some (.int (1 : Int32))) (fun h => by rw [Bd.returns] at h; cases h)
  refine ⟨_, _, retN X1 hx (t := .boolean) Bd.returns (by simp) (hb hby own_d33) hr, hrun, hended, _, _, rfl, ?_, ⟨_, rfl⟩, hW, hsame.mono (by decide) (by decide)⟩
  show Q_own_ip1 Z a1 a2 h0 n0 _ T1.heap _
  rw [e1]
  exact ⟨rfl, N0, rfl⟩
theorem own_ef37 (m : MethodId) (a1 : Addr) : entryFrame m #[(.ref a1)] 1 = mkF m 0 #[.val (.ref a1)] [] := by first | (simp [entryFrame, mkF, argsToLocals, Value.category]; done) | rfl
theorem own_d38 : decode jdk_32_method_5_code 0 = .ok (.aload_n 0, 1) := by decide +kernel
theorem own_d39 : decode jdk_32_method_5_code 1 = .ok (.getfield 13, 3) := by decide +kernel
theorem own_d40 : decode jdk_32_method_5_code 4 = .ok (.ifnonnull 13, 3) := by decide +kernel
theorem own_d41 : decode jdk_32_method_5_code 17 = .ok (.aload_n 0, 1) := by decide +kernel
theorem own_d42 : decode jdk_32_method_5_code 18 = .ok (.getfield 13, 3) := by decide +kernel
theorem own_d43 : decode jdk_32_method_5_code 21 = .ok (.areturn, 1) := by decide +kernel
def Q_own_get (Z : State) (a1 : Addr) (a2 : Addr) (h0 : Heap) (n0 : Nat) (v : Option Value) (h : Heap) (L : List Loc) : Prop := v = some (.ref a2) ∧ Fr n0 L ∧ h = h0
set_option maxRecDepth 65536 in
set_option maxHeartbeats 40000000 in
theorem own_get (l : Launch) (Z : State) (a0 : Array Value) (hw : ∀ d ∈ tables_1, d.before a0 Z = true) (ws : List Jvm.Cond) (a1 : Addr) (a2 : Addr) (h0 : Heap) (n0 : Nat) (Z0 : n0 ≤ h0.size) (f0_0 : Fld Z h0 a1 "java/util/Optional" "value" "Ljava/lang/Object;" (.ref a2)) :
    MetFree l (⟨"java/util/Optional", "get", "()Ljava/lang/Object;"⟩ : MethodName) (head1 (Jvm.Cond.code (⟨"java/util/Optional", "get", "()Ljava/lang/Object;"⟩ : MethodName) jdk_32_method_5_code 1 (some (.object "java/lang/Object")) :: ws) ({ frames := 0, cells := 0, slots := 0, locals := 0 } : Room)) (fun a U => a = #[(.ref a1)] ∧ Z.Warmed39 U.vm ∧ U.heap = h0) (fun _ _ _ _ _ => True) (fun _ U o U' => ∃ v L, o = .returned v ∧ Q_own_get Z a1 a2 h0 n0 v U'.heap L ∧ FrameEnd U o U' L ({ frames := 0, cells := 0, slots := 0, locals := 0 } : Room).cells ({ frames := 0, cells := 0, slots := 0, locals := 0 } : Room).slots) := by
  refine MetFree.of_bodySF (plainFor_of_name own_pn7) hisR ?_
  intro p e s m args below meth c s₁ Bd hml0 hP hK
  obtain ⟨rfl, hZ, hh⟩ := hP
  have hx := Bd.exec
  have hby := Bd.bytes
  have hml : c.maxLocals = 1 := hml0
  have hown : s.vm.findClass "java/util/Optional" = some m.cls := findClass_of_methodNamed Bd.named
  have hnm := (name_of_methodNamed Bd.named Bd.method).1
  have X0 : Stand p l e ({ frames := 0, cells := 0, slots := 0, locals := 0 } : Room) s m #[(.ref a1)] below meth c s₁ [] 0 0 := Stand.of_body Bd
  have e0 : s₁.heap = h0 := by rw [← hh, Bd.state]; rfl
  have N0 := Fr.nil n0
  have K0 := Keep.refl h0 []
  refine own_go (fun t k => castTop (own_ef37 m a1) k) ?_
  show OwnG p.tables e below _ (s₁.setTop (mkF m 0 #[.val (.ref a1)] []))
  refine own_go (fun t k => XS.aloadN X0.here hx rfl (hb hby own_d38) rfl rfl k) ?_
  show OwnG p.tables e below _ (s₁.setTop (mkF m 1 #[.val (.ref a1)] [(.ref a1)]))
  obtain ⟨T1, X1, e1, st1⟩ := getF X0 hx hZ hown (host := "") (Or.inl (hw _ (List.mem_of_getElem? (i := 23) rfl))) Via.refl e0 f0_0 (g := (mkF m 1 #[.val (.ref a1)] [(.ref a1)])) rfl rfl (hb hby own_d39)
  refine own_go (fun t k => st1 t k) ?_
  show OwnG p.tables e below _ (T1.setTop (mkF m 4 #[.val (.ref a1)] [(.ref a2)]))
  refine own_go (fun t k => XS.ifnonnullYes X1.here hx rfl (pc0 := 4) (pc' := 17) rfl (hb hby own_d40) rfl (by decide) (by decide) k) ?_
  show OwnG p.tables e below _ (T1.setTop (mkF m 17 #[.val (.ref a1)] []))
  refine own_go (fun t k => XS.aloadN X1.here hx rfl (hb hby own_d41) rfl rfl k) ?_
  show OwnG p.tables e below _ (T1.setTop (mkF m 18 #[.val (.ref a1)] [(.ref a1)]))
  obtain ⟨T2, X2, e2, st2⟩ := getF X1 hx hZ hown (host := "") (Or.inl (hw _ (List.mem_of_getElem? (i := 23) rfl))) Via.refl e1 f0_0 (g := (mkF m 18 #[.val (.ref a1)] [(.ref a1)])) rfl rfl (hb hby own_d42)
  refine own_go (fun t k => st2 t k) ?_
  show OwnG p.tables e below _ (T2.setTop (mkF m 21 #[.val (.ref a1)] [(.ref a2)]))
  obtain ⟨fs, hr, hrun, hended, hW, hsame⟩ := X2.leave (v := some (.ref a2)) (fun h => by rw [Bd.returns] at h; cases h)
  have hlast : Steps p.tables e below (T2.setTop (mkF m 21 #[.val (.ref a1)] [(.ref a2)])) (T2.setFrames fs) := by
    exact retOut X2 hx (t := (.object "java/lang/Object")) Bd.returns rfl (Or.inr (Or.inr (Or.inr (Or.inr ⟨rfl, rfl, rfl⟩)))) (hb hby own_d43) hr
  refine ⟨_, _, hlast, hrun, hended, _, _, rfl, ?_, ⟨_, rfl⟩, hW, hsame.mono (by decide) (by decide)⟩
  show Q_own_get Z a1 a2 h0 n0 _ T2.heap _
  rw [e2]
  exact ⟨rfl, N0, rfl⟩
theorem own_ef44 (m : MethodId)  : entryFrame m #[(.int (0 : Int32)), (.int (0 : Int32))] 2 = mkF m 0 #[.val (.int (0 : Int32)), .val (.int (0 : Int32))] [] := by first | (simp [entryFrame, mkF, argsToLocals, Value.category]; done) | rfl
theorem own_pn45 : plainName "standwatch/query/CatalogChange" = true := by first | (simp [plainName, overriddenIn]; done) | decide +kernel
theorem own_d46 : decode prog_19_method_4_code 0 = .ok (.iload_n 0, 1) := by decide +kernel
theorem own_d47 : decode prog_19_method_4_code 1 = .ok (.ifCond .eq 20, 3) := by decide +kernel
theorem own_d48 : decode prog_19_method_4_code 21 = .ok (.iload_n 1, 1) := by decide +kernel
theorem own_d49 : decode prog_19_method_4_code 22 = .ok (.ifCond .eq 12, 3) := by decide +kernel
theorem own_d50 : decode prog_19_method_4_code 34 = .ok (.invokestatic 42, 3) := by decide +kernel
theorem own_pd51 : parseMethodDescriptor "()Ljava/util/Optional;" = some ⟨[], some (.object "java/util/Optional")⟩ := by decide +kernel
theorem own_d52 : decode prog_19_method_4_code 37 = .ok (.areturn, 1) := by decide +kernel
def Q_own_cof0 (Z : State) (o_COLUMNS : Addr) (o_DEPENDENCIES : Addr) (o_COLUMNS_AND_DEPENDENCIES : Addr) (o_EMPTY : Addr) (h0 : Heap) (n0 : Nat) (v : Option Value) (h : Heap) (L : List Loc) : Prop := v = some (.ref o_EMPTY) ∧ Fr n0 L ∧ h = h0
set_option maxRecDepth 65536 in
set_option maxHeartbeats 40000000 in
theorem own_cof0 (l : Launch) (Z : State) (a0 : Array Value) (hw : ∀ d ∈ tables_1, d.before a0 Z = true) (ws : List Jvm.Cond) (o_COLUMNS : Addr) (o_DEPENDENCIES : Addr) (o_COLUMNS_AND_DEPENDENCIES : Addr) (o_EMPTY : Addr) (h0 : Heap) (n0 : Nat) (Z0 : n0 ≤ h0.size) (O0 : Old Z n0 h0) (S_COLUMNS : Sta Z Z.heap "standwatch/query/CatalogChange" "COLUMNS" "Lstandwatch/query/CatalogChange;" (.ref o_COLUMNS)) (E_o_COLUMNS : Exa Z Z.heap o_COLUMNS "standwatch/query/CatalogChange") (S_DEPENDENCIES : Sta Z Z.heap "standwatch/query/CatalogChange" "DEPENDENCIES" "Lstandwatch/query/CatalogChange;" (.ref o_DEPENDENCIES)) (E_o_DEPENDENCIES : Exa Z Z.heap o_DEPENDENCIES "standwatch/query/CatalogChange") (S_COLUMNS_AND_DEPENDENCIES : Sta Z Z.heap "standwatch/query/CatalogChange" "COLUMNS_AND_DEPENDENCIES" "Lstandwatch/query/CatalogChange;" (.ref o_COLUMNS_AND_DEPENDENCIES)) (E_o_COLUMNS_AND_DEPENDENCIES : Exa Z Z.heap o_COLUMNS_AND_DEPENDENCIES "standwatch/query/CatalogChange") (S_EMPTY : Sta Z Z.heap "java/util/Optional" "EMPTY" "Ljava/util/Optional;" (.ref o_EMPTY)) (E_o_EMPTY : Exa Z Z.heap o_EMPTY "java/util/Optional") (F_o_EMPTY_value : Fld Z Z.heap o_EMPTY "java/util/Optional" "value" "Ljava/lang/Object;" .null) :
    MetFree l (⟨"standwatch/query/CatalogChange", "of", "(ZZ)Ljava/util/Optional;"⟩ : MethodName) (head1 (Jvm.Cond.code (⟨"standwatch/query/CatalogChange", "of", "(ZZ)Ljava/util/Optional;"⟩ : MethodName) prog_19_method_4_code 2 (some (.object "java/util/Optional")) :: ws) ({ frames := 1, cells := 0, slots := 0, locals := 12 } : Room)) (fun a U => a = #[(.int (0 : Int32)), (.int (0 : Int32))] ∧ Z.Warmed39 U.vm ∧ U.heap = h0) (fun _ _ _ _ _ => True) (fun _ U o U' => ∃ v L, o = .returned v ∧ Q_own_cof0 Z o_COLUMNS o_DEPENDENCIES o_COLUMNS_AND_DEPENDENCIES o_EMPTY h0 n0 v U'.heap L ∧ FrameEnd U o U' L ({ frames := 1, cells := 0, slots := 0, locals := 12 } : Room).cells ({ frames := 1, cells := 0, slots := 0, locals := 12 } : Room).slots) := by
  refine MetFree.of_bodySF (plainFor_of_name own_pn45) hisR ?_
  intro p e s m args below meth c s₁ Bd hml0 hP hK
  obtain ⟨rfl, hZ, hh⟩ := hP
  have hx := Bd.exec
  have hby := Bd.bytes
  have hml : c.maxLocals = 2 := hml0
  have hown : s.vm.findClass "standwatch/query/CatalogChange" = some m.cls := findClass_of_methodNamed Bd.named
  have hnm := (name_of_methodNamed Bd.named Bd.method).1
  have X0 : Stand p l e ({ frames := 1, cells := 0, slots := 0, locals := 12 } : Room) s m #[(.int (0 : Int32)), (.int (0 : Int32))] below meth c s₁ [] 0 0 := Stand.of_body Bd
  have e0 : s₁.heap = h0 := by rw [← hh, Bd.state]; rfl
  have N0 := Fr.nil n0
  have K0 := Keep.refl h0 []
  refine own_go (fun t k => castTop (own_ef44 m ) k) ?_
  show OwnG p.tables e below _ (s₁.setTop (mkF m 0 #[.val (.int (0 : Int32)), .val (.int (0 : Int32))] []))
  refine own_go (fun t k => XS.iloadN X0.here hx rfl (hb hby own_d46) rfl  k) ?_
  show OwnG p.tables e below _ (s₁.setTop (mkF m 1 #[.val (.int (0 : Int32)), .val (.int (0 : Int32))] [(.int (0 : Int32))]))
  refine own_go (fun t k => XS.ifYes X0.here hx rfl (pc0 := 1) (pc' := 21) rfl (hb hby own_d47) rfl ((if0 _ _).trans (teq (by decide : (0 : Int32) = (0 : Int32))).1) (by decide) (by decide) k) ?_
  show OwnG p.tables e below _ (s₁.setTop (mkF m 21 #[.val (.int (0 : Int32)), .val (.int (0 : Int32))] []))
  refine own_go (fun t k => XS.iloadN X0.here hx rfl (hb hby own_d48) rfl  k) ?_
  show OwnG p.tables e below _ (s₁.setTop (mkF m 22 #[.val (.int (0 : Int32)), .val (.int (0 : Int32))] [(.int (0 : Int32))]))
  refine own_go (fun t k => XS.ifYes X0.here hx rfl (pc0 := 22) (pc' := 34) rfl (hb hby own_d49) rfl ((if0 _ _).trans (teq (by decide : (0 : Int32) = (0 : Int32))).1) (by decide) (by decide) k) ?_
  show OwnG p.tables e below _ (s₁.setTop (mkF m 34 #[.val (.int (0 : Int32)), .val (.int (0 : Int32))] []))
  obtain ⟨_, _, ⟨T1, L1, k1, n1⟩, -, X1, ⟨Lc1, hQ1, l1, y1, z1⟩, st1⟩ := Jvm.LawKit.callS X0 hx (y := (⟨"java/util/Optional", "empty", "()Ljava/util/Optional;"⟩ : MethodName)) hown (mvT hZ (hw _ (List.mem_of_getElem? (i := 13) rfl))) (mvT hZ (hw _ (List.mem_of_getElem? (i := 14) rfl))) (mvT hZ (hw _ (List.mem_of_getElem? (i := 15) rfl))) (mvT hZ (hw _ (List.mem_of_getElem? (i := 16) rfl))) (by decide) (backOf (W := 0) (own_empty l Z a0 hw [] o_COLUMNS o_DEPENDENCIES o_COLUMNS_AND_DEPENDENCIES o_EMPTY h0 n0 Z0 O0 S_COLUMNS E_o_COLUMNS S_DEPENDENCIES E_o_DEPENDENCIES S_COLUMNS_AND_DEPENDENCIES E_o_COLUMNS_AND_DEPENDENCIES S_EMPTY E_o_EMPTY F_o_EMPTY_value) hZ (hw _ (List.mem_of_getElem? (i := 16) rfl)) (hw _ (List.mem_of_getElem? (i := 15) rfl)) (by decide) (by decide)) (g := (mkF m 34 #[.val (.int (0 : Int32)), .val (.int (0 : Int32))] [])) rfl (by rw [hml]; rfl) (argsL := []) (rest := []) (lenOf own_pd51 rfl) rfl (by show 2 * 0 + _ ≤ _; exact Nat.le_of_eq rfl) (hb hby own_d50) (fun _ _ => ⟨rfl, e0, (by decide : 0 + 0 ≤ _), (by decide : 0 + 0 ≤ _)⟩)
  dsimp only [Pt.U, Pt.locs, Pt.cells, Pt.slots] at X1 l1 y1 z1 st1 hQ1
  subst l1 y1 z1
  obtain ⟨rfl, Nq1, eq1⟩ := hQ1
  have N1 := Fr.app N0 Nq1
  have e1 : T1.heap = h0 := eq1
  refine own_go (fun t k => st1 t k) ?_
  show OwnG p.tables e below _ (T1.setTop (mkF m 37 #[.val (.int (0 : Int32)), .val (.int (0 : Int32))] [(.ref o_EMPTY)]))
  obtain ⟨fs, hr, hrun, hended, hW, hsame⟩ := X1.leave (v := some (.ref o_EMPTY)) (fun h => by rw [Bd.returns] at h; cases h)
  have hlast : Steps p.tables e below (T1.setTop (mkF m 37 #[.val (.int (0 : Int32)), .val (.int (0 : Int32))] [(.ref o_EMPTY)])) (T1.setFrames fs) := by
    exact retOut X1 hx (t := (.object "java/util/Optional")) Bd.returns rfl (Or.inr (Or.inr (Or.inr (Or.inr ⟨rfl, rfl, rfl⟩)))) (hb hby own_d52) hr
  refine ⟨_, _, hlast, hrun, hended, _, _, rfl, ?_, ⟨_, rfl⟩, hW, hsame.mono (by decide) (by decide)⟩
  show Q_own_cof0 Z o_COLUMNS o_DEPENDENCIES o_COLUMNS_AND_DEPENDENCIES o_EMPTY h0 n0 _ T1.heap _
  rw [e1]
  exact ⟨rfl, N1, rfl⟩
theorem own_ef53 (m : MethodId)  : entryFrame m #[(.int (1 : Int32)), (.int (0 : Int32))] 2 = mkF m 0 #[.val (.int (1 : Int32)), .val (.int (0 : Int32))] [] := by first | (simp [entryFrame, mkF, argsToLocals, Value.category]; done) | rfl
theorem own_d54 : decode prog_19_method_4_code 4 = .ok (.iload_n 1, 1) := by decide +kernel
theorem own_d55 : decode prog_19_method_4_code 5 = .ok (.ifCond .eq 9, 3) := by decide +kernel
theorem own_d56 : decode prog_19_method_4_code 14 = .ok (.getstatic 3, 3) := by decide +kernel
theorem own_d57 : decode prog_19_method_4_code 17 = .ok (.invokestatic 36, 3) := by decide +kernel
theorem own_pd58 : parseMethodDescriptor "(Ljava/lang/Object;)Ljava/util/Optional;" = some ⟨[(.object "java/lang/Object")], some (.object "java/util/Optional")⟩ := by decide +kernel
theorem own_d59 : decode prog_19_method_4_code 20 = .ok (.areturn, 1) := by decide +kernel
def Q_own_cof1 (Z : State) (o_COLUMNS : Addr) (o_DEPENDENCIES : Addr) (o_COLUMNS_AND_DEPENDENCIES : Addr) (o_EMPTY : Addr) (h0 : Heap) (n0 : Nat) (v : Option Value) (h : Heap) (L : List Loc) : Prop := ∃ bw : Addr, v = some (.ref bw) ∧ Fr n0 L ∧ Keep h0 h [] ∧ Exa Z h bw "java/util/Optional" ∧ Fld Z h bw "java/util/Optional" "value" "Ljava/lang/Object;" (.ref o_COLUMNS)
set_option maxRecDepth 65536 in
set_option maxHeartbeats 40000000 in
theorem own_cof1 (l : Launch) (Z : State) (a0 : Array Value) (hw : ∀ d ∈ tables_1, d.before a0 Z = true) (ws : List Jvm.Cond) (o_COLUMNS : Addr) (o_DEPENDENCIES : Addr) (o_COLUMNS_AND_DEPENDENCIES : Addr) (o_EMPTY : Addr) (h0 : Heap) (n0 : Nat) (Z0 : n0 ≤ h0.size) (O0 : Old Z n0 h0) (S_COLUMNS : Sta Z Z.heap "standwatch/query/CatalogChange" "COLUMNS" "Lstandwatch/query/CatalogChange;" (.ref o_COLUMNS)) (E_o_COLUMNS : Exa Z Z.heap o_COLUMNS "standwatch/query/CatalogChange") (S_DEPENDENCIES : Sta Z Z.heap "standwatch/query/CatalogChange" "DEPENDENCIES" "Lstandwatch/query/CatalogChange;" (.ref o_DEPENDENCIES)) (E_o_DEPENDENCIES : Exa Z Z.heap o_DEPENDENCIES "standwatch/query/CatalogChange") (S_COLUMNS_AND_DEPENDENCIES : Sta Z Z.heap "standwatch/query/CatalogChange" "COLUMNS_AND_DEPENDENCIES" "Lstandwatch/query/CatalogChange;" (.ref o_COLUMNS_AND_DEPENDENCIES)) (E_o_COLUMNS_AND_DEPENDENCIES : Exa Z Z.heap o_COLUMNS_AND_DEPENDENCIES "standwatch/query/CatalogChange") (S_EMPTY : Sta Z Z.heap "java/util/Optional" "EMPTY" "Ljava/util/Optional;" (.ref o_EMPTY)) (E_o_EMPTY : Exa Z Z.heap o_EMPTY "java/util/Optional") (F_o_EMPTY_value : Fld Z Z.heap o_EMPTY "java/util/Optional" "value" "Ljava/lang/Object;" .null) :
    MetFree l (⟨"standwatch/query/CatalogChange", "of", "(ZZ)Ljava/util/Optional;"⟩ : MethodName) (head1 (Jvm.Cond.code (⟨"standwatch/query/CatalogChange", "of", "(ZZ)Ljava/util/Optional;"⟩ : MethodName) prog_19_method_4_code 2 (some (.object "java/util/Optional")) :: ws) ({ frames := 3, cells := 1, slots := 1, locals := 38 } : Room)) (fun a U => a = #[(.int (1 : Int32)), (.int (0 : Int32))] ∧ Z.Warmed39 U.vm ∧ U.heap = h0) (fun _ _ _ _ _ => True) (fun _ U o U' => ∃ v L, o = .returned v ∧ Q_own_cof1 Z o_COLUMNS o_DEPENDENCIES o_COLUMNS_AND_DEPENDENCIES o_EMPTY h0 n0 v U'.heap L ∧ FrameEnd U o U' L ({ frames := 3, cells := 1, slots := 1, locals := 38 } : Room).cells ({ frames := 3, cells := 1, slots := 1, locals := 38 } : Room).slots) := by
  refine MetFree.of_bodySF (plainFor_of_name own_pn45) hisR ?_
  intro p e s m args below meth c s₁ Bd hml0 hP hK
  obtain ⟨rfl, hZ, hh⟩ := hP
  have hx := Bd.exec
  have hby := Bd.bytes
  have hml : c.maxLocals = 2 := hml0
  have hown : s.vm.findClass "standwatch/query/CatalogChange" = some m.cls := findClass_of_methodNamed Bd.named
  have hnm := (name_of_methodNamed Bd.named Bd.method).1
  have X0 : Stand p l e ({ frames := 3, cells := 1, slots := 1, locals := 38 } : Room) s m #[(.int (1 : Int32)), (.int (0 : Int32))] below meth c s₁ [] 0 0 := Stand.of_body Bd
  have e0 : s₁.heap = h0 := by rw [← hh, Bd.state]; rfl
  have N0 := Fr.nil n0
  have K0 := Keep.refl h0 []
  refine own_go (fun t k => castTop (own_ef53 m ) k) ?_
  show OwnG p.tables e below _ (s₁.setTop (mkF m 0 #[.val (.int (1 : Int32)), .val (.int (0 : Int32))] []))
  refine own_go (fun t k => XS.iloadN X0.here hx rfl (hb hby own_d46) rfl  k) ?_
  show OwnG p.tables e below _ (s₁.setTop (mkF m 1 #[.val (.int (1 : Int32)), .val (.int (0 : Int32))] [(.int (1 : Int32))]))
  refine own_go (fun t k => XS.ifNo X0.here hx rfl (hb hby own_d47) rfl ((if0 _ _).trans (feq (by decide : ¬ ((1 : Int32) = (0 : Int32)))).1) k) ?_
  show OwnG p.tables e below _ (s₁.setTop (mkF m 4 #[.val (.int (1 : Int32)), .val (.int (0 : Int32))] []))
  refine own_go (fun t k => XS.iloadN X0.here hx rfl (hb hby own_d54) rfl  k) ?_
  show OwnG p.tables e below _ (s₁.setTop (mkF m 5 #[.val (.int (1 : Int32)), .val (.int (0 : Int32))] [(.int (0 : Int32))]))
  refine own_go (fun t k => XS.ifYes X0.here hx rfl (pc0 := 5) (pc' := 14) rfl (hb hby own_d55) rfl ((if0 _ _).trans (teq (by decide : (0 : Int32) = (0 : Int32))).1) (by decide) (by decide) k) ?_
  show OwnG p.tables e below _ (s₁.setTop (mkF m 14 #[.val (.int (1 : Int32)), .val (.int (0 : Int32))] []))
  obtain ⟨T1, X1, e1, st1⟩ := getS2 X0 hx hZ hown (host := "") (Or.inl (hw _ (List.mem_of_getElem? (i := 48) rfl))) Via.refl e0 (S_COLUMNS.ext O0.2) (g := (mkF m 14 #[.val (.int (1 : Int32)), .val (.int (0 : Int32))] [])) rfl (hb hby own_d56)
  refine own_go (fun t k => st1 t k) ?_
  show OwnG p.tables e below _ (T1.setTop (mkF m 17 #[.val (.int (1 : Int32)), .val (.int (0 : Int32))] [(.ref o_COLUMNS)]))
  obtain ⟨_, _, ⟨T2, L2, k2, n2⟩, -, X2, ⟨Lc2, hQ2, l2, y2, z2⟩, st2⟩ := Jvm.LawKit.callS X1 hx (y := (⟨"java/util/Optional", "of", "(Ljava/lang/Object;)Ljava/util/Optional;"⟩ : MethodName)) hown (mvT hZ (hw _ (List.mem_of_getElem? (i := 26) rfl))) (mvT hZ (hw _ (List.mem_of_getElem? (i := 27) rfl))) (mvT hZ (hw _ (List.mem_of_getElem? (i := 15) rfl))) (mvT hZ (hw _ (List.mem_of_getElem? (i := 28) rfl))) (by decide) (backOf (W := 0) (own_of l Z a0 hw [] o_COLUMNS h0 n0 Z0) hZ (hw _ (List.mem_of_getElem? (i := 28) rfl)) (hw _ (List.mem_of_getElem? (i := 15) rfl)) (by decide) (by decide)) (g := (mkF m 17 #[.val (.int (1 : Int32)), .val (.int (0 : Int32))] [(.ref o_COLUMNS)])) rfl (by rw [hml]; rfl) (argsL := [(.ref o_COLUMNS)]) (rest := []) (lenOf own_pd58 rfl) rfl (by show 2 * 0 + _ ≤ _; exact Nat.le_of_eq rfl) (hb hby own_d57) (fun _ _ => ⟨rfl, e1, (by decide : 0 + 1 ≤ _), (by decide : 0 + 1 ≤ _)⟩)
  dsimp only [Pt.U, Pt.locs, Pt.cells, Pt.slots] at X2 l2 y2 z2 st2 hQ2
  subst l2 y2 z2
  obtain ⟨bv_2, rfl, Nq2, Kq2, Fq2_0, Fq2_1⟩ := hQ2
  have N2 := Fr.app N0 Nq2
  have F3 : Old Z n0 T2.heap := O0.keep Kq2 all0
  have K2 : Keep h0 T2.heap [] := K0.trans Kq2 all0
  have Z2 : n0 ≤ T2.heap.size := Nat.le_trans Z0 Kq2.1
  refine own_go (fun t k => st2 t k) ?_
  show OwnG p.tables e below _ (T2.setTop (mkF m 20 #[.val (.int (1 : Int32)), .val (.int (0 : Int32))] [(.ref bv_2)]))
  obtain ⟨fs, hr, hrun, hended, hW, hsame⟩ := X2.leave (v := some (.ref bv_2)) (fun h => by rw [Bd.returns] at h; cases h)
  have hlast : Steps p.tables e below (T2.setTop (mkF m 20 #[.val (.int (1 : Int32)), .val (.int (0 : Int32))] [(.ref bv_2)])) (T2.setFrames fs) := by
    exact retOut X2 hx (t := (.object "java/util/Optional")) Bd.returns rfl (Or.inr (Or.inr (Or.inr (Or.inr ⟨rfl, rfl, rfl⟩)))) (hb hby own_d59) hr
  refine ⟨_, _, hlast, hrun, hended, _, _, rfl, ?_, ⟨_, rfl⟩, hW, hsame.mono (by decide) (by decide)⟩
  show Q_own_cof1 Z o_COLUMNS o_DEPENDENCIES o_COLUMNS_AND_DEPENDENCIES o_EMPTY h0 n0 _ T2.heap _
  exact ⟨bv_2, rfl, N2, K2, Fq2_0, Fq2_1⟩
theorem own_ef60 (m : MethodId)  : entryFrame m #[(.int (0 : Int32)), (.int (1 : Int32))] 2 = mkF m 0 #[.val (.int (0 : Int32)), .val (.int (1 : Int32))] [] := by first | (simp [entryFrame, mkF, argsToLocals, Value.category]; done) | rfl
theorem own_d61 : decode prog_19_method_4_code 25 = .ok (.getstatic 7, 3) := by decide +kernel
theorem own_d62 : decode prog_19_method_4_code 28 = .ok (.invokestatic 36, 3) := by decide +kernel
theorem own_d63 : decode prog_19_method_4_code 31 = .ok (.goto 6, 3) := by decide +kernel
def Q_own_cof2 (Z : State) (o_COLUMNS : Addr) (o_DEPENDENCIES : Addr) (o_COLUMNS_AND_DEPENDENCIES : Addr) (o_EMPTY : Addr) (h0 : Heap) (n0 : Nat) (v : Option Value) (h : Heap) (L : List Loc) : Prop := ∃ bw : Addr, v = some (.ref bw) ∧ Fr n0 L ∧ Keep h0 h [] ∧ Exa Z h bw "java/util/Optional" ∧ Fld Z h bw "java/util/Optional" "value" "Ljava/lang/Object;" (.ref o_DEPENDENCIES)
set_option maxRecDepth 65536 in
set_option maxHeartbeats 40000000 in
theorem own_cof2 (l : Launch) (Z : State) (a0 : Array Value) (hw : ∀ d ∈ tables_1, d.before a0 Z = true) (ws : List Jvm.Cond) (o_COLUMNS : Addr) (o_DEPENDENCIES : Addr) (o_COLUMNS_AND_DEPENDENCIES : Addr) (o_EMPTY : Addr) (h0 : Heap) (n0 : Nat) (Z0 : n0 ≤ h0.size) (O0 : Old Z n0 h0) (S_COLUMNS : Sta Z Z.heap "standwatch/query/CatalogChange" "COLUMNS" "Lstandwatch/query/CatalogChange;" (.ref o_COLUMNS)) (E_o_COLUMNS : Exa Z Z.heap o_COLUMNS "standwatch/query/CatalogChange") (S_DEPENDENCIES : Sta Z Z.heap "standwatch/query/CatalogChange" "DEPENDENCIES" "Lstandwatch/query/CatalogChange;" (.ref o_DEPENDENCIES)) (E_o_DEPENDENCIES : Exa Z Z.heap o_DEPENDENCIES "standwatch/query/CatalogChange") (S_COLUMNS_AND_DEPENDENCIES : Sta Z Z.heap "standwatch/query/CatalogChange" "COLUMNS_AND_DEPENDENCIES" "Lstandwatch/query/CatalogChange;" (.ref o_COLUMNS_AND_DEPENDENCIES)) (E_o_COLUMNS_AND_DEPENDENCIES : Exa Z Z.heap o_COLUMNS_AND_DEPENDENCIES "standwatch/query/CatalogChange") (S_EMPTY : Sta Z Z.heap "java/util/Optional" "EMPTY" "Ljava/util/Optional;" (.ref o_EMPTY)) (E_o_EMPTY : Exa Z Z.heap o_EMPTY "java/util/Optional") (F_o_EMPTY_value : Fld Z Z.heap o_EMPTY "java/util/Optional" "value" "Ljava/lang/Object;" .null) :
    MetFree l (⟨"standwatch/query/CatalogChange", "of", "(ZZ)Ljava/util/Optional;"⟩ : MethodName) (head1 (Jvm.Cond.code (⟨"standwatch/query/CatalogChange", "of", "(ZZ)Ljava/util/Optional;"⟩ : MethodName) prog_19_method_4_code 2 (some (.object "java/util/Optional")) :: ws) ({ frames := 3, cells := 1, slots := 1, locals := 38 } : Room)) (fun a U => a = #[(.int (0 : Int32)), (.int (1 : Int32))] ∧ Z.Warmed39 U.vm ∧ U.heap = h0) (fun _ _ _ _ _ => True) (fun _ U o U' => ∃ v L, o = .returned v ∧ Q_own_cof2 Z o_COLUMNS o_DEPENDENCIES o_COLUMNS_AND_DEPENDENCIES o_EMPTY h0 n0 v U'.heap L ∧ FrameEnd U o U' L ({ frames := 3, cells := 1, slots := 1, locals := 38 } : Room).cells ({ frames := 3, cells := 1, slots := 1, locals := 38 } : Room).slots) := by
  refine MetFree.of_bodySF (plainFor_of_name own_pn45) hisR ?_
  intro p e s m args below meth c s₁ Bd hml0 hP hK
  obtain ⟨rfl, hZ, hh⟩ := hP
  have hx := Bd.exec
  have hby := Bd.bytes
  have hml : c.maxLocals = 2 := hml0
  have hown : s.vm.findClass "standwatch/query/CatalogChange" = some m.cls := findClass_of_methodNamed Bd.named
  have hnm := (name_of_methodNamed Bd.named Bd.method).1
  have X0 : Stand p l e ({ frames := 3, cells := 1, slots := 1, locals := 38 } : Room) s m #[(.int (0 : Int32)), (.int (1 : Int32))] below meth c s₁ [] 0 0 := Stand.of_body Bd
  have e0 : s₁.heap = h0 := by rw [← hh, Bd.state]; rfl
  have N0 := Fr.nil n0
  have K0 := Keep.refl h0 []
  refine own_go (fun t k => castTop (own_ef60 m ) k) ?_
  show OwnG p.tables e below _ (s₁.setTop (mkF m 0 #[.val (.int (0 : Int32)), .val (.int (1 : Int32))] []))
  refine own_go (fun t k => XS.iloadN X0.here hx rfl (hb hby own_d46) rfl  k) ?_
  show OwnG p.tables e below _ (s₁.setTop (mkF m 1 #[.val (.int (0 : Int32)), .val (.int (1 : Int32))] [(.int (0 : Int32))]))
  refine own_go (fun t k => XS.ifYes X0.here hx rfl (pc0 := 1) (pc' := 21) rfl (hb hby own_d47) rfl ((if0 _ _).trans (teq (by decide : (0 : Int32) = (0 : Int32))).1) (by decide) (by decide) k) ?_
  show OwnG p.tables e below _ (s₁.setTop (mkF m 21 #[.val (.int (0 : Int32)), .val (.int (1 : Int32))] []))
  refine own_go (fun t k => XS.iloadN X0.here hx rfl (hb hby own_d48) rfl  k) ?_
  show OwnG p.tables e below _ (s₁.setTop (mkF m 22 #[.val (.int (0 : Int32)), .val (.int (1 : Int32))] [(.int (1 : Int32))]))
  refine own_go (fun t k => XS.ifNo X0.here hx rfl (hb hby own_d49) rfl ((if0 _ _).trans (feq (by decide : ¬ ((1 : Int32) = (0 : Int32)))).1) k) ?_
  show OwnG p.tables e below _ (s₁.setTop (mkF m 25 #[.val (.int (0 : Int32)), .val (.int (1 : Int32))] []))
  obtain ⟨T1, X1, e1, st1⟩ := getS2 X0 hx hZ hown (host := "") (Or.inl (hw _ (List.mem_of_getElem? (i := 47) rfl))) Via.refl e0 (S_DEPENDENCIES.ext O0.2) (g := (mkF m 25 #[.val (.int (0 : Int32)), .val (.int (1 : Int32))] [])) rfl (hb hby own_d61)
  refine own_go (fun t k => st1 t k) ?_
  show OwnG p.tables e below _ (T1.setTop (mkF m 28 #[.val (.int (0 : Int32)), .val (.int (1 : Int32))] [(.ref o_DEPENDENCIES)]))
  obtain ⟨_, _, ⟨T2, L2, k2, n2⟩, -, X2, ⟨Lc2, hQ2, l2, y2, z2⟩, st2⟩ := Jvm.LawKit.callS X1 hx (y := (⟨"java/util/Optional", "of", "(Ljava/lang/Object;)Ljava/util/Optional;"⟩ : MethodName)) hown (mvT hZ (hw _ (List.mem_of_getElem? (i := 26) rfl))) (mvT hZ (hw _ (List.mem_of_getElem? (i := 27) rfl))) (mvT hZ (hw _ (List.mem_of_getElem? (i := 15) rfl))) (mvT hZ (hw _ (List.mem_of_getElem? (i := 28) rfl))) (by decide) (backOf (W := 0) (own_of l Z a0 hw [] o_DEPENDENCIES h0 n0 Z0) hZ (hw _ (List.mem_of_getElem? (i := 28) rfl)) (hw _ (List.mem_of_getElem? (i := 15) rfl)) (by decide) (by decide)) (g := (mkF m 28 #[.val (.int (0 : Int32)), .val (.int (1 : Int32))] [(.ref o_DEPENDENCIES)])) rfl (by rw [hml]; rfl) (argsL := [(.ref o_DEPENDENCIES)]) (rest := []) (lenOf own_pd58 rfl) rfl (by show 2 * 0 + _ ≤ _; exact Nat.le_of_eq rfl) (hb hby own_d62) (fun _ _ => ⟨rfl, e1, (by decide : 0 + 1 ≤ _), (by decide : 0 + 1 ≤ _)⟩)
  dsimp only [Pt.U, Pt.locs, Pt.cells, Pt.slots] at X2 l2 y2 z2 st2 hQ2
  subst l2 y2 z2
  obtain ⟨bv_2, rfl, Nq2, Kq2, Fq2_0, Fq2_1⟩ := hQ2
  have N2 := Fr.app N0 Nq2
  have F3 : Old Z n0 T2.heap := O0.keep Kq2 all0
  have K2 : Keep h0 T2.heap [] := K0.trans Kq2 all0
  have Z2 : n0 ≤ T2.heap.size := Nat.le_trans Z0 Kq2.1
  refine own_go (fun t k => st2 t k) ?_
  show OwnG p.tables e below _ (T2.setTop (mkF m 31 #[.val (.int (0 : Int32)), .val (.int (1 : Int32))] [(.ref bv_2)]))
  refine own_go (fun t k => XS.goto X2.here hx rfl (pc0 := 31) (pc' := 37) rfl (hb hby own_d63) (by decide) (by decide) k) ?_
  show OwnG p.tables e below _ (T2.setTop (mkF m 37 #[.val (.int (0 : Int32)), .val (.int (1 : Int32))] [(.ref bv_2)]))
  obtain ⟨fs, hr, hrun, hended, hW, hsame⟩ := X2.leave (v := some (.ref bv_2)) (fun h => by rw [Bd.returns] at h; cases h)
  have hlast : Steps p.tables e below (T2.setTop (mkF m 37 #[.val (.int (0 : Int32)), .val (.int (1 : Int32))] [(.ref bv_2)])) (T2.setFrames fs) := by
    exact retOut X2 hx (t := (.object "java/util/Optional")) Bd.returns rfl (Or.inr (Or.inr (Or.inr (Or.inr ⟨rfl, rfl, rfl⟩)))) (hb hby own_d52) hr
  refine ⟨_, _, hlast, hrun, hended, _, _, rfl, ?_, ⟨_, rfl⟩, hW, hsame.mono (by decide) (by decide)⟩
  show Q_own_cof2 Z o_COLUMNS o_DEPENDENCIES o_COLUMNS_AND_DEPENDENCIES o_EMPTY h0 n0 _ T2.heap _
  exact ⟨bv_2, rfl, N2, K2, Fq2_0, Fq2_1⟩
theorem own_ef64 (m : MethodId)  : entryFrame m #[(.int (1 : Int32)), (.int (1 : Int32))] 2 = mkF m 0 #[.val (.int (1 : Int32)), .val (.int (1 : Int32))] [] := by first | (simp [entryFrame, mkF, argsToLocals, Value.category]; done) | rfl
theorem own_d65 : decode prog_19_method_4_code 8 = .ok (.getstatic 10, 3) := by decide +kernel
theorem own_d66 : decode prog_19_method_4_code 11 = .ok (.goto 6, 3) := by decide +kernel
def Q_own_cof3 (Z : State) (o_COLUMNS : Addr) (o_DEPENDENCIES : Addr) (o_COLUMNS_AND_DEPENDENCIES : Addr) (o_EMPTY : Addr) (h0 : Heap) (n0 : Nat) (v : Option Value) (h : Heap) (L : List Loc) : Prop := ∃ bw : Addr, v = some (.ref bw) ∧ Fr n0 L ∧ Keep h0 h [] ∧ Exa Z h bw "java/util/Optional" ∧ Fld Z h bw "java/util/Optional" "value" "Ljava/lang/Object;" (.ref o_COLUMNS_AND_DEPENDENCIES)
set_option maxRecDepth 65536 in
set_option maxHeartbeats 40000000 in
theorem own_cof3 (l : Launch) (Z : State) (a0 : Array Value) (hw : ∀ d ∈ tables_1, d.before a0 Z = true) (ws : List Jvm.Cond) (o_COLUMNS : Addr) (o_DEPENDENCIES : Addr) (o_COLUMNS_AND_DEPENDENCIES : Addr) (o_EMPTY : Addr) (h0 : Heap) (n0 : Nat) (Z0 : n0 ≤ h0.size) (O0 : Old Z n0 h0) (S_COLUMNS : Sta Z Z.heap "standwatch/query/CatalogChange" "COLUMNS" "Lstandwatch/query/CatalogChange;" (.ref o_COLUMNS)) (E_o_COLUMNS : Exa Z Z.heap o_COLUMNS "standwatch/query/CatalogChange") (S_DEPENDENCIES : Sta Z Z.heap "standwatch/query/CatalogChange" "DEPENDENCIES" "Lstandwatch/query/CatalogChange;" (.ref o_DEPENDENCIES)) (E_o_DEPENDENCIES : Exa Z Z.heap o_DEPENDENCIES "standwatch/query/CatalogChange") (S_COLUMNS_AND_DEPENDENCIES : Sta Z Z.heap "standwatch/query/CatalogChange" "COLUMNS_AND_DEPENDENCIES" "Lstandwatch/query/CatalogChange;" (.ref o_COLUMNS_AND_DEPENDENCIES)) (E_o_COLUMNS_AND_DEPENDENCIES : Exa Z Z.heap o_COLUMNS_AND_DEPENDENCIES "standwatch/query/CatalogChange") (S_EMPTY : Sta Z Z.heap "java/util/Optional" "EMPTY" "Ljava/util/Optional;" (.ref o_EMPTY)) (E_o_EMPTY : Exa Z Z.heap o_EMPTY "java/util/Optional") (F_o_EMPTY_value : Fld Z Z.heap o_EMPTY "java/util/Optional" "value" "Ljava/lang/Object;" .null) :
    MetFree l (⟨"standwatch/query/CatalogChange", "of", "(ZZ)Ljava/util/Optional;"⟩ : MethodName) (head1 (Jvm.Cond.code (⟨"standwatch/query/CatalogChange", "of", "(ZZ)Ljava/util/Optional;"⟩ : MethodName) prog_19_method_4_code 2 (some (.object "java/util/Optional")) :: ws) ({ frames := 3, cells := 1, slots := 1, locals := 38 } : Room)) (fun a U => a = #[(.int (1 : Int32)), (.int (1 : Int32))] ∧ Z.Warmed39 U.vm ∧ U.heap = h0) (fun _ _ _ _ _ => True) (fun _ U o U' => ∃ v L, o = .returned v ∧ Q_own_cof3 Z o_COLUMNS o_DEPENDENCIES o_COLUMNS_AND_DEPENDENCIES o_EMPTY h0 n0 v U'.heap L ∧ FrameEnd U o U' L ({ frames := 3, cells := 1, slots := 1, locals := 38 } : Room).cells ({ frames := 3, cells := 1, slots := 1, locals := 38 } : Room).slots) := by
  refine MetFree.of_bodySF (plainFor_of_name own_pn45) hisR ?_
  intro p e s m args below meth c s₁ Bd hml0 hP hK
  obtain ⟨rfl, hZ, hh⟩ := hP
  have hx := Bd.exec
  have hby := Bd.bytes
  have hml : c.maxLocals = 2 := hml0
  have hown : s.vm.findClass "standwatch/query/CatalogChange" = some m.cls := findClass_of_methodNamed Bd.named
  have hnm := (name_of_methodNamed Bd.named Bd.method).1
  have X0 : Stand p l e ({ frames := 3, cells := 1, slots := 1, locals := 38 } : Room) s m #[(.int (1 : Int32)), (.int (1 : Int32))] below meth c s₁ [] 0 0 := Stand.of_body Bd
  have e0 : s₁.heap = h0 := by rw [← hh, Bd.state]; rfl
  have N0 := Fr.nil n0
  have K0 := Keep.refl h0 []
  refine own_go (fun t k => castTop (own_ef64 m ) k) ?_
  show OwnG p.tables e below _ (s₁.setTop (mkF m 0 #[.val (.int (1 : Int32)), .val (.int (1 : Int32))] []))
  refine own_go (fun t k => XS.iloadN X0.here hx rfl (hb hby own_d46) rfl  k) ?_
  show OwnG p.tables e below _ (s₁.setTop (mkF m 1 #[.val (.int (1 : Int32)), .val (.int (1 : Int32))] [(.int (1 : Int32))]))
  refine own_go (fun t k => XS.ifNo X0.here hx rfl (hb hby own_d47) rfl ((if0 _ _).trans (feq (by decide : ¬ ((1 : Int32) = (0 : Int32)))).1) k) ?_
  show OwnG p.tables e below _ (s₁.setTop (mkF m 4 #[.val (.int (1 : Int32)), .val (.int (1 : Int32))] []))
  refine own_go (fun t k => XS.iloadN X0.here hx rfl (hb hby own_d54) rfl  k) ?_
  show OwnG p.tables e below _ (s₁.setTop (mkF m 5 #[.val (.int (1 : Int32)), .val (.int (1 : Int32))] [(.int (1 : Int32))]))
  refine own_go (fun t k => XS.ifNo X0.here hx rfl (hb hby own_d55) rfl ((if0 _ _).trans (feq (by decide : ¬ ((1 : Int32) = (0 : Int32)))).1) k) ?_
  show OwnG p.tables e below _ (s₁.setTop (mkF m 8 #[.val (.int (1 : Int32)), .val (.int (1 : Int32))] []))
  obtain ⟨T1, X1, e1, st1⟩ := getS2 X0 hx hZ hown (host := "") (Or.inl (hw _ (List.mem_of_getElem? (i := 25) rfl))) Via.refl e0 (S_COLUMNS_AND_DEPENDENCIES.ext O0.2) (g := (mkF m 8 #[.val (.int (1 : Int32)), .val (.int (1 : Int32))] [])) rfl (hb hby own_d65)
  refine own_go (fun t k => st1 t k) ?_
  show OwnG p.tables e below _ (T1.setTop (mkF m 11 #[.val (.int (1 : Int32)), .val (.int (1 : Int32))] [(.ref o_COLUMNS_AND_DEPENDENCIES)]))
  refine own_go (fun t k => XS.goto X1.here hx rfl (pc0 := 11) (pc' := 17) rfl (hb hby own_d66) (by decide) (by decide) k) ?_
  show OwnG p.tables e below _ (T1.setTop (mkF m 17 #[.val (.int (1 : Int32)), .val (.int (1 : Int32))] [(.ref o_COLUMNS_AND_DEPENDENCIES)]))
  obtain ⟨_, _, ⟨T2, L2, k2, n2⟩, -, X2, ⟨Lc2, hQ2, l2, y2, z2⟩, st2⟩ := Jvm.LawKit.callS X1 hx (y := (⟨"java/util/Optional", "of", "(Ljava/lang/Object;)Ljava/util/Optional;"⟩ : MethodName)) hown (mvT hZ (hw _ (List.mem_of_getElem? (i := 26) rfl))) (mvT hZ (hw _ (List.mem_of_getElem? (i := 27) rfl))) (mvT hZ (hw _ (List.mem_of_getElem? (i := 15) rfl))) (mvT hZ (hw _ (List.mem_of_getElem? (i := 28) rfl))) (by decide) (backOf (W := 0) (own_of l Z a0 hw [] o_COLUMNS_AND_DEPENDENCIES h0 n0 Z0) hZ (hw _ (List.mem_of_getElem? (i := 28) rfl)) (hw _ (List.mem_of_getElem? (i := 15) rfl)) (by decide) (by decide)) (g := (mkF m 17 #[.val (.int (1 : Int32)), .val (.int (1 : Int32))] [(.ref o_COLUMNS_AND_DEPENDENCIES)])) rfl (by rw [hml]; rfl) (argsL := [(.ref o_COLUMNS_AND_DEPENDENCIES)]) (rest := []) (lenOf own_pd58 rfl) rfl (by show 2 * 0 + _ ≤ _; exact Nat.le_of_eq rfl) (hb hby own_d57) (fun _ _ => ⟨rfl, e1, (by decide : 0 + 1 ≤ _), (by decide : 0 + 1 ≤ _)⟩)
  dsimp only [Pt.U, Pt.locs, Pt.cells, Pt.slots] at X2 l2 y2 z2 st2 hQ2
  subst l2 y2 z2
  obtain ⟨bv_2, rfl, Nq2, Kq2, Fq2_0, Fq2_1⟩ := hQ2
  have N2 := Fr.app N0 Nq2
  have F3 : Old Z n0 T2.heap := O0.keep Kq2 all0
  have K2 : Keep h0 T2.heap [] := K0.trans Kq2 all0
  have Z2 : n0 ≤ T2.heap.size := Nat.le_trans Z0 Kq2.1
  refine own_go (fun t k => st2 t k) ?_
  show OwnG p.tables e below _ (T2.setTop (mkF m 20 #[.val (.int (1 : Int32)), .val (.int (1 : Int32))] [(.ref bv_2)]))
  obtain ⟨fs, hr, hrun, hended, hW, hsame⟩ := X2.leave (v := some (.ref bv_2)) (fun h => by rw [Bd.returns] at h; cases h)
  have hlast : Steps p.tables e below (T2.setTop (mkF m 20 #[.val (.int (1 : Int32)), .val (.int (1 : Int32))] [(.ref bv_2)])) (T2.setFrames fs) := by
    exact retOut X2 hx (t := (.object "java/util/Optional")) Bd.returns rfl (Or.inr (Or.inr (Or.inr (Or.inr ⟨rfl, rfl, rfl⟩)))) (hb hby own_d59) hr
  refine ⟨_, _, hlast, hrun, hended, _, _, rfl, ?_, ⟨_, rfl⟩, hW, hsame.mono (by decide) (by decide)⟩
  show Q_own_cof3 Z o_COLUMNS o_DEPENDENCIES o_COLUMNS_AND_DEPENDENCIES o_EMPTY h0 n0 _ T2.heap _
  exact ⟨bv_2, rfl, N2, K2, Fq2_0, Fq2_1⟩
theorem own_ef67 (m : MethodId) (p0 : Int32) : entryFrame m #[(.int p0)] maxLocals = mkF m 0 #[.val (.int p0), .unset, .unset, .unset, .unset, .unset] [] := by first | (simp [entryFrame, mkF, argsToLocals, Value.category, maxLocals]; done) | rfl
theorem own_pn68 : plainName "standwatch/query/CatalogChangeOfPinLaw" = true := by first | (simp [plainName, overriddenIn]; done) | decide +kernel
theorem own_pd69 : parseMethodDescriptor "(ZZ)Ljava/util/Optional;" = some ⟨[.boolean, .boolean], some (.object "java/util/Optional")⟩ := by decide +kernel
theorem own_pd70 : parseMethodDescriptor "()Z" = some ⟨[], some .boolean⟩ := by decide +kernel
theorem own_pd71 : parseMethodDescriptor "()Ljava/lang/Object;" = some ⟨[], some (.object "java/lang/Object")⟩ := by decide +kernel
def Q_own_law (Z : State) (p0 : Int32) (o_COLUMNS : Addr) (o_DEPENDENCIES : Addr) (o_COLUMNS_AND_DEPENDENCIES : Addr) (o_EMPTY : Addr) (h0 : Heap) (n0 : Nat) (v : Option Value) (h : Heap) (L : List Loc) : Prop := v = some (.int (1 : Int32)) ∧ Fr n0 L
set_option maxRecDepth 65536 in
set_option maxHeartbeats 40000000 in
theorem own_law (l : Launch) (Z : State) (a0 : Array Value) (hw : ∀ d ∈ tables_1, d.before a0 Z = true) (ws : List Jvm.Cond) (p0 : Int32) (o_COLUMNS : Addr) (o_DEPENDENCIES : Addr) (o_COLUMNS_AND_DEPENDENCIES : Addr) (o_EMPTY : Addr) (h0 : Heap) (n0 : Nat) (Z0 : n0 ≤ h0.size) (O0 : Old Z n0 h0) (S_COLUMNS : Sta Z Z.heap "standwatch/query/CatalogChange" "COLUMNS" "Lstandwatch/query/CatalogChange;" (.ref o_COLUMNS)) (E_o_COLUMNS : Exa Z Z.heap o_COLUMNS "standwatch/query/CatalogChange") (S_DEPENDENCIES : Sta Z Z.heap "standwatch/query/CatalogChange" "DEPENDENCIES" "Lstandwatch/query/CatalogChange;" (.ref o_DEPENDENCIES)) (E_o_DEPENDENCIES : Exa Z Z.heap o_DEPENDENCIES "standwatch/query/CatalogChange") (S_COLUMNS_AND_DEPENDENCIES : Sta Z Z.heap "standwatch/query/CatalogChange" "COLUMNS_AND_DEPENDENCIES" "Lstandwatch/query/CatalogChange;" (.ref o_COLUMNS_AND_DEPENDENCIES)) (E_o_COLUMNS_AND_DEPENDENCIES : Exa Z Z.heap o_COLUMNS_AND_DEPENDENCIES "standwatch/query/CatalogChange") (S_EMPTY : Sta Z Z.heap "java/util/Optional" "EMPTY" "Ljava/util/Optional;" (.ref o_EMPTY)) (E_o_EMPTY : Exa Z Z.heap o_EMPTY "java/util/Optional") (F_o_EMPTY_value : Fld Z Z.heap o_EMPTY "java/util/Optional" "value" "Ljava/lang/Object;" .null) :
    MetFree l x (head1 (Jvm.Cond.code x code maxLocals ret :: ws) room_1) (fun a U => a = #[(.int p0)] ∧ Z.Warmed39 U.vm ∧ U.heap = h0) (fun _ _ _ _ _ => True) (fun _ U o U' => ∃ v L, o = .returned v ∧ Q_own_law Z p0 o_COLUMNS o_DEPENDENCIES o_COLUMNS_AND_DEPENDENCIES o_EMPTY h0 n0 v U'.heap L ∧ FrameEnd U o U' L room_1.cells room_1.slots) := by
  refine MetFree.of_bodySF (plainFor_of_name own_pn68) hisR ?_
  intro p e s m args below meth c s₁ Bd hml0 hP hK
  obtain ⟨rfl, hZ, hh⟩ := hP
  have hx := Bd.exec
  have hby := Bd.bytes
  have hml : c.maxLocals = 6 := hml0
  have hown : s.vm.findClass "standwatch/query/CatalogChangeOfPinLaw" = some m.cls := findClass_of_methodNamed Bd.named
  have hnm := (name_of_methodNamed Bd.named Bd.method).1
  have X0 : Stand p l e room_1 s m #[(.int p0)] below meth c s₁ [] 0 0 := Stand.of_body Bd
  have e0 : s₁.heap = h0 := by rw [← hh, Bd.state]; rfl
  have N0 := Fr.nil n0
  have K0 := Keep.refl h0 []
  refine own_go (fun t k => castTop (own_ef67 m p0) k) ?_
  show OwnG p.tables e below _ (s₁.setTop (mkF m 0 #[.val (.int p0), .unset, .unset, .unset, .unset, .unset] []))
  rcases own_bits p0 with ⟨h3, h1, h2⟩ | ⟨h3, h1, h2⟩ | ⟨h3, h1, h2⟩ | ⟨h3, h1, h2⟩
  · refine own_go (fun t k => XS.iloadN X0.here hx rfl (hb hby at_0) rfl  k) ?_
    show OwnG p.tables e below _ (s₁.setTop (mkF m 1 #[.val (.int p0), .unset, .unset, .unset, .unset, .unset] [(.int p0)]))
    refine own_go (fun t k => XS.iconst X0.here hx rfl (hb hby at_1) k) ?_
    show OwnG p.tables e below _ (s₁.setTop (mkF m 2 #[.val (.int p0), .unset, .unset, .unset, .unset, .unset] [(.int (1 : Int32)), (.int p0)]))
    refine own_go (fun t k => XS.iand X0.here hx rfl (hb hby at_2) rfl k) ?_
    show OwnG p.tables e below _ (s₁.setTop (mkF m 3 #[.val (.int p0), .unset, .unset, .unset, .unset, .unset] [(.int (p0 &&& (1 : Int32)))]))
    rw [h1]
    show OwnG p.tables e below _ (s₁.setTop (mkF m 3 #[.val (.int p0), .unset, .unset, .unset, .unset, .unset] [(.int (0 : Int32))]))
    refine own_go (fun t k => XS.ifYes X0.here hx rfl (pc0 := 3) (pc' := 10) rfl (hb hby at_3) rfl ((if0 _ _).trans (teq (by decide : (0 : Int32) = (0 : Int32))).1) (by decide) (by decide) k) ?_
    show OwnG p.tables e below _ (s₁.setTop (mkF m 10 #[.val (.int p0), .unset, .unset, .unset, .unset, .unset] []))
    refine own_go (fun t k => XS.iconst X0.here hx rfl (hb hby at_10) k) ?_
    show OwnG p.tables e below _ (s₁.setTop (mkF m 11 #[.val (.int p0), .unset, .unset, .unset, .unset, .unset] [(.int (0 : Int32))]))
    refine own_go (fun t k => XS.istoreN X0.here hx rfl (hb hby at_11) rfl (l' := #[.val (.int p0), .val (.int (0 : Int32)), .unset, .unset, .unset, .unset]) rfl k) ?_
    show OwnG p.tables e below _ (s₁.setTop (mkF m 12 #[.val (.int p0), .val (.int (0 : Int32)), .unset, .unset, .unset, .unset] []))
    refine own_go (fun t k => XS.iloadN X0.here hx rfl (hb hby at_12) rfl  k) ?_
    show OwnG p.tables e below _ (s₁.setTop (mkF m 13 #[.val (.int p0), .val (.int (0 : Int32)), .unset, .unset, .unset, .unset] [(.int p0)]))
    refine own_go (fun t k => XS.iconst X0.here hx rfl (hb hby at_13) k) ?_
    show OwnG p.tables e below _ (s₁.setTop (mkF m 14 #[.val (.int p0), .val (.int (0 : Int32)), .unset, .unset, .unset, .unset] [(.int (2 : Int32)), (.int p0)]))
    refine own_go (fun t k => XS.iand X0.here hx rfl (hb hby at_14) rfl k) ?_
    show OwnG p.tables e below _ (s₁.setTop (mkF m 15 #[.val (.int p0), .val (.int (0 : Int32)), .unset, .unset, .unset, .unset] [(.int (p0 &&& (2 : Int32)))]))
    rw [h2]
    show OwnG p.tables e below _ (s₁.setTop (mkF m 15 #[.val (.int p0), .val (.int (0 : Int32)), .unset, .unset, .unset, .unset] [(.int (0 : Int32))]))
    refine own_go (fun t k => XS.ifYes X0.here hx rfl (pc0 := 15) (pc' := 22) rfl (hb hby at_15) rfl ((if0 _ _).trans (teq (by decide : (0 : Int32) = (0 : Int32))).1) (by decide) (by decide) k) ?_
    show OwnG p.tables e below _ (s₁.setTop (mkF m 22 #[.val (.int p0), .val (.int (0 : Int32)), .unset, .unset, .unset, .unset] []))
    refine own_go (fun t k => XS.iconst X0.here hx rfl (hb hby at_22) k) ?_
    show OwnG p.tables e below _ (s₁.setTop (mkF m 23 #[.val (.int p0), .val (.int (0 : Int32)), .unset, .unset, .unset, .unset] [(.int (0 : Int32))]))
    refine own_go (fun t k => XS.istoreN X0.here hx rfl (hb hby at_23) rfl (l' := #[.val (.int p0), .val (.int (0 : Int32)), .val (.int (0 : Int32)), .unset, .unset, .unset]) rfl k) ?_
    show OwnG p.tables e below _ (s₁.setTop (mkF m 24 #[.val (.int p0), .val (.int (0 : Int32)), .val (.int (0 : Int32)), .unset, .unset, .unset] []))
    refine own_go (fun t k => XS.iloadN X0.here hx rfl (hb hby at_24) rfl  k) ?_
    show OwnG p.tables e below _ (s₁.setTop (mkF m 25 #[.val (.int p0), .val (.int (0 : Int32)), .val (.int (0 : Int32)), .unset, .unset, .unset] [(.int p0)]))
    refine own_go (fun t k => XS.iconst X0.here hx rfl (hb hby at_25) k) ?_
    show OwnG p.tables e below _ (s₁.setTop (mkF m 26 #[.val (.int p0), .val (.int (0 : Int32)), .val (.int (0 : Int32)), .unset, .unset, .unset] [(.int (3 : Int32)), (.int p0)]))
    refine own_go (fun t k => XS.iand X0.here hx rfl (hb hby at_26) rfl k) ?_
    show OwnG p.tables e below _ (s₁.setTop (mkF m 27 #[.val (.int p0), .val (.int (0 : Int32)), .val (.int (0 : Int32)), .unset, .unset, .unset] [(.int (p0 &&& (3 : Int32)))]))
    rw [h3]
    show OwnG p.tables e below _ (s₁.setTop (mkF m 27 #[.val (.int p0), .val (.int (0 : Int32)), .val (.int (0 : Int32)), .unset, .unset, .unset] [(.int (0 : Int32))]))
    refine own_go (fun t k => XS.istoreN X0.here hx rfl (hb hby at_27) rfl (l' := #[.val (.int p0), .val (.int (0 : Int32)), .val (.int (0 : Int32)), .val (.int (0 : Int32)), .unset, .unset]) rfl k) ?_
    show OwnG p.tables e below _ (s₁.setTop (mkF m 28 #[.val (.int p0), .val (.int (0 : Int32)), .val (.int (0 : Int32)), .val (.int (0 : Int32)), .unset, .unset] []))
    refine own_go (fun t k => XS.iconst X0.here hx rfl (hb hby at_28) k) ?_
    show OwnG p.tables e below _ (s₁.setTop (mkF m 29 #[.val (.int p0), .val (.int (0 : Int32)), .val (.int (0 : Int32)), .val (.int (0 : Int32)), .unset, .unset] [(.int (3 : Int32))]))
    obtain ⟨T1, h1, k1, X1, e1, E1, A1, O1, st1⟩ := newR X0 hx hZ hown (hw _ (List.mem_of_getElem? (i := 0) rfl)) (hw _ (List.mem_of_getElem? (i := 1) rfl)) e0 (g := (mkF m 29 #[.val (.int p0), .val (.int (0 : Int32)), .val (.int (0 : Int32)), .val (.int (0 : Int32)), .unset, .unset] [(.int (3 : Int32))])) rfl (hb hby at_29) rfl (by decide) (cap := 3) (by decide) (by decide) (by decide) (by decide)
    obtain ⟨b1, g1⟩ : ∃ z, z = h0.size := ⟨_, rfl⟩
    rw [← g1] at A1 st1
    have g_b1 : n0 ≤ b1 := Nat.le_trans Z0 (Nat.le_of_eq g1.symm)
    have sz_b1 : h0.size ≤ b1 := Nat.le_trans K0.1 (Nat.le_of_eq g1.symm)
    have F2 : Old Z n0 h1 := O0.ext E1
    have K3 : Keep h0 h1 [] := K0.ext E1
    have Z3 : n0 ≤ h1.size := Nat.le_trans Z0 E1.1
    have F4 : Arv Z h1 b1 k1 (.object "standwatch/query/CatalogChange") (3 : Int32) [.null, .null, .null] .null := (Arv.new A1 (by decide)).pad (pad_rep [] .null 3)
    refine own_go (fun t k => st1 t k) ?_
    show OwnG p.tables e below _ (T1.setTop (mkF m 32 #[.val (.int p0), .val (.int (0 : Int32)), .val (.int (0 : Int32)), .val (.int (0 : Int32)), .unset, .unset] [(.ref b1)]))
    refine own_go (fun t k => XS.dup X1.here hx rfl (hb hby at_32) rfl rfl k) ?_
    show OwnG p.tables e below _ (T1.setTop (mkF m 33 #[.val (.int p0), .val (.int (0 : Int32)), .val (.int (0 : Int32)), .val (.int (0 : Int32)), .unset, .unset] [(.ref b1), (.ref b1)]))
    refine own_go (fun t k => XS.iconst X1.here hx rfl (hb hby at_33) k) ?_
    show OwnG p.tables e below _ (T1.setTop (mkF m 34 #[.val (.int p0), .val (.int (0 : Int32)), .val (.int (0 : Int32)), .val (.int (0 : Int32)), .unset, .unset] [(.int (0 : Int32)), (.ref b1), (.ref b1)]))
    obtain ⟨T5, X5, e5, st5⟩ := getS2 X1 hx hZ hown (host := "") (Or.inl (hw _ (List.mem_of_getElem? (i := 2) rfl))) Via.refl e1 (S_COLUMNS.ext F2.2) (g := (mkF m 34 #[.val (.int p0), .val (.int (0 : Int32)), .val (.int (0 : Int32)), .val (.int (0 : Int32)), .unset, .unset] [(.int (0 : Int32)), (.ref b1), (.ref b1)])) rfl (hb hby at_34)
    refine own_go (fun t k => st5 t k) ?_
    show OwnG p.tables e below _ (T5.setTop (mkF m 37 #[.val (.int p0), .val (.int (0 : Int32)), .val (.int (0 : Int32)), .val (.int (0 : Int32)), .unset, .unset] [(.ref o_COLUMNS), (.int (0 : Int32)), (.ref b1), (.ref b1)]))
    obtain ⟨cl6, Ar6, qk6, Sz6, Nn6, Hs6, Gs6⟩ := F4
    have hin6 : ¬ ((0 : Int32) < 0 ∨ cl6.slots.size ≤ ((0 : Int32)).toNatClampNeg) := inb_of Sz6 ⟨by decide, by decide⟩
    obtain ⟨T6, h6, X6, e6, W6, st6⟩ := stR X5 hx hZ e5 Ar6 (j := (0 : Int32)) hin6 rfl (Sto.ofV Ar6 qk6 O1 (Ins.self (E_o_COLUMNS.ext F2.2))) (g := (mkF m 37 #[.val (.int p0), .val (.int (0 : Int32)), .val (.int (0 : Int32)), .val (.int (0 : Int32)), .unset, .unset] [(.ref o_COLUMNS), (.int (0 : Int32)), (.ref b1), (.ref b1)])) rfl rfl (hb hby at_37)
    have F7 : Old Z n0 h6 := F2.wr W6 g_b1
    have N8 := Fr.snoc X6 N0 g_b1
    have K8 : Keep h0 h6 [] := K3.wr W6 (Or.inr sz_b1)
    have Z8 : n0 ≤ h6.size := Nat.le_trans Z3 (Keep.of_wr W6).1
    have F9 : Arv Z h6 b1 k1 (.object "standwatch/query/CatalogChange") (3 : Int32) [(.ref o_COLUMNS), .null, .null] .null := Arv.set Ar6 qk6 Sz6 Nn6 Hs6 Gs6 rfl W6 0 rfl (Nat.le_of_ble_eq_true rfl)
    refine own_go (fun t k => st6 t k) ?_
    show OwnG p.tables e below _ (T6.setTop (mkF m 38 #[.val (.int p0), .val (.int (0 : Int32)), .val (.int (0 : Int32)), .val (.int (0 : Int32)), .unset, .unset] [(.ref b1)]))
    refine own_go (fun t k => XS.dup X6.here hx rfl (hb hby at_38) rfl rfl k) ?_
    show OwnG p.tables e below _ (T6.setTop (mkF m 39 #[.val (.int p0), .val (.int (0 : Int32)), .val (.int (0 : Int32)), .val (.int (0 : Int32)), .unset, .unset] [(.ref b1), (.ref b1)]))
    refine own_go (fun t k => XS.iconst X6.here hx rfl (hb hby at_39) k) ?_
    show OwnG p.tables e below _ (T6.setTop (mkF m 40 #[.val (.int p0), .val (.int (0 : Int32)), .val (.int (0 : Int32)), .val (.int (0 : Int32)), .unset, .unset] [(.int (1 : Int32)), (.ref b1), (.ref b1)]))
    obtain ⟨T10, X10, e10, st10⟩ := getS2 X6 hx hZ hown (host := "") (Or.inl (hw _ (List.mem_of_getElem? (i := 6) rfl))) Via.refl e6 (S_DEPENDENCIES.ext F7.2) (g := (mkF m 40 #[.val (.int p0), .val (.int (0 : Int32)), .val (.int (0 : Int32)), .val (.int (0 : Int32)), .unset, .unset] [(.int (1 : Int32)), (.ref b1), (.ref b1)])) rfl (hb hby at_40)
    refine own_go (fun t k => st10 t k) ?_
    show OwnG p.tables e below _ (T10.setTop (mkF m 43 #[.val (.int p0), .val (.int (0 : Int32)), .val (.int (0 : Int32)), .val (.int (0 : Int32)), .unset, .unset] [(.ref o_DEPENDENCIES), (.int (1 : Int32)), (.ref b1), (.ref b1)]))
    obtain ⟨cl11, Ar11, qk11, Sz11, Nn11, Hs11, Gs11⟩ := F9
    have hin11 : ¬ ((1 : Int32) < 0 ∨ cl11.slots.size ≤ ((1 : Int32)).toNatClampNeg) := inb_of Sz11 ⟨by decide, by decide⟩
    obtain ⟨T11, h11, X11, e11, W11, st11⟩ := stR X10 hx hZ e10 Ar11 (j := (1 : Int32)) hin11 rfl (Sto.ofV Ar11 qk11 O1 (Ins.self (E_o_DEPENDENCIES.ext F7.2))) (g := (mkF m 43 #[.val (.int p0), .val (.int (0 : Int32)), .val (.int (0 : Int32)), .val (.int (0 : Int32)), .unset, .unset] [(.ref o_DEPENDENCIES), (.int (1 : Int32)), (.ref b1), (.ref b1)])) rfl rfl (hb hby at_43)
    have F12 : Old Z n0 h11 := F7.wr W11 g_b1
    have N13 := Fr.snoc X11 N8 g_b1
    have K13 : Keep h0 h11 [] := K8.wr W11 (Or.inr sz_b1)
    have Z13 : n0 ≤ h11.size := Nat.le_trans Z8 (Keep.of_wr W11).1
    have F14 : Arv Z h11 b1 k1 (.object "standwatch/query/CatalogChange") (3 : Int32) [(.ref o_COLUMNS), (.ref o_DEPENDENCIES), .null] .null := Arv.set Ar11 qk11 Sz11 Nn11 Hs11 Gs11 rfl W11 1 rfl (Nat.le_of_ble_eq_true rfl)
    refine own_go (fun t k => st11 t k) ?_
    show OwnG p.tables e below _ (T11.setTop (mkF m 44 #[.val (.int p0), .val (.int (0 : Int32)), .val (.int (0 : Int32)), .val (.int (0 : Int32)), .unset, .unset] [(.ref b1)]))
    refine own_go (fun t k => XS.dup X11.here hx rfl (hb hby at_44) rfl rfl k) ?_
    show OwnG p.tables e below _ (T11.setTop (mkF m 45 #[.val (.int p0), .val (.int (0 : Int32)), .val (.int (0 : Int32)), .val (.int (0 : Int32)), .unset, .unset] [(.ref b1), (.ref b1)]))
    refine own_go (fun t k => XS.iconst X11.here hx rfl (hb hby at_45) k) ?_
    show OwnG p.tables e below _ (T11.setTop (mkF m 46 #[.val (.int p0), .val (.int (0 : Int32)), .val (.int (0 : Int32)), .val (.int (0 : Int32)), .unset, .unset] [(.int (2 : Int32)), (.ref b1), (.ref b1)]))
    obtain ⟨T15, X15, e15, st15⟩ := getS2 X11 hx hZ hown (host := "") (Or.inl (hw _ (List.mem_of_getElem? (i := 8) rfl))) Via.refl e11 (S_COLUMNS_AND_DEPENDENCIES.ext F12.2) (g := (mkF m 46 #[.val (.int p0), .val (.int (0 : Int32)), .val (.int (0 : Int32)), .val (.int (0 : Int32)), .unset, .unset] [(.int (2 : Int32)), (.ref b1), (.ref b1)])) rfl (hb hby at_46)
    refine own_go (fun t k => st15 t k) ?_
    show OwnG p.tables e below _ (T15.setTop (mkF m 49 #[.val (.int p0), .val (.int (0 : Int32)), .val (.int (0 : Int32)), .val (.int (0 : Int32)), .unset, .unset] [(.ref o_COLUMNS_AND_DEPENDENCIES), (.int (2 : Int32)), (.ref b1), (.ref b1)]))
    obtain ⟨cl16, Ar16, qk16, Sz16, Nn16, Hs16, Gs16⟩ := F14
    have hin16 : ¬ ((2 : Int32) < 0 ∨ cl16.slots.size ≤ ((2 : Int32)).toNatClampNeg) := inb_of Sz16 ⟨by decide, by decide⟩
    obtain ⟨T16, h16, X16, e16, W16, st16⟩ := stR X15 hx hZ e15 Ar16 (j := (2 : Int32)) hin16 rfl (Sto.ofV Ar16 qk16 O1 (Ins.self (E_o_COLUMNS_AND_DEPENDENCIES.ext F12.2))) (g := (mkF m 49 #[.val (.int p0), .val (.int (0 : Int32)), .val (.int (0 : Int32)), .val (.int (0 : Int32)), .unset, .unset] [(.ref o_COLUMNS_AND_DEPENDENCIES), (.int (2 : Int32)), (.ref b1), (.ref b1)])) rfl rfl (hb hby at_49)
    have F17 : Old Z n0 h16 := F12.wr W16 g_b1
    have N18 := Fr.snoc X16 N13 g_b1
    have K18 : Keep h0 h16 [] := K13.wr W16 (Or.inr sz_b1)
    have Z18 : n0 ≤ h16.size := Nat.le_trans Z13 (Keep.of_wr W16).1
    have F19 : Arv Z h16 b1 k1 (.object "standwatch/query/CatalogChange") (3 : Int32) [(.ref o_COLUMNS), (.ref o_DEPENDENCIES), (.ref o_COLUMNS_AND_DEPENDENCIES)] .null := Arv.set Ar16 qk16 Sz16 Nn16 Hs16 Gs16 rfl W16 2 rfl (Nat.le_of_ble_eq_true rfl)
    refine own_go (fun t k => st16 t k) ?_
    show OwnG p.tables e below _ (T16.setTop (mkF m 50 #[.val (.int p0), .val (.int (0 : Int32)), .val (.int (0 : Int32)), .val (.int (0 : Int32)), .unset, .unset] [(.ref b1)]))
    refine own_go (fun t k => XS.astore X16.here hx rfl (hb hby at_50) rfl rfl (l' := #[.val (.int p0), .val (.int (0 : Int32)), .val (.int (0 : Int32)), .val (.int (0 : Int32)), .val (.ref b1), .unset]) rfl k) ?_
    show OwnG p.tables e below _ (T16.setTop (mkF m 52 #[.val (.int p0), .val (.int (0 : Int32)), .val (.int (0 : Int32)), .val (.int (0 : Int32)), .val (.ref b1), .unset] []))
    refine own_go (fun t k => XS.iloadN X16.here hx rfl (hb hby at_52) rfl  k) ?_
    show OwnG p.tables e below _ (T16.setTop (mkF m 53 #[.val (.int p0), .val (.int (0 : Int32)), .val (.int (0 : Int32)), .val (.int (0 : Int32)), .val (.ref b1), .unset] [(.int (0 : Int32))]))
    refine own_go (fun t k => XS.iloadN X16.here hx rfl (hb hby at_53) rfl  k) ?_
    show OwnG p.tables e below _ (T16.setTop (mkF m 54 #[.val (.int p0), .val (.int (0 : Int32)), .val (.int (0 : Int32)), .val (.int (0 : Int32)), .val (.ref b1), .unset] [(.int (0 : Int32)), (.int (0 : Int32))]))
    obtain ⟨_, _, ⟨T20, L20, k20, n20⟩, -, X20, ⟨Lc20, hQ20, l20, y20, z20⟩, st20⟩ := Jvm.LawKit.callS X16 hx (y := (⟨"standwatch/query/CatalogChange", "of", "(ZZ)Ljava/util/Optional;"⟩ : MethodName)) hown (mvT hZ (hw _ (List.mem_of_getElem? (i := 10) rfl))) (mvT hZ (hw _ (List.mem_of_getElem? (i := 11) rfl))) (mvT hZ (hw _ (List.mem_of_getElem? (i := 3) rfl))) (mvT hZ (hw _ (List.mem_of_getElem? (i := 12) rfl))) (by decide) (backOf (W := 0) (own_cof0 l Z a0 hw [] o_COLUMNS o_DEPENDENCIES o_COLUMNS_AND_DEPENDENCIES o_EMPTY h16 n0 Z18 F17 S_COLUMNS E_o_COLUMNS S_DEPENDENCIES E_o_DEPENDENCIES S_COLUMNS_AND_DEPENDENCIES E_o_COLUMNS_AND_DEPENDENCIES S_EMPTY E_o_EMPTY F_o_EMPTY_value) hZ (hw _ (List.mem_of_getElem? (i := 12) rfl)) (hw _ (List.mem_of_getElem? (i := 3) rfl)) (by decide) (by decide)) (g := (mkF m 54 #[.val (.int p0), .val (.int (0 : Int32)), .val (.int (0 : Int32)), .val (.int (0 : Int32)), .val (.ref b1), .unset] [(.int (0 : Int32)), (.int (0 : Int32))])) rfl (by rw [hml]; rfl) (argsL := [(.int (0 : Int32)), (.int (0 : Int32))]) (rest := []) (lenOf own_pd69 rfl) rfl (by show 2 * 0 + _ ≤ _; exact Nat.le_of_eq rfl) (hb hby at_54) (fun _ _ => ⟨rfl, e16, (by decide : 1 + 0 ≤ _), (by decide : 3 + 0 ≤ _)⟩)
    dsimp only [Pt.U, Pt.locs, Pt.cells, Pt.slots] at X20 l20 y20 z20 st20 hQ20
    subst l20 y20 z20
    obtain ⟨rfl, Nq20, eq20⟩ := hQ20
    have N20 := Fr.app N18 Nq20
    have e20 : T20.heap = h16 := eq20
    refine own_go (fun t k => st20 t k) ?_
    show OwnG p.tables e below _ (T20.setTop (mkF m 57 #[.val (.int p0), .val (.int (0 : Int32)), .val (.int (0 : Int32)), .val (.int (0 : Int32)), .val (.ref b1), .unset] [(.ref o_EMPTY)]))
    refine own_go (fun t k => XS.astore X20.here hx rfl (hb hby at_57) rfl rfl (l' := #[.val (.int p0), .val (.int (0 : Int32)), .val (.int (0 : Int32)), .val (.int (0 : Int32)), .val (.ref b1), .val (.ref o_EMPTY)]) rfl k) ?_
    show OwnG p.tables e below _ (T20.setTop (mkF m 59 #[.val (.int p0), .val (.int (0 : Int32)), .val (.int (0 : Int32)), .val (.int (0 : Int32)), .val (.ref b1), .val (.ref o_EMPTY)] []))
    refine own_go (fun t k => XS.aload X20.here hx rfl (hb hby at_59) rfl rfl k) ?_
    show OwnG p.tables e below _ (T20.setTop (mkF m 61 #[.val (.int p0), .val (.int (0 : Int32)), .val (.int (0 : Int32)), .val (.int (0 : Int32)), .val (.ref b1), .val (.ref o_EMPTY)] [(.ref o_EMPTY)]))
    refine own_go (fun t k => XS.ifnonnullYes X20.here hx rfl (pc0 := 61) (pc' := 66) rfl (hb hby at_61) rfl (by decide) (by decide) k) ?_
    show OwnG p.tables e below _ (T20.setTop (mkF m 66 #[.val (.int p0), .val (.int (0 : Int32)), .val (.int (0 : Int32)), .val (.int (0 : Int32)), .val (.ref b1), .val (.ref o_EMPTY)] []))
    refine own_go (fun t k => XS.iloadN X20.here hx rfl (hb hby at_66) rfl  k) ?_
    show OwnG p.tables e below _ (T20.setTop (mkF m 67 #[.val (.int p0), .val (.int (0 : Int32)), .val (.int (0 : Int32)), .val (.int (0 : Int32)), .val (.ref b1), .val (.ref o_EMPTY)] [(.int (0 : Int32))]))
    refine own_go (fun t k => XS.ifNo X20.here hx rfl (hb hby at_67) rfl ((if0 _ _).trans (teq (by decide : (0 : Int32) = (0 : Int32))).2) k) ?_
    show OwnG p.tables e below _ (T20.setTop (mkF m 70 #[.val (.int p0), .val (.int (0 : Int32)), .val (.int (0 : Int32)), .val (.int (0 : Int32)), .val (.ref b1), .val (.ref o_EMPTY)] []))
    refine own_go (fun t k => XS.aload X20.here hx rfl (hb hby at_70) rfl rfl k) ?_
    show OwnG p.tables e below _ (T20.setTop (mkF m 72 #[.val (.int p0), .val (.int (0 : Int32)), .val (.int (0 : Int32)), .val (.int (0 : Int32)), .val (.ref b1), .val (.ref o_EMPTY)] [(.ref o_EMPTY)]))
    obtain ⟨cq21, kq21, q21a, q21b, q21c⟩ := isOf hZ e20 (E_o_EMPTY.ext F17.2)
    obtain ⟨_, _, ⟨T21, L21, k21, n21⟩, -, X21, ⟨Lc21, hQ21, l21, y21, z21⟩, st21⟩ := X20.virtualBack hx (y := (⟨"java/util/Optional", "isPresent", "()Z"⟩ : MethodName)) (z := (⟨"java/util/Optional", "isPresent", "()Z"⟩ : MethodName)) hown (mvT hZ (hw _ (List.mem_of_getElem? (i := 18) rfl))) (mvT hZ (hw _ (List.mem_of_getElem? (i := 19) rfl))) (notFace_of_selects (args := #[]) (mvT hZ (hw _ (List.mem_of_getElem? (i := 21) rfl)))) (mvT hZ (hw _ (List.mem_of_getElem? (i := 21) rfl))) (mvT hZ (hw _ (List.mem_of_getElem? (i := 20) rfl))) (by decide) (backOf (W := 0) (own_ip0 l Z a0 hw [] o_EMPTY h16 n0 Z18 (F_o_EMPTY_value.ext F17.2)) hZ (hw _ (List.mem_of_getElem? (i := 22) rfl)) (hw _ (List.mem_of_getElem? (i := 15) rfl)) (by decide) (by decide)) q21a q21c (g := (mkF m 72 #[.val (.int p0), .val (.int (0 : Int32)), .val (.int (0 : Int32)), .val (.int (0 : Int32)), .val (.ref b1), .val (.ref o_EMPTY)] [(.ref o_EMPTY)])) rfl (by rw [hml]; rfl) (Steps.refl _) (argsL := []) (rest := []) (lenOf own_pd70 rfl) rfl (by show 2 * 0 + _ ≤ _; exact Nat.le_of_eq rfl) (hb hby at_72) (fun _ _ => ⟨rfl, e20, (by decide : 1 + 0 ≤ _), (by decide : 3 + 0 ≤ _)⟩)
    dsimp only [Pt.U, Pt.locs, Pt.cells, Pt.slots] at X21 l21 y21 z21 st21 hQ21
    subst l21 y21 z21
    obtain ⟨rfl, Nq21, eq21⟩ := hQ21
    have N21 := Fr.app N20 Nq21
    have e21 : T21.heap = h16 := eq21
    refine own_go (fun t k => st21.trans k) ?_
    show OwnG p.tables e below _ (T21.setTop (mkF m 75 #[.val (.int p0), .val (.int (0 : Int32)), .val (.int (0 : Int32)), .val (.int (0 : Int32)), .val (.ref b1), .val (.ref o_EMPTY)] [(.int (0 : Int32))]))
    refine own_go (fun t k => XS.ifNo X21.here hx rfl (hb hby at_75) rfl ((if0 _ _).trans (teq (by decide : (0 : Int32) = (0 : Int32))).2) k) ?_
    show OwnG p.tables e below _ (T21.setTop (mkF m 78 #[.val (.int p0), .val (.int (0 : Int32)), .val (.int (0 : Int32)), .val (.int (0 : Int32)), .val (.ref b1), .val (.ref o_EMPTY)] []))
    refine own_go (fun t k => XS.iconst X21.here hx rfl (hb hby at_78) k) ?_
    show OwnG p.tables e below _ (T21.setTop (mkF m 79 #[.val (.int p0), .val (.int (0 : Int32)), .val (.int (0 : Int32)), .val (.int (0 : Int32)), .val (.ref b1), .val (.ref o_EMPTY)] [(.int (1 : Int32))]))
    refine own_go (fun t k => XS.goto X21.here hx rfl (pc0 := 79) (pc' := 83) rfl (hb hby at_79) (by decide) (by decide) k) ?_
    show OwnG p.tables e below _ (T21.setTop (mkF m 83 #[.val (.int p0), .val (.int (0 : Int32)), .val (.int (0 : Int32)), .val (.int (0 : Int32)), .val (.ref b1), .val (.ref o_EMPTY)] [(.int (1 : Int32))]))
    obtain ⟨fs, hr, hrun, hended, hW, hsame⟩ := X21.leave (v := some (.int (1 : Int32))) (fun h => by rw [Bd.returns] at h; cases h)
    refine ⟨_, _, retN X21 hx (t := .boolean) Bd.returns (by simp) (hb hby at_83) hr, hrun, hended, _, _, rfl, ?_, ⟨_, rfl⟩, hW, hsame.mono (by decide) (by decide)⟩
    show Q_own_law Z p0 o_COLUMNS o_DEPENDENCIES o_COLUMNS_AND_DEPENDENCIES o_EMPTY h0 n0 _ T21.heap _
    rw [e21]
    exact ⟨rfl, N21⟩
  · refine own_go (fun t k => XS.iloadN X0.here hx rfl (hb hby at_0) rfl  k) ?_
    show OwnG p.tables e below _ (s₁.setTop (mkF m 1 #[.val (.int p0), .unset, .unset, .unset, .unset, .unset] [(.int p0)]))
    refine own_go (fun t k => XS.iconst X0.here hx rfl (hb hby at_1) k) ?_
    show OwnG p.tables e below _ (s₁.setTop (mkF m 2 #[.val (.int p0), .unset, .unset, .unset, .unset, .unset] [(.int (1 : Int32)), (.int p0)]))
    refine own_go (fun t k => XS.iand X0.here hx rfl (hb hby at_2) rfl k) ?_
    show OwnG p.tables e below _ (s₁.setTop (mkF m 3 #[.val (.int p0), .unset, .unset, .unset, .unset, .unset] [(.int (p0 &&& (1 : Int32)))]))
    rw [h1]
    show OwnG p.tables e below _ (s₁.setTop (mkF m 3 #[.val (.int p0), .unset, .unset, .unset, .unset, .unset] [(.int (1 : Int32))]))
    refine own_go (fun t k => XS.ifNo X0.here hx rfl (hb hby at_3) rfl ((if0 _ _).trans (feq (by decide : ¬ ((1 : Int32) = (0 : Int32)))).1) k) ?_
    show OwnG p.tables e below _ (s₁.setTop (mkF m 6 #[.val (.int p0), .unset, .unset, .unset, .unset, .unset] []))
    refine own_go (fun t k => XS.iconst X0.here hx rfl (hb hby at_6) k) ?_
    show OwnG p.tables e below _ (s₁.setTop (mkF m 7 #[.val (.int p0), .unset, .unset, .unset, .unset, .unset] [(.int (1 : Int32))]))
    refine own_go (fun t k => XS.goto X0.here hx rfl (pc0 := 7) (pc' := 11) rfl (hb hby at_7) (by decide) (by decide) k) ?_
    show OwnG p.tables e below _ (s₁.setTop (mkF m 11 #[.val (.int p0), .unset, .unset, .unset, .unset, .unset] [(.int (1 : Int32))]))
    refine own_go (fun t k => XS.istoreN X0.here hx rfl (hb hby at_11) rfl (l' := #[.val (.int p0), .val (.int (1 : Int32)), .unset, .unset, .unset, .unset]) rfl k) ?_
    show OwnG p.tables e below _ (s₁.setTop (mkF m 12 #[.val (.int p0), .val (.int (1 : Int32)), .unset, .unset, .unset, .unset] []))
    refine own_go (fun t k => XS.iloadN X0.here hx rfl (hb hby at_12) rfl  k) ?_
    show OwnG p.tables e below _ (s₁.setTop (mkF m 13 #[.val (.int p0), .val (.int (1 : Int32)), .unset, .unset, .unset, .unset] [(.int p0)]))
    refine own_go (fun t k => XS.iconst X0.here hx rfl (hb hby at_13) k) ?_
    show OwnG p.tables e below _ (s₁.setTop (mkF m 14 #[.val (.int p0), .val (.int (1 : Int32)), .unset, .unset, .unset, .unset] [(.int (2 : Int32)), (.int p0)]))
    refine own_go (fun t k => XS.iand X0.here hx rfl (hb hby at_14) rfl k) ?_
    show OwnG p.tables e below _ (s₁.setTop (mkF m 15 #[.val (.int p0), .val (.int (1 : Int32)), .unset, .unset, .unset, .unset] [(.int (p0 &&& (2 : Int32)))]))
    rw [h2]
    show OwnG p.tables e below _ (s₁.setTop (mkF m 15 #[.val (.int p0), .val (.int (1 : Int32)), .unset, .unset, .unset, .unset] [(.int (0 : Int32))]))
    refine own_go (fun t k => XS.ifYes X0.here hx rfl (pc0 := 15) (pc' := 22) rfl (hb hby at_15) rfl ((if0 _ _).trans (teq (by decide : (0 : Int32) = (0 : Int32))).1) (by decide) (by decide) k) ?_
    show OwnG p.tables e below _ (s₁.setTop (mkF m 22 #[.val (.int p0), .val (.int (1 : Int32)), .unset, .unset, .unset, .unset] []))
    refine own_go (fun t k => XS.iconst X0.here hx rfl (hb hby at_22) k) ?_
    show OwnG p.tables e below _ (s₁.setTop (mkF m 23 #[.val (.int p0), .val (.int (1 : Int32)), .unset, .unset, .unset, .unset] [(.int (0 : Int32))]))
    refine own_go (fun t k => XS.istoreN X0.here hx rfl (hb hby at_23) rfl (l' := #[.val (.int p0), .val (.int (1 : Int32)), .val (.int (0 : Int32)), .unset, .unset, .unset]) rfl k) ?_
    show OwnG p.tables e below _ (s₁.setTop (mkF m 24 #[.val (.int p0), .val (.int (1 : Int32)), .val (.int (0 : Int32)), .unset, .unset, .unset] []))
    refine own_go (fun t k => XS.iloadN X0.here hx rfl (hb hby at_24) rfl  k) ?_
    show OwnG p.tables e below _ (s₁.setTop (mkF m 25 #[.val (.int p0), .val (.int (1 : Int32)), .val (.int (0 : Int32)), .unset, .unset, .unset] [(.int p0)]))
    refine own_go (fun t k => XS.iconst X0.here hx rfl (hb hby at_25) k) ?_
    show OwnG p.tables e below _ (s₁.setTop (mkF m 26 #[.val (.int p0), .val (.int (1 : Int32)), .val (.int (0 : Int32)), .unset, .unset, .unset] [(.int (3 : Int32)), (.int p0)]))
    refine own_go (fun t k => XS.iand X0.here hx rfl (hb hby at_26) rfl k) ?_
    show OwnG p.tables e below _ (s₁.setTop (mkF m 27 #[.val (.int p0), .val (.int (1 : Int32)), .val (.int (0 : Int32)), .unset, .unset, .unset] [(.int (p0 &&& (3 : Int32)))]))
    rw [h3]
    show OwnG p.tables e below _ (s₁.setTop (mkF m 27 #[.val (.int p0), .val (.int (1 : Int32)), .val (.int (0 : Int32)), .unset, .unset, .unset] [(.int (1 : Int32))]))
    refine own_go (fun t k => XS.istoreN X0.here hx rfl (hb hby at_27) rfl (l' := #[.val (.int p0), .val (.int (1 : Int32)), .val (.int (0 : Int32)), .val (.int (1 : Int32)), .unset, .unset]) rfl k) ?_
    show OwnG p.tables e below _ (s₁.setTop (mkF m 28 #[.val (.int p0), .val (.int (1 : Int32)), .val (.int (0 : Int32)), .val (.int (1 : Int32)), .unset, .unset] []))
    refine own_go (fun t k => XS.iconst X0.here hx rfl (hb hby at_28) k) ?_
    show OwnG p.tables e below _ (s₁.setTop (mkF m 29 #[.val (.int p0), .val (.int (1 : Int32)), .val (.int (0 : Int32)), .val (.int (1 : Int32)), .unset, .unset] [(.int (3 : Int32))]))
    obtain ⟨T22, h22, k22, X22, e22, E22, A22, O22, st22⟩ := newR X0 hx hZ hown (hw _ (List.mem_of_getElem? (i := 0) rfl)) (hw _ (List.mem_of_getElem? (i := 1) rfl)) e0 (g := (mkF m 29 #[.val (.int p0), .val (.int (1 : Int32)), .val (.int (0 : Int32)), .val (.int (1 : Int32)), .unset, .unset] [(.int (3 : Int32))])) rfl (hb hby at_29) rfl (by decide) (cap := 3) (by decide) (by decide) (by decide) (by decide)
    obtain ⟨b22, g22⟩ : ∃ z, z = h0.size := ⟨_, rfl⟩
    rw [← g22] at A22 st22
    have g_b22 : n0 ≤ b22 := Nat.le_trans Z0 (Nat.le_of_eq g22.symm)
    have sz_b22 : h0.size ≤ b22 := Nat.le_trans K0.1 (Nat.le_of_eq g22.symm)
    have F23 : Old Z n0 h22 := O0.ext E22
    have K24 : Keep h0 h22 [] := K0.ext E22
    have Z24 : n0 ≤ h22.size := Nat.le_trans Z0 E22.1
    have F25 : Arv Z h22 b22 k22 (.object "standwatch/query/CatalogChange") (3 : Int32) [.null, .null, .null] .null := (Arv.new A22 (by decide)).pad (pad_rep [] .null 3)
    refine own_go (fun t k => st22 t k) ?_
    show OwnG p.tables e below _ (T22.setTop (mkF m 32 #[.val (.int p0), .val (.int (1 : Int32)), .val (.int (0 : Int32)), .val (.int (1 : Int32)), .unset, .unset] [(.ref b22)]))
    refine own_go (fun t k => XS.dup X22.here hx rfl (hb hby at_32) rfl rfl k) ?_
    show OwnG p.tables e below _ (T22.setTop (mkF m 33 #[.val (.int p0), .val (.int (1 : Int32)), .val (.int (0 : Int32)), .val (.int (1 : Int32)), .unset, .unset] [(.ref b22), (.ref b22)]))
    refine own_go (fun t k => XS.iconst X22.here hx rfl (hb hby at_33) k) ?_
    show OwnG p.tables e below _ (T22.setTop (mkF m 34 #[.val (.int p0), .val (.int (1 : Int32)), .val (.int (0 : Int32)), .val (.int (1 : Int32)), .unset, .unset] [(.int (0 : Int32)), (.ref b22), (.ref b22)]))
    obtain ⟨T26, X26, e26, st26⟩ := getS2 X22 hx hZ hown (host := "") (Or.inl (hw _ (List.mem_of_getElem? (i := 2) rfl))) Via.refl e22 (S_COLUMNS.ext F23.2) (g := (mkF m 34 #[.val (.int p0), .val (.int (1 : Int32)), .val (.int (0 : Int32)), .val (.int (1 : Int32)), .unset, .unset] [(.int (0 : Int32)), (.ref b22), (.ref b22)])) rfl (hb hby at_34)
    refine own_go (fun t k => st26 t k) ?_
    show OwnG p.tables e below _ (T26.setTop (mkF m 37 #[.val (.int p0), .val (.int (1 : Int32)), .val (.int (0 : Int32)), .val (.int (1 : Int32)), .unset, .unset] [(.ref o_COLUMNS), (.int (0 : Int32)), (.ref b22), (.ref b22)]))
    obtain ⟨cl27, Ar27, qk27, Sz27, Nn27, Hs27, Gs27⟩ := F25
    have hin27 : ¬ ((0 : Int32) < 0 ∨ cl27.slots.size ≤ ((0 : Int32)).toNatClampNeg) := inb_of Sz27 ⟨by decide, by decide⟩
    obtain ⟨T27, h27, X27, e27, W27, st27⟩ := stR X26 hx hZ e26 Ar27 (j := (0 : Int32)) hin27 rfl (Sto.ofV Ar27 qk27 O22 (Ins.self (E_o_COLUMNS.ext F23.2))) (g := (mkF m 37 #[.val (.int p0), .val (.int (1 : Int32)), .val (.int (0 : Int32)), .val (.int (1 : Int32)), .unset, .unset] [(.ref o_COLUMNS), (.int (0 : Int32)), (.ref b22), (.ref b22)])) rfl rfl (hb hby at_37)
    have F28 : Old Z n0 h27 := F23.wr W27 g_b22
    have N29 := Fr.snoc X27 N0 g_b22
    have K29 : Keep h0 h27 [] := K24.wr W27 (Or.inr sz_b22)
    have Z29 : n0 ≤ h27.size := Nat.le_trans Z24 (Keep.of_wr W27).1
    have F30 : Arv Z h27 b22 k22 (.object "standwatch/query/CatalogChange") (3 : Int32) [(.ref o_COLUMNS), .null, .null] .null := Arv.set Ar27 qk27 Sz27 Nn27 Hs27 Gs27 rfl W27 0 rfl (Nat.le_of_ble_eq_true rfl)
    refine own_go (fun t k => st27 t k) ?_
    show OwnG p.tables e below _ (T27.setTop (mkF m 38 #[.val (.int p0), .val (.int (1 : Int32)), .val (.int (0 : Int32)), .val (.int (1 : Int32)), .unset, .unset] [(.ref b22)]))
    refine own_go (fun t k => XS.dup X27.here hx rfl (hb hby at_38) rfl rfl k) ?_
    show OwnG p.tables e below _ (T27.setTop (mkF m 39 #[.val (.int p0), .val (.int (1 : Int32)), .val (.int (0 : Int32)), .val (.int (1 : Int32)), .unset, .unset] [(.ref b22), (.ref b22)]))
    refine own_go (fun t k => XS.iconst X27.here hx rfl (hb hby at_39) k) ?_
    show OwnG p.tables e below _ (T27.setTop (mkF m 40 #[.val (.int p0), .val (.int (1 : Int32)), .val (.int (0 : Int32)), .val (.int (1 : Int32)), .unset, .unset] [(.int (1 : Int32)), (.ref b22), (.ref b22)]))
    obtain ⟨T31, X31, e31, st31⟩ := getS2 X27 hx hZ hown (host := "") (Or.inl (hw _ (List.mem_of_getElem? (i := 6) rfl))) Via.refl e27 (S_DEPENDENCIES.ext F28.2) (g := (mkF m 40 #[.val (.int p0), .val (.int (1 : Int32)), .val (.int (0 : Int32)), .val (.int (1 : Int32)), .unset, .unset] [(.int (1 : Int32)), (.ref b22), (.ref b22)])) rfl (hb hby at_40)
    refine own_go (fun t k => st31 t k) ?_
    show OwnG p.tables e below _ (T31.setTop (mkF m 43 #[.val (.int p0), .val (.int (1 : Int32)), .val (.int (0 : Int32)), .val (.int (1 : Int32)), .unset, .unset] [(.ref o_DEPENDENCIES), (.int (1 : Int32)), (.ref b22), (.ref b22)]))
    obtain ⟨cl32, Ar32, qk32, Sz32, Nn32, Hs32, Gs32⟩ := F30
    have hin32 : ¬ ((1 : Int32) < 0 ∨ cl32.slots.size ≤ ((1 : Int32)).toNatClampNeg) := inb_of Sz32 ⟨by decide, by decide⟩
    obtain ⟨T32, h32, X32, e32, W32, st32⟩ := stR X31 hx hZ e31 Ar32 (j := (1 : Int32)) hin32 rfl (Sto.ofV Ar32 qk32 O22 (Ins.self (E_o_DEPENDENCIES.ext F28.2))) (g := (mkF m 43 #[.val (.int p0), .val (.int (1 : Int32)), .val (.int (0 : Int32)), .val (.int (1 : Int32)), .unset, .unset] [(.ref o_DEPENDENCIES), (.int (1 : Int32)), (.ref b22), (.ref b22)])) rfl rfl (hb hby at_43)
    have F33 : Old Z n0 h32 := F28.wr W32 g_b22
    have N34 := Fr.snoc X32 N29 g_b22
    have K34 : Keep h0 h32 [] := K29.wr W32 (Or.inr sz_b22)
    have Z34 : n0 ≤ h32.size := Nat.le_trans Z29 (Keep.of_wr W32).1
    have F35 : Arv Z h32 b22 k22 (.object "standwatch/query/CatalogChange") (3 : Int32) [(.ref o_COLUMNS), (.ref o_DEPENDENCIES), .null] .null := Arv.set Ar32 qk32 Sz32 Nn32 Hs32 Gs32 rfl W32 1 rfl (Nat.le_of_ble_eq_true rfl)
    refine own_go (fun t k => st32 t k) ?_
    show OwnG p.tables e below _ (T32.setTop (mkF m 44 #[.val (.int p0), .val (.int (1 : Int32)), .val (.int (0 : Int32)), .val (.int (1 : Int32)), .unset, .unset] [(.ref b22)]))
    refine own_go (fun t k => XS.dup X32.here hx rfl (hb hby at_44) rfl rfl k) ?_
    show OwnG p.tables e below _ (T32.setTop (mkF m 45 #[.val (.int p0), .val (.int (1 : Int32)), .val (.int (0 : Int32)), .val (.int (1 : Int32)), .unset, .unset] [(.ref b22), (.ref b22)]))
    refine own_go (fun t k => XS.iconst X32.here hx rfl (hb hby at_45) k) ?_
    show OwnG p.tables e below _ (T32.setTop (mkF m 46 #[.val (.int p0), .val (.int (1 : Int32)), .val (.int (0 : Int32)), .val (.int (1 : Int32)), .unset, .unset] [(.int (2 : Int32)), (.ref b22), (.ref b22)]))
    obtain ⟨T36, X36, e36, st36⟩ := getS2 X32 hx hZ hown (host := "") (Or.inl (hw _ (List.mem_of_getElem? (i := 8) rfl))) Via.refl e32 (S_COLUMNS_AND_DEPENDENCIES.ext F33.2) (g := (mkF m 46 #[.val (.int p0), .val (.int (1 : Int32)), .val (.int (0 : Int32)), .val (.int (1 : Int32)), .unset, .unset] [(.int (2 : Int32)), (.ref b22), (.ref b22)])) rfl (hb hby at_46)
    refine own_go (fun t k => st36 t k) ?_
    show OwnG p.tables e below _ (T36.setTop (mkF m 49 #[.val (.int p0), .val (.int (1 : Int32)), .val (.int (0 : Int32)), .val (.int (1 : Int32)), .unset, .unset] [(.ref o_COLUMNS_AND_DEPENDENCIES), (.int (2 : Int32)), (.ref b22), (.ref b22)]))
    obtain ⟨cl37, Ar37, qk37, Sz37, Nn37, Hs37, Gs37⟩ := F35
    have hin37 : ¬ ((2 : Int32) < 0 ∨ cl37.slots.size ≤ ((2 : Int32)).toNatClampNeg) := inb_of Sz37 ⟨by decide, by decide⟩
    obtain ⟨T37, h37, X37, e37, W37, st37⟩ := stR X36 hx hZ e36 Ar37 (j := (2 : Int32)) hin37 rfl (Sto.ofV Ar37 qk37 O22 (Ins.self (E_o_COLUMNS_AND_DEPENDENCIES.ext F33.2))) (g := (mkF m 49 #[.val (.int p0), .val (.int (1 : Int32)), .val (.int (0 : Int32)), .val (.int (1 : Int32)), .unset, .unset] [(.ref o_COLUMNS_AND_DEPENDENCIES), (.int (2 : Int32)), (.ref b22), (.ref b22)])) rfl rfl (hb hby at_49)
    have F38 : Old Z n0 h37 := F33.wr W37 g_b22
    have N39 := Fr.snoc X37 N34 g_b22
    have K39 : Keep h0 h37 [] := K34.wr W37 (Or.inr sz_b22)
    have Z39 : n0 ≤ h37.size := Nat.le_trans Z34 (Keep.of_wr W37).1
    have F40 : Arv Z h37 b22 k22 (.object "standwatch/query/CatalogChange") (3 : Int32) [(.ref o_COLUMNS), (.ref o_DEPENDENCIES), (.ref o_COLUMNS_AND_DEPENDENCIES)] .null := Arv.set Ar37 qk37 Sz37 Nn37 Hs37 Gs37 rfl W37 2 rfl (Nat.le_of_ble_eq_true rfl)
    refine own_go (fun t k => st37 t k) ?_
    show OwnG p.tables e below _ (T37.setTop (mkF m 50 #[.val (.int p0), .val (.int (1 : Int32)), .val (.int (0 : Int32)), .val (.int (1 : Int32)), .unset, .unset] [(.ref b22)]))
    refine own_go (fun t k => XS.astore X37.here hx rfl (hb hby at_50) rfl rfl (l' := #[.val (.int p0), .val (.int (1 : Int32)), .val (.int (0 : Int32)), .val (.int (1 : Int32)), .val (.ref b22), .unset]) rfl k) ?_
    show OwnG p.tables e below _ (T37.setTop (mkF m 52 #[.val (.int p0), .val (.int (1 : Int32)), .val (.int (0 : Int32)), .val (.int (1 : Int32)), .val (.ref b22), .unset] []))
    refine own_go (fun t k => XS.iloadN X37.here hx rfl (hb hby at_52) rfl  k) ?_
    show OwnG p.tables e below _ (T37.setTop (mkF m 53 #[.val (.int p0), .val (.int (1 : Int32)), .val (.int (0 : Int32)), .val (.int (1 : Int32)), .val (.ref b22), .unset] [(.int (1 : Int32))]))
    refine own_go (fun t k => XS.iloadN X37.here hx rfl (hb hby at_53) rfl  k) ?_
    show OwnG p.tables e below _ (T37.setTop (mkF m 54 #[.val (.int p0), .val (.int (1 : Int32)), .val (.int (0 : Int32)), .val (.int (1 : Int32)), .val (.ref b22), .unset] [(.int (0 : Int32)), (.int (1 : Int32))]))
    obtain ⟨_, _, ⟨T41, L41, k41, n41⟩, -, X41, ⟨Lc41, hQ41, l41, y41, z41⟩, st41⟩ := Jvm.LawKit.callS X37 hx (y := (⟨"standwatch/query/CatalogChange", "of", "(ZZ)Ljava/util/Optional;"⟩ : MethodName)) hown (mvT hZ (hw _ (List.mem_of_getElem? (i := 10) rfl))) (mvT hZ (hw _ (List.mem_of_getElem? (i := 11) rfl))) (mvT hZ (hw _ (List.mem_of_getElem? (i := 3) rfl))) (mvT hZ (hw _ (List.mem_of_getElem? (i := 12) rfl))) (by decide) (backOf (W := 0) (own_cof1 l Z a0 hw [] o_COLUMNS o_DEPENDENCIES o_COLUMNS_AND_DEPENDENCIES o_EMPTY h37 n0 Z39 F38 S_COLUMNS E_o_COLUMNS S_DEPENDENCIES E_o_DEPENDENCIES S_COLUMNS_AND_DEPENDENCIES E_o_COLUMNS_AND_DEPENDENCIES S_EMPTY E_o_EMPTY F_o_EMPTY_value) hZ (hw _ (List.mem_of_getElem? (i := 12) rfl)) (hw _ (List.mem_of_getElem? (i := 3) rfl)) (by decide) (by decide)) (g := (mkF m 54 #[.val (.int p0), .val (.int (1 : Int32)), .val (.int (0 : Int32)), .val (.int (1 : Int32)), .val (.ref b22), .unset] [(.int (0 : Int32)), (.int (1 : Int32))])) rfl (by rw [hml]; rfl) (argsL := [(.int (1 : Int32)), (.int (0 : Int32))]) (rest := []) (lenOf own_pd69 rfl) rfl (by show 2 * 0 + _ ≤ _; exact Nat.le_of_eq rfl) (hb hby at_54) (fun _ _ => ⟨rfl, e37, (by decide : 1 + 1 ≤ _), (by decide : 3 + 1 ≤ _)⟩)
    dsimp only [Pt.U, Pt.locs, Pt.cells, Pt.slots] at X41 l41 y41 z41 st41 hQ41
    subst l41 y41 z41
    obtain ⟨bw_41, rfl, Nq41, Kq41, Fq41_0, Fq41_1⟩ := hQ41
    have N41 := Fr.app N39 Nq41
    have F42 : Old Z n0 T41.heap := F38.keep Kq41 all0
    have F43 : Arv Z T41.heap b22 k22 (.object "standwatch/query/CatalogChange") (3 : Int32) [(.ref o_COLUMNS), (.ref o_DEPENDENCIES), (.ref o_COLUMNS_AND_DEPENDENCIES)] .null := F40.keep Kq41 nin0
    have K41 : Keep h0 T41.heap [] := K39.trans Kq41 all0
    have Z41 : n0 ≤ T41.heap.size := Nat.le_trans Z39 Kq41.1
    refine own_go (fun t k => st41 t k) ?_
    show OwnG p.tables e below _ (T41.setTop (mkF m 57 #[.val (.int p0), .val (.int (1 : Int32)), .val (.int (0 : Int32)), .val (.int (1 : Int32)), .val (.ref b22), .unset] [(.ref bw_41)]))
    refine own_go (fun t k => XS.astore X41.here hx rfl (hb hby at_57) rfl rfl (l' := #[.val (.int p0), .val (.int (1 : Int32)), .val (.int (0 : Int32)), .val (.int (1 : Int32)), .val (.ref b22), .val (.ref bw_41)]) rfl k) ?_
    show OwnG p.tables e below _ (T41.setTop (mkF m 59 #[.val (.int p0), .val (.int (1 : Int32)), .val (.int (0 : Int32)), .val (.int (1 : Int32)), .val (.ref b22), .val (.ref bw_41)] []))
    refine own_go (fun t k => XS.aload X41.here hx rfl (hb hby at_59) rfl rfl k) ?_
    show OwnG p.tables e below _ (T41.setTop (mkF m 61 #[.val (.int p0), .val (.int (1 : Int32)), .val (.int (0 : Int32)), .val (.int (1 : Int32)), .val (.ref b22), .val (.ref bw_41)] [(.ref bw_41)]))
    refine own_go (fun t k => XS.ifnonnullYes X41.here hx rfl (pc0 := 61) (pc' := 66) rfl (hb hby at_61) rfl (by decide) (by decide) k) ?_
    show OwnG p.tables e below _ (T41.setTop (mkF m 66 #[.val (.int p0), .val (.int (1 : Int32)), .val (.int (0 : Int32)), .val (.int (1 : Int32)), .val (.ref b22), .val (.ref bw_41)] []))
    refine own_go (fun t k => XS.iloadN X41.here hx rfl (hb hby at_66) rfl  k) ?_
    show OwnG p.tables e below _ (T41.setTop (mkF m 67 #[.val (.int p0), .val (.int (1 : Int32)), .val (.int (0 : Int32)), .val (.int (1 : Int32)), .val (.ref b22), .val (.ref bw_41)] [(.int (1 : Int32))]))
    refine own_go (fun t k => XS.ifYes X41.here hx rfl (pc0 := 67) (pc' := 84) rfl (hb hby at_67) rfl ((if0 _ _).trans (feq (by decide : ¬ ((1 : Int32) = (0 : Int32)))).2) (by decide) (by decide) k) ?_
    show OwnG p.tables e below _ (T41.setTop (mkF m 84 #[.val (.int p0), .val (.int (1 : Int32)), .val (.int (0 : Int32)), .val (.int (1 : Int32)), .val (.ref b22), .val (.ref bw_41)] []))
    refine own_go (fun t k => XS.aload X41.here hx rfl (hb hby at_84) rfl rfl k) ?_
    show OwnG p.tables e below _ (T41.setTop (mkF m 86 #[.val (.int p0), .val (.int (1 : Int32)), .val (.int (0 : Int32)), .val (.int (1 : Int32)), .val (.ref b22), .val (.ref bw_41)] [(.ref bw_41)]))
    obtain ⟨cq44, kq44, q44a, q44b, q44c⟩ := isOf hZ rfl Fq41_0
    obtain ⟨_, _, ⟨T44, L44, k44, n44⟩, -, X44, ⟨Lc44, hQ44, l44, y44, z44⟩, st44⟩ := X41.virtualBack hx (y := (⟨"java/util/Optional", "isPresent", "()Z"⟩ : MethodName)) (z := (⟨"java/util/Optional", "isPresent", "()Z"⟩ : MethodName)) hown (mvT hZ (hw _ (List.mem_of_getElem? (i := 18) rfl))) (mvT hZ (hw _ (List.mem_of_getElem? (i := 19) rfl))) (notFace_of_selects (args := #[]) (mvT hZ (hw _ (List.mem_of_getElem? (i := 21) rfl)))) (mvT hZ (hw _ (List.mem_of_getElem? (i := 21) rfl))) (mvT hZ (hw _ (List.mem_of_getElem? (i := 20) rfl))) (by decide) (backOf (W := 0) (own_ip1 l Z a0 hw [] bw_41 o_COLUMNS T41.heap n0 Z41 Fq41_1) hZ (hw _ (List.mem_of_getElem? (i := 22) rfl)) (hw _ (List.mem_of_getElem? (i := 15) rfl)) (by decide) (by decide)) q44a q44c (g := (mkF m 86 #[.val (.int p0), .val (.int (1 : Int32)), .val (.int (0 : Int32)), .val (.int (1 : Int32)), .val (.ref b22), .val (.ref bw_41)] [(.ref bw_41)])) rfl (by rw [hml]; rfl) (Steps.refl _) (argsL := []) (rest := []) (lenOf own_pd70 rfl) rfl (by show 2 * 0 + _ ≤ _; exact Nat.le_of_eq rfl) (hb hby at_86) (fun _ _ => ⟨rfl, rfl, (by decide : 2 + 0 ≤ _), (by decide : 4 + 0 ≤ _)⟩)
    dsimp only [Pt.U, Pt.locs, Pt.cells, Pt.slots] at X44 l44 y44 z44 st44 hQ44
    subst l44 y44 z44
    obtain ⟨rfl, Nq44, eq44⟩ := hQ44
    have N44 := Fr.app N41 Nq44
    have e44 : T44.heap = T41.heap := eq44
    refine own_go (fun t k => st44.trans k) ?_
    show OwnG p.tables e below _ (T44.setTop (mkF m 89 #[.val (.int p0), .val (.int (1 : Int32)), .val (.int (0 : Int32)), .val (.int (1 : Int32)), .val (.ref b22), .val (.ref bw_41)] [(.int (1 : Int32))]))
    refine own_go (fun t k => XS.ifNo X44.here hx rfl (hb hby at_89) rfl ((if0 _ _).trans (feq (by decide : ¬ ((1 : Int32) = (0 : Int32)))).1) k) ?_
    show OwnG p.tables e below _ (T44.setTop (mkF m 92 #[.val (.int p0), .val (.int (1 : Int32)), .val (.int (0 : Int32)), .val (.int (1 : Int32)), .val (.ref b22), .val (.ref bw_41)] []))
    refine own_go (fun t k => XS.aload X44.here hx rfl (hb hby at_92) rfl rfl k) ?_
    show OwnG p.tables e below _ (T44.setTop (mkF m 94 #[.val (.int p0), .val (.int (1 : Int32)), .val (.int (0 : Int32)), .val (.int (1 : Int32)), .val (.ref b22), .val (.ref bw_41)] [(.ref bw_41)]))
    obtain ⟨cq45, kq45, q45a, q45b, q45c⟩ := isOf hZ e44 Fq41_0
    obtain ⟨_, _, ⟨T45, L45, k45, n45⟩, -, X45, ⟨Lc45, hQ45, l45, y45, z45⟩, st45⟩ := X44.virtualBack hx (y := (⟨"java/util/Optional", "get", "()Ljava/lang/Object;"⟩ : MethodName)) (z := (⟨"java/util/Optional", "get", "()Ljava/lang/Object;"⟩ : MethodName)) hown (mvT hZ (hw _ (List.mem_of_getElem? (i := 42) rfl))) (mvT hZ (hw _ (List.mem_of_getElem? (i := 43) rfl))) (notFace_of_selects (args := #[]) (mvT hZ (hw _ (List.mem_of_getElem? (i := 45) rfl)))) (mvT hZ (hw _ (List.mem_of_getElem? (i := 45) rfl))) (mvT hZ (hw _ (List.mem_of_getElem? (i := 44) rfl))) (by decide) (backOf (W := 0) (own_get l Z a0 hw [] bw_41 o_COLUMNS T41.heap n0 Z41 Fq41_1) hZ (hw _ (List.mem_of_getElem? (i := 46) rfl)) (hw _ (List.mem_of_getElem? (i := 15) rfl)) (by decide) (by decide)) q45a q45c (g := (mkF m 94 #[.val (.int p0), .val (.int (1 : Int32)), .val (.int (0 : Int32)), .val (.int (1 : Int32)), .val (.ref b22), .val (.ref bw_41)] [(.ref bw_41)])) rfl (by rw [hml]; rfl) (Steps.refl _) (argsL := []) (rest := []) (lenOf own_pd71 rfl) rfl (by show 2 * 0 + _ ≤ _; exact Nat.le_of_eq rfl) (hb hby at_94) (fun _ _ => ⟨rfl, e44, (by decide : 2 + 0 ≤ _), (by decide : 4 + 0 ≤ _)⟩)
    dsimp only [Pt.U, Pt.locs, Pt.cells, Pt.slots] at X45 l45 y45 z45 st45 hQ45
    subst l45 y45 z45
    obtain ⟨rfl, Nq45, eq45⟩ := hQ45
    have N45 := Fr.app N44 Nq45
    have e45 : T45.heap = T41.heap := eq45
    refine own_go (fun t k => st45.trans k) ?_
    show OwnG p.tables e below _ (T45.setTop (mkF m 97 #[.val (.int p0), .val (.int (1 : Int32)), .val (.int (0 : Int32)), .val (.int (1 : Int32)), .val (.ref b22), .val (.ref bw_41)] [(.ref o_COLUMNS)]))
    refine own_go (fun t k => XS.aload X45.here hx rfl (hb hby at_97) rfl rfl k) ?_
    show OwnG p.tables e below _ (T45.setTop (mkF m 99 #[.val (.int p0), .val (.int (1 : Int32)), .val (.int (0 : Int32)), .val (.int (1 : Int32)), .val (.ref b22), .val (.ref bw_41)] [(.ref b22), (.ref o_COLUMNS)]))
    refine own_go (fun t k => XS.iloadN X45.here hx rfl (hb hby at_99) rfl  k) ?_
    show OwnG p.tables e below _ (T45.setTop (mkF m 100 #[.val (.int p0), .val (.int (1 : Int32)), .val (.int (0 : Int32)), .val (.int (1 : Int32)), .val (.ref b22), .val (.ref bw_41)] [(.int (1 : Int32)), (.ref b22), (.ref o_COLUMNS)]))
    refine own_go (fun t k => XS.iconst X45.here hx rfl (hb hby at_100) k) ?_
    show OwnG p.tables e below _ (T45.setTop (mkF m 101 #[.val (.int p0), .val (.int (1 : Int32)), .val (.int (0 : Int32)), .val (.int (1 : Int32)), .val (.ref b22), .val (.ref bw_41)] [(.int (1 : Int32)), (.int (1 : Int32)), (.ref b22), (.ref o_COLUMNS)]))
    refine own_go (fun t k => XS.isub X45.here hx rfl (hb hby at_101) rfl k) ?_
    show OwnG p.tables e below _ (T45.setTop (mkF m 102 #[.val (.int p0), .val (.int (1 : Int32)), .val (.int (0 : Int32)), .val (.int (1 : Int32)), .val (.ref b22), .val (.ref bw_41)] [(.int ((1 : Int32) - (1 : Int32))), (.ref b22), (.ref o_COLUMNS)]))
    rw [show ((1 : Int32) - (1 : Int32)) = (0 : Int32) from by decide]
    show OwnG p.tables e below _ (T45.setTop (mkF m 102 #[.val (.int p0), .val (.int (1 : Int32)), .val (.int (0 : Int32)), .val (.int (1 : Int32)), .val (.ref b22), .val (.ref bw_41)] [(.int (0 : Int32)), (.ref b22), (.ref o_COLUMNS)]))
    obtain ⟨cl46, Ar46, qk46, Sz46, Nn46, Hs46, Gs46⟩ := F43
    have hin46 : ¬ ((0 : Int32) < 0 ∨ cl46.slots.size ≤ ((0 : Int32)).toNatClampNeg) := inb_of Sz46 ⟨by decide, by decide⟩
    have hat46 : cl46.slots[((0 : Int32)).toNatClampNeg]? = some (.ref o_COLUMNS) := Hs46.at hin46 rfl
    refine own_go (fun t k => (X45.aaload hx (j := (0 : Int32)) (v := (.ref o_COLUMNS)) (by rw [e45]; exact Ar46.1) (State.isArrayOf_alike hZ.alike Ar46.2.1) rfl Ar46.2.2 hin46 hat46 (g := (mkF m 102 #[.val (.int p0), .val (.int (1 : Int32)), .val (.int (0 : Int32)), .val (.int (1 : Int32)), .val (.ref b22), .val (.ref bw_41)] [(.int (0 : Int32)), (.ref b22), (.ref o_COLUMNS)])) rfl rfl (hb hby at_102)) t k) ?_
    show OwnG p.tables e below _ (T45.setTop (mkF m 103 #[.val (.int p0), .val (.int (1 : Int32)), .val (.int (0 : Int32)), .val (.int (1 : Int32)), .val (.ref b22), .val (.ref bw_41)] [(.ref o_COLUMNS), (.ref o_COLUMNS)]))
    refine own_go (fun t k => Jvm.RoadKit.acmp (g := (mkF m 103 #[.val (.int p0), .val (.int (1 : Int32)), .val (.int (0 : Int32)), .val (.int (1 : Int32)), .val (.ref b22), .val (.ref bw_41)] [(.ref o_COLUMNS), (.ref o_COLUMNS)])) X45 hx rfl rfl rfl (pc0 := 103) (pc' := 106) (same := true) rfl (hb hby at_103) rfl (decide_eq_true rfl) (by decide) (by decide) k) ?_
    show OwnG p.tables e below _ (T45.setTop (mkF m 106 #[.val (.int p0), .val (.int (1 : Int32)), .val (.int (0 : Int32)), .val (.int (1 : Int32)), .val (.ref b22), .val (.ref bw_41)] []))
    refine own_go (fun t k => XS.iconst X45.here hx rfl (hb hby at_106) k) ?_
    show OwnG p.tables e below _ (T45.setTop (mkF m 107 #[.val (.int p0), .val (.int (1 : Int32)), .val (.int (0 : Int32)), .val (.int (1 : Int32)), .val (.ref b22), .val (.ref bw_41)] [(.int (1 : Int32))]))
    refine own_go (fun t k => XS.goto X45.here hx rfl (pc0 := 107) (pc' := 111) rfl (hb hby at_107) (by decide) (by decide) k) ?_
    show OwnG p.tables e below _ (T45.setTop (mkF m 111 #[.val (.int p0), .val (.int (1 : Int32)), .val (.int (0 : Int32)), .val (.int (1 : Int32)), .val (.ref b22), .val (.ref bw_41)] [(.int (1 : Int32))]))
    obtain ⟨fs, hr, hrun, hended, hW, hsame⟩ := X45.leave (v := some (.int (1 : Int32))) (fun h => by rw [Bd.returns] at h; cases h)
    refine ⟨_, _, retN X45 hx (t := .boolean) Bd.returns (by simp) (hb hby at_111) hr, hrun, hended, _, _, rfl, ?_, ⟨_, rfl⟩, hW, hsame.mono (by decide) (by decide)⟩
    show Q_own_law Z p0 o_COLUMNS o_DEPENDENCIES o_COLUMNS_AND_DEPENDENCIES o_EMPTY h0 n0 _ T45.heap _
    rw [e45]
    exact ⟨rfl, N45⟩
  · refine own_go (fun t k => XS.iloadN X0.here hx rfl (hb hby at_0) rfl  k) ?_
    show OwnG p.tables e below _ (s₁.setTop (mkF m 1 #[.val (.int p0), .unset, .unset, .unset, .unset, .unset] [(.int p0)]))
    refine own_go (fun t k => XS.iconst X0.here hx rfl (hb hby at_1) k) ?_
    show OwnG p.tables e below _ (s₁.setTop (mkF m 2 #[.val (.int p0), .unset, .unset, .unset, .unset, .unset] [(.int (1 : Int32)), (.int p0)]))
    refine own_go (fun t k => XS.iand X0.here hx rfl (hb hby at_2) rfl k) ?_
    show OwnG p.tables e below _ (s₁.setTop (mkF m 3 #[.val (.int p0), .unset, .unset, .unset, .unset, .unset] [(.int (p0 &&& (1 : Int32)))]))
    rw [h1]
    show OwnG p.tables e below _ (s₁.setTop (mkF m 3 #[.val (.int p0), .unset, .unset, .unset, .unset, .unset] [(.int (0 : Int32))]))
    refine own_go (fun t k => XS.ifYes X0.here hx rfl (pc0 := 3) (pc' := 10) rfl (hb hby at_3) rfl ((if0 _ _).trans (teq (by decide : (0 : Int32) = (0 : Int32))).1) (by decide) (by decide) k) ?_
    show OwnG p.tables e below _ (s₁.setTop (mkF m 10 #[.val (.int p0), .unset, .unset, .unset, .unset, .unset] []))
    refine own_go (fun t k => XS.iconst X0.here hx rfl (hb hby at_10) k) ?_
    show OwnG p.tables e below _ (s₁.setTop (mkF m 11 #[.val (.int p0), .unset, .unset, .unset, .unset, .unset] [(.int (0 : Int32))]))
    refine own_go (fun t k => XS.istoreN X0.here hx rfl (hb hby at_11) rfl (l' := #[.val (.int p0), .val (.int (0 : Int32)), .unset, .unset, .unset, .unset]) rfl k) ?_
    show OwnG p.tables e below _ (s₁.setTop (mkF m 12 #[.val (.int p0), .val (.int (0 : Int32)), .unset, .unset, .unset, .unset] []))
    refine own_go (fun t k => XS.iloadN X0.here hx rfl (hb hby at_12) rfl  k) ?_
    show OwnG p.tables e below _ (s₁.setTop (mkF m 13 #[.val (.int p0), .val (.int (0 : Int32)), .unset, .unset, .unset, .unset] [(.int p0)]))
    refine own_go (fun t k => XS.iconst X0.here hx rfl (hb hby at_13) k) ?_
    show OwnG p.tables e below _ (s₁.setTop (mkF m 14 #[.val (.int p0), .val (.int (0 : Int32)), .unset, .unset, .unset, .unset] [(.int (2 : Int32)), (.int p0)]))
    refine own_go (fun t k => XS.iand X0.here hx rfl (hb hby at_14) rfl k) ?_
    show OwnG p.tables e below _ (s₁.setTop (mkF m 15 #[.val (.int p0), .val (.int (0 : Int32)), .unset, .unset, .unset, .unset] [(.int (p0 &&& (2 : Int32)))]))
    rw [h2]
    show OwnG p.tables e below _ (s₁.setTop (mkF m 15 #[.val (.int p0), .val (.int (0 : Int32)), .unset, .unset, .unset, .unset] [(.int (2 : Int32))]))
    refine own_go (fun t k => XS.ifNo X0.here hx rfl (hb hby at_15) rfl ((if0 _ _).trans (feq (by decide : ¬ ((2 : Int32) = (0 : Int32)))).1) k) ?_
    show OwnG p.tables e below _ (s₁.setTop (mkF m 18 #[.val (.int p0), .val (.int (0 : Int32)), .unset, .unset, .unset, .unset] []))
    refine own_go (fun t k => XS.iconst X0.here hx rfl (hb hby at_18) k) ?_
    show OwnG p.tables e below _ (s₁.setTop (mkF m 19 #[.val (.int p0), .val (.int (0 : Int32)), .unset, .unset, .unset, .unset] [(.int (1 : Int32))]))
    refine own_go (fun t k => XS.goto X0.here hx rfl (pc0 := 19) (pc' := 23) rfl (hb hby at_19) (by decide) (by decide) k) ?_
    show OwnG p.tables e below _ (s₁.setTop (mkF m 23 #[.val (.int p0), .val (.int (0 : Int32)), .unset, .unset, .unset, .unset] [(.int (1 : Int32))]))
    refine own_go (fun t k => XS.istoreN X0.here hx rfl (hb hby at_23) rfl (l' := #[.val (.int p0), .val (.int (0 : Int32)), .val (.int (1 : Int32)), .unset, .unset, .unset]) rfl k) ?_
    show OwnG p.tables e below _ (s₁.setTop (mkF m 24 #[.val (.int p0), .val (.int (0 : Int32)), .val (.int (1 : Int32)), .unset, .unset, .unset] []))
    refine own_go (fun t k => XS.iloadN X0.here hx rfl (hb hby at_24) rfl  k) ?_
    show OwnG p.tables e below _ (s₁.setTop (mkF m 25 #[.val (.int p0), .val (.int (0 : Int32)), .val (.int (1 : Int32)), .unset, .unset, .unset] [(.int p0)]))
    refine own_go (fun t k => XS.iconst X0.here hx rfl (hb hby at_25) k) ?_
    show OwnG p.tables e below _ (s₁.setTop (mkF m 26 #[.val (.int p0), .val (.int (0 : Int32)), .val (.int (1 : Int32)), .unset, .unset, .unset] [(.int (3 : Int32)), (.int p0)]))
    refine own_go (fun t k => XS.iand X0.here hx rfl (hb hby at_26) rfl k) ?_
    show OwnG p.tables e below _ (s₁.setTop (mkF m 27 #[.val (.int p0), .val (.int (0 : Int32)), .val (.int (1 : Int32)), .unset, .unset, .unset] [(.int (p0 &&& (3 : Int32)))]))
    rw [h3]
    show OwnG p.tables e below _ (s₁.setTop (mkF m 27 #[.val (.int p0), .val (.int (0 : Int32)), .val (.int (1 : Int32)), .unset, .unset, .unset] [(.int (2 : Int32))]))
    refine own_go (fun t k => XS.istoreN X0.here hx rfl (hb hby at_27) rfl (l' := #[.val (.int p0), .val (.int (0 : Int32)), .val (.int (1 : Int32)), .val (.int (2 : Int32)), .unset, .unset]) rfl k) ?_
    show OwnG p.tables e below _ (s₁.setTop (mkF m 28 #[.val (.int p0), .val (.int (0 : Int32)), .val (.int (1 : Int32)), .val (.int (2 : Int32)), .unset, .unset] []))
    refine own_go (fun t k => XS.iconst X0.here hx rfl (hb hby at_28) k) ?_
    show OwnG p.tables e below _ (s₁.setTop (mkF m 29 #[.val (.int p0), .val (.int (0 : Int32)), .val (.int (1 : Int32)), .val (.int (2 : Int32)), .unset, .unset] [(.int (3 : Int32))]))
    obtain ⟨T47, h47, k47, X47, e47, E47, A47, O47, st47⟩ := newR X0 hx hZ hown (hw _ (List.mem_of_getElem? (i := 0) rfl)) (hw _ (List.mem_of_getElem? (i := 1) rfl)) e0 (g := (mkF m 29 #[.val (.int p0), .val (.int (0 : Int32)), .val (.int (1 : Int32)), .val (.int (2 : Int32)), .unset, .unset] [(.int (3 : Int32))])) rfl (hb hby at_29) rfl (by decide) (cap := 3) (by decide) (by decide) (by decide) (by decide)
    obtain ⟨b47, g47⟩ : ∃ z, z = h0.size := ⟨_, rfl⟩
    rw [← g47] at A47 st47
    have g_b47 : n0 ≤ b47 := Nat.le_trans Z0 (Nat.le_of_eq g47.symm)
    have sz_b47 : h0.size ≤ b47 := Nat.le_trans K0.1 (Nat.le_of_eq g47.symm)
    have F48 : Old Z n0 h47 := O0.ext E47
    have K49 : Keep h0 h47 [] := K0.ext E47
    have Z49 : n0 ≤ h47.size := Nat.le_trans Z0 E47.1
    have F50 : Arv Z h47 b47 k47 (.object "standwatch/query/CatalogChange") (3 : Int32) [.null, .null, .null] .null := (Arv.new A47 (by decide)).pad (pad_rep [] .null 3)
    refine own_go (fun t k => st47 t k) ?_
    show OwnG p.tables e below _ (T47.setTop (mkF m 32 #[.val (.int p0), .val (.int (0 : Int32)), .val (.int (1 : Int32)), .val (.int (2 : Int32)), .unset, .unset] [(.ref b47)]))
    refine own_go (fun t k => XS.dup X47.here hx rfl (hb hby at_32) rfl rfl k) ?_
    show OwnG p.tables e below _ (T47.setTop (mkF m 33 #[.val (.int p0), .val (.int (0 : Int32)), .val (.int (1 : Int32)), .val (.int (2 : Int32)), .unset, .unset] [(.ref b47), (.ref b47)]))
    refine own_go (fun t k => XS.iconst X47.here hx rfl (hb hby at_33) k) ?_
    show OwnG p.tables e below _ (T47.setTop (mkF m 34 #[.val (.int p0), .val (.int (0 : Int32)), .val (.int (1 : Int32)), .val (.int (2 : Int32)), .unset, .unset] [(.int (0 : Int32)), (.ref b47), (.ref b47)]))
    obtain ⟨T51, X51, e51, st51⟩ := getS2 X47 hx hZ hown (host := "") (Or.inl (hw _ (List.mem_of_getElem? (i := 2) rfl))) Via.refl e47 (S_COLUMNS.ext F48.2) (g := (mkF m 34 #[.val (.int p0), .val (.int (0 : Int32)), .val (.int (1 : Int32)), .val (.int (2 : Int32)), .unset, .unset] [(.int (0 : Int32)), (.ref b47), (.ref b47)])) rfl (hb hby at_34)
    refine own_go (fun t k => st51 t k) ?_
    show OwnG p.tables e below _ (T51.setTop (mkF m 37 #[.val (.int p0), .val (.int (0 : Int32)), .val (.int (1 : Int32)), .val (.int (2 : Int32)), .unset, .unset] [(.ref o_COLUMNS), (.int (0 : Int32)), (.ref b47), (.ref b47)]))
    obtain ⟨cl52, Ar52, qk52, Sz52, Nn52, Hs52, Gs52⟩ := F50
    have hin52 : ¬ ((0 : Int32) < 0 ∨ cl52.slots.size ≤ ((0 : Int32)).toNatClampNeg) := inb_of Sz52 ⟨by decide, by decide⟩
    obtain ⟨T52, h52, X52, e52, W52, st52⟩ := stR X51 hx hZ e51 Ar52 (j := (0 : Int32)) hin52 rfl (Sto.ofV Ar52 qk52 O47 (Ins.self (E_o_COLUMNS.ext F48.2))) (g := (mkF m 37 #[.val (.int p0), .val (.int (0 : Int32)), .val (.int (1 : Int32)), .val (.int (2 : Int32)), .unset, .unset] [(.ref o_COLUMNS), (.int (0 : Int32)), (.ref b47), (.ref b47)])) rfl rfl (hb hby at_37)
    have F53 : Old Z n0 h52 := F48.wr W52 g_b47
    have N54 := Fr.snoc X52 N0 g_b47
    have K54 : Keep h0 h52 [] := K49.wr W52 (Or.inr sz_b47)
    have Z54 : n0 ≤ h52.size := Nat.le_trans Z49 (Keep.of_wr W52).1
    have F55 : Arv Z h52 b47 k47 (.object "standwatch/query/CatalogChange") (3 : Int32) [(.ref o_COLUMNS), .null, .null] .null := Arv.set Ar52 qk52 Sz52 Nn52 Hs52 Gs52 rfl W52 0 rfl (Nat.le_of_ble_eq_true rfl)
    refine own_go (fun t k => st52 t k) ?_
    show OwnG p.tables e below _ (T52.setTop (mkF m 38 #[.val (.int p0), .val (.int (0 : Int32)), .val (.int (1 : Int32)), .val (.int (2 : Int32)), .unset, .unset] [(.ref b47)]))
    refine own_go (fun t k => XS.dup X52.here hx rfl (hb hby at_38) rfl rfl k) ?_
    show OwnG p.tables e below _ (T52.setTop (mkF m 39 #[.val (.int p0), .val (.int (0 : Int32)), .val (.int (1 : Int32)), .val (.int (2 : Int32)), .unset, .unset] [(.ref b47), (.ref b47)]))
    refine own_go (fun t k => XS.iconst X52.here hx rfl (hb hby at_39) k) ?_
    show OwnG p.tables e below _ (T52.setTop (mkF m 40 #[.val (.int p0), .val (.int (0 : Int32)), .val (.int (1 : Int32)), .val (.int (2 : Int32)), .unset, .unset] [(.int (1 : Int32)), (.ref b47), (.ref b47)]))
    obtain ⟨T56, X56, e56, st56⟩ := getS2 X52 hx hZ hown (host := "") (Or.inl (hw _ (List.mem_of_getElem? (i := 6) rfl))) Via.refl e52 (S_DEPENDENCIES.ext F53.2) (g := (mkF m 40 #[.val (.int p0), .val (.int (0 : Int32)), .val (.int (1 : Int32)), .val (.int (2 : Int32)), .unset, .unset] [(.int (1 : Int32)), (.ref b47), (.ref b47)])) rfl (hb hby at_40)
    refine own_go (fun t k => st56 t k) ?_
    show OwnG p.tables e below _ (T56.setTop (mkF m 43 #[.val (.int p0), .val (.int (0 : Int32)), .val (.int (1 : Int32)), .val (.int (2 : Int32)), .unset, .unset] [(.ref o_DEPENDENCIES), (.int (1 : Int32)), (.ref b47), (.ref b47)]))
    obtain ⟨cl57, Ar57, qk57, Sz57, Nn57, Hs57, Gs57⟩ := F55
    have hin57 : ¬ ((1 : Int32) < 0 ∨ cl57.slots.size ≤ ((1 : Int32)).toNatClampNeg) := inb_of Sz57 ⟨by decide, by decide⟩
    obtain ⟨T57, h57, X57, e57, W57, st57⟩ := stR X56 hx hZ e56 Ar57 (j := (1 : Int32)) hin57 rfl (Sto.ofV Ar57 qk57 O47 (Ins.self (E_o_DEPENDENCIES.ext F53.2))) (g := (mkF m 43 #[.val (.int p0), .val (.int (0 : Int32)), .val (.int (1 : Int32)), .val (.int (2 : Int32)), .unset, .unset] [(.ref o_DEPENDENCIES), (.int (1 : Int32)), (.ref b47), (.ref b47)])) rfl rfl (hb hby at_43)
    have F58 : Old Z n0 h57 := F53.wr W57 g_b47
    have N59 := Fr.snoc X57 N54 g_b47
    have K59 : Keep h0 h57 [] := K54.wr W57 (Or.inr sz_b47)
    have Z59 : n0 ≤ h57.size := Nat.le_trans Z54 (Keep.of_wr W57).1
    have F60 : Arv Z h57 b47 k47 (.object "standwatch/query/CatalogChange") (3 : Int32) [(.ref o_COLUMNS), (.ref o_DEPENDENCIES), .null] .null := Arv.set Ar57 qk57 Sz57 Nn57 Hs57 Gs57 rfl W57 1 rfl (Nat.le_of_ble_eq_true rfl)
    refine own_go (fun t k => st57 t k) ?_
    show OwnG p.tables e below _ (T57.setTop (mkF m 44 #[.val (.int p0), .val (.int (0 : Int32)), .val (.int (1 : Int32)), .val (.int (2 : Int32)), .unset, .unset] [(.ref b47)]))
    refine own_go (fun t k => XS.dup X57.here hx rfl (hb hby at_44) rfl rfl k) ?_
    show OwnG p.tables e below _ (T57.setTop (mkF m 45 #[.val (.int p0), .val (.int (0 : Int32)), .val (.int (1 : Int32)), .val (.int (2 : Int32)), .unset, .unset] [(.ref b47), (.ref b47)]))
    refine own_go (fun t k => XS.iconst X57.here hx rfl (hb hby at_45) k) ?_
    show OwnG p.tables e below _ (T57.setTop (mkF m 46 #[.val (.int p0), .val (.int (0 : Int32)), .val (.int (1 : Int32)), .val (.int (2 : Int32)), .unset, .unset] [(.int (2 : Int32)), (.ref b47), (.ref b47)]))
    obtain ⟨T61, X61, e61, st61⟩ := getS2 X57 hx hZ hown (host := "") (Or.inl (hw _ (List.mem_of_getElem? (i := 8) rfl))) Via.refl e57 (S_COLUMNS_AND_DEPENDENCIES.ext F58.2) (g := (mkF m 46 #[.val (.int p0), .val (.int (0 : Int32)), .val (.int (1 : Int32)), .val (.int (2 : Int32)), .unset, .unset] [(.int (2 : Int32)), (.ref b47), (.ref b47)])) rfl (hb hby at_46)
    refine own_go (fun t k => st61 t k) ?_
    show OwnG p.tables e below _ (T61.setTop (mkF m 49 #[.val (.int p0), .val (.int (0 : Int32)), .val (.int (1 : Int32)), .val (.int (2 : Int32)), .unset, .unset] [(.ref o_COLUMNS_AND_DEPENDENCIES), (.int (2 : Int32)), (.ref b47), (.ref b47)]))
    obtain ⟨cl62, Ar62, qk62, Sz62, Nn62, Hs62, Gs62⟩ := F60
    have hin62 : ¬ ((2 : Int32) < 0 ∨ cl62.slots.size ≤ ((2 : Int32)).toNatClampNeg) := inb_of Sz62 ⟨by decide, by decide⟩
    obtain ⟨T62, h62, X62, e62, W62, st62⟩ := stR X61 hx hZ e61 Ar62 (j := (2 : Int32)) hin62 rfl (Sto.ofV Ar62 qk62 O47 (Ins.self (E_o_COLUMNS_AND_DEPENDENCIES.ext F58.2))) (g := (mkF m 49 #[.val (.int p0), .val (.int (0 : Int32)), .val (.int (1 : Int32)), .val (.int (2 : Int32)), .unset, .unset] [(.ref o_COLUMNS_AND_DEPENDENCIES), (.int (2 : Int32)), (.ref b47), (.ref b47)])) rfl rfl (hb hby at_49)
    have F63 : Old Z n0 h62 := F58.wr W62 g_b47
    have N64 := Fr.snoc X62 N59 g_b47
    have K64 : Keep h0 h62 [] := K59.wr W62 (Or.inr sz_b47)
    have Z64 : n0 ≤ h62.size := Nat.le_trans Z59 (Keep.of_wr W62).1
    have F65 : Arv Z h62 b47 k47 (.object "standwatch/query/CatalogChange") (3 : Int32) [(.ref o_COLUMNS), (.ref o_DEPENDENCIES), (.ref o_COLUMNS_AND_DEPENDENCIES)] .null := Arv.set Ar62 qk62 Sz62 Nn62 Hs62 Gs62 rfl W62 2 rfl (Nat.le_of_ble_eq_true rfl)
    refine own_go (fun t k => st62 t k) ?_
    show OwnG p.tables e below _ (T62.setTop (mkF m 50 #[.val (.int p0), .val (.int (0 : Int32)), .val (.int (1 : Int32)), .val (.int (2 : Int32)), .unset, .unset] [(.ref b47)]))
    refine own_go (fun t k => XS.astore X62.here hx rfl (hb hby at_50) rfl rfl (l' := #[.val (.int p0), .val (.int (0 : Int32)), .val (.int (1 : Int32)), .val (.int (2 : Int32)), .val (.ref b47), .unset]) rfl k) ?_
    show OwnG p.tables e below _ (T62.setTop (mkF m 52 #[.val (.int p0), .val (.int (0 : Int32)), .val (.int (1 : Int32)), .val (.int (2 : Int32)), .val (.ref b47), .unset] []))
    refine own_go (fun t k => XS.iloadN X62.here hx rfl (hb hby at_52) rfl  k) ?_
    show OwnG p.tables e below _ (T62.setTop (mkF m 53 #[.val (.int p0), .val (.int (0 : Int32)), .val (.int (1 : Int32)), .val (.int (2 : Int32)), .val (.ref b47), .unset] [(.int (0 : Int32))]))
    refine own_go (fun t k => XS.iloadN X62.here hx rfl (hb hby at_53) rfl  k) ?_
    show OwnG p.tables e below _ (T62.setTop (mkF m 54 #[.val (.int p0), .val (.int (0 : Int32)), .val (.int (1 : Int32)), .val (.int (2 : Int32)), .val (.ref b47), .unset] [(.int (1 : Int32)), (.int (0 : Int32))]))
    obtain ⟨_, _, ⟨T66, L66, k66, n66⟩, -, X66, ⟨Lc66, hQ66, l66, y66, z66⟩, st66⟩ := Jvm.LawKit.callS X62 hx (y := (⟨"standwatch/query/CatalogChange", "of", "(ZZ)Ljava/util/Optional;"⟩ : MethodName)) hown (mvT hZ (hw _ (List.mem_of_getElem? (i := 10) rfl))) (mvT hZ (hw _ (List.mem_of_getElem? (i := 11) rfl))) (mvT hZ (hw _ (List.mem_of_getElem? (i := 3) rfl))) (mvT hZ (hw _ (List.mem_of_getElem? (i := 12) rfl))) (by decide) (backOf (W := 0) (own_cof2 l Z a0 hw [] o_COLUMNS o_DEPENDENCIES o_COLUMNS_AND_DEPENDENCIES o_EMPTY h62 n0 Z64 F63 S_COLUMNS E_o_COLUMNS S_DEPENDENCIES E_o_DEPENDENCIES S_COLUMNS_AND_DEPENDENCIES E_o_COLUMNS_AND_DEPENDENCIES S_EMPTY E_o_EMPTY F_o_EMPTY_value) hZ (hw _ (List.mem_of_getElem? (i := 12) rfl)) (hw _ (List.mem_of_getElem? (i := 3) rfl)) (by decide) (by decide)) (g := (mkF m 54 #[.val (.int p0), .val (.int (0 : Int32)), .val (.int (1 : Int32)), .val (.int (2 : Int32)), .val (.ref b47), .unset] [(.int (1 : Int32)), (.int (0 : Int32))])) rfl (by rw [hml]; rfl) (argsL := [(.int (0 : Int32)), (.int (1 : Int32))]) (rest := []) (lenOf own_pd69 rfl) rfl (by show 2 * 0 + _ ≤ _; exact Nat.le_of_eq rfl) (hb hby at_54) (fun _ _ => ⟨rfl, e62, (by decide : 1 + 1 ≤ _), (by decide : 3 + 1 ≤ _)⟩)
    dsimp only [Pt.U, Pt.locs, Pt.cells, Pt.slots] at X66 l66 y66 z66 st66 hQ66
    subst l66 y66 z66
    obtain ⟨bw_66, rfl, Nq66, Kq66, Fq66_0, Fq66_1⟩ := hQ66
    have N66 := Fr.app N64 Nq66
    have F67 : Old Z n0 T66.heap := F63.keep Kq66 all0
    have F68 : Arv Z T66.heap b47 k47 (.object "standwatch/query/CatalogChange") (3 : Int32) [(.ref o_COLUMNS), (.ref o_DEPENDENCIES), (.ref o_COLUMNS_AND_DEPENDENCIES)] .null := F65.keep Kq66 nin0
    have K66 : Keep h0 T66.heap [] := K64.trans Kq66 all0
    have Z66 : n0 ≤ T66.heap.size := Nat.le_trans Z64 Kq66.1
    refine own_go (fun t k => st66 t k) ?_
    show OwnG p.tables e below _ (T66.setTop (mkF m 57 #[.val (.int p0), .val (.int (0 : Int32)), .val (.int (1 : Int32)), .val (.int (2 : Int32)), .val (.ref b47), .unset] [(.ref bw_66)]))
    refine own_go (fun t k => XS.astore X66.here hx rfl (hb hby at_57) rfl rfl (l' := #[.val (.int p0), .val (.int (0 : Int32)), .val (.int (1 : Int32)), .val (.int (2 : Int32)), .val (.ref b47), .val (.ref bw_66)]) rfl k) ?_
    show OwnG p.tables e below _ (T66.setTop (mkF m 59 #[.val (.int p0), .val (.int (0 : Int32)), .val (.int (1 : Int32)), .val (.int (2 : Int32)), .val (.ref b47), .val (.ref bw_66)] []))
    refine own_go (fun t k => XS.aload X66.here hx rfl (hb hby at_59) rfl rfl k) ?_
    show OwnG p.tables e below _ (T66.setTop (mkF m 61 #[.val (.int p0), .val (.int (0 : Int32)), .val (.int (1 : Int32)), .val (.int (2 : Int32)), .val (.ref b47), .val (.ref bw_66)] [(.ref bw_66)]))
    refine own_go (fun t k => XS.ifnonnullYes X66.here hx rfl (pc0 := 61) (pc' := 66) rfl (hb hby at_61) rfl (by decide) (by decide) k) ?_
    show OwnG p.tables e below _ (T66.setTop (mkF m 66 #[.val (.int p0), .val (.int (0 : Int32)), .val (.int (1 : Int32)), .val (.int (2 : Int32)), .val (.ref b47), .val (.ref bw_66)] []))
    refine own_go (fun t k => XS.iloadN X66.here hx rfl (hb hby at_66) rfl  k) ?_
    show OwnG p.tables e below _ (T66.setTop (mkF m 67 #[.val (.int p0), .val (.int (0 : Int32)), .val (.int (1 : Int32)), .val (.int (2 : Int32)), .val (.ref b47), .val (.ref bw_66)] [(.int (2 : Int32))]))
    refine own_go (fun t k => XS.ifYes X66.here hx rfl (pc0 := 67) (pc' := 84) rfl (hb hby at_67) rfl ((if0 _ _).trans (feq (by decide : ¬ ((2 : Int32) = (0 : Int32)))).2) (by decide) (by decide) k) ?_
    show OwnG p.tables e below _ (T66.setTop (mkF m 84 #[.val (.int p0), .val (.int (0 : Int32)), .val (.int (1 : Int32)), .val (.int (2 : Int32)), .val (.ref b47), .val (.ref bw_66)] []))
    refine own_go (fun t k => XS.aload X66.here hx rfl (hb hby at_84) rfl rfl k) ?_
    show OwnG p.tables e below _ (T66.setTop (mkF m 86 #[.val (.int p0), .val (.int (0 : Int32)), .val (.int (1 : Int32)), .val (.int (2 : Int32)), .val (.ref b47), .val (.ref bw_66)] [(.ref bw_66)]))
    obtain ⟨cq69, kq69, q69a, q69b, q69c⟩ := isOf hZ rfl Fq66_0
    obtain ⟨_, _, ⟨T69, L69, k69, n69⟩, -, X69, ⟨Lc69, hQ69, l69, y69, z69⟩, st69⟩ := X66.virtualBack hx (y := (⟨"java/util/Optional", "isPresent", "()Z"⟩ : MethodName)) (z := (⟨"java/util/Optional", "isPresent", "()Z"⟩ : MethodName)) hown (mvT hZ (hw _ (List.mem_of_getElem? (i := 18) rfl))) (mvT hZ (hw _ (List.mem_of_getElem? (i := 19) rfl))) (notFace_of_selects (args := #[]) (mvT hZ (hw _ (List.mem_of_getElem? (i := 21) rfl)))) (mvT hZ (hw _ (List.mem_of_getElem? (i := 21) rfl))) (mvT hZ (hw _ (List.mem_of_getElem? (i := 20) rfl))) (by decide) (backOf (W := 0) (own_ip1 l Z a0 hw [] bw_66 o_DEPENDENCIES T66.heap n0 Z66 Fq66_1) hZ (hw _ (List.mem_of_getElem? (i := 22) rfl)) (hw _ (List.mem_of_getElem? (i := 15) rfl)) (by decide) (by decide)) q69a q69c (g := (mkF m 86 #[.val (.int p0), .val (.int (0 : Int32)), .val (.int (1 : Int32)), .val (.int (2 : Int32)), .val (.ref b47), .val (.ref bw_66)] [(.ref bw_66)])) rfl (by rw [hml]; rfl) (Steps.refl _) (argsL := []) (rest := []) (lenOf own_pd70 rfl) rfl (by show 2 * 0 + _ ≤ _; exact Nat.le_of_eq rfl) (hb hby at_86) (fun _ _ => ⟨rfl, rfl, (by decide : 2 + 0 ≤ _), (by decide : 4 + 0 ≤ _)⟩)
    dsimp only [Pt.U, Pt.locs, Pt.cells, Pt.slots] at X69 l69 y69 z69 st69 hQ69
    subst l69 y69 z69
    obtain ⟨rfl, Nq69, eq69⟩ := hQ69
    have N69 := Fr.app N66 Nq69
    have e69 : T69.heap = T66.heap := eq69
    refine own_go (fun t k => st69.trans k) ?_
    show OwnG p.tables e below _ (T69.setTop (mkF m 89 #[.val (.int p0), .val (.int (0 : Int32)), .val (.int (1 : Int32)), .val (.int (2 : Int32)), .val (.ref b47), .val (.ref bw_66)] [(.int (1 : Int32))]))
    refine own_go (fun t k => XS.ifNo X69.here hx rfl (hb hby at_89) rfl ((if0 _ _).trans (feq (by decide : ¬ ((1 : Int32) = (0 : Int32)))).1) k) ?_
    show OwnG p.tables e below _ (T69.setTop (mkF m 92 #[.val (.int p0), .val (.int (0 : Int32)), .val (.int (1 : Int32)), .val (.int (2 : Int32)), .val (.ref b47), .val (.ref bw_66)] []))
    refine own_go (fun t k => XS.aload X69.here hx rfl (hb hby at_92) rfl rfl k) ?_
    show OwnG p.tables e below _ (T69.setTop (mkF m 94 #[.val (.int p0), .val (.int (0 : Int32)), .val (.int (1 : Int32)), .val (.int (2 : Int32)), .val (.ref b47), .val (.ref bw_66)] [(.ref bw_66)]))
    obtain ⟨cq70, kq70, q70a, q70b, q70c⟩ := isOf hZ e69 Fq66_0
    obtain ⟨_, _, ⟨T70, L70, k70, n70⟩, -, X70, ⟨Lc70, hQ70, l70, y70, z70⟩, st70⟩ := X69.virtualBack hx (y := (⟨"java/util/Optional", "get", "()Ljava/lang/Object;"⟩ : MethodName)) (z := (⟨"java/util/Optional", "get", "()Ljava/lang/Object;"⟩ : MethodName)) hown (mvT hZ (hw _ (List.mem_of_getElem? (i := 42) rfl))) (mvT hZ (hw _ (List.mem_of_getElem? (i := 43) rfl))) (notFace_of_selects (args := #[]) (mvT hZ (hw _ (List.mem_of_getElem? (i := 45) rfl)))) (mvT hZ (hw _ (List.mem_of_getElem? (i := 45) rfl))) (mvT hZ (hw _ (List.mem_of_getElem? (i := 44) rfl))) (by decide) (backOf (W := 0) (own_get l Z a0 hw [] bw_66 o_DEPENDENCIES T66.heap n0 Z66 Fq66_1) hZ (hw _ (List.mem_of_getElem? (i := 46) rfl)) (hw _ (List.mem_of_getElem? (i := 15) rfl)) (by decide) (by decide)) q70a q70c (g := (mkF m 94 #[.val (.int p0), .val (.int (0 : Int32)), .val (.int (1 : Int32)), .val (.int (2 : Int32)), .val (.ref b47), .val (.ref bw_66)] [(.ref bw_66)])) rfl (by rw [hml]; rfl) (Steps.refl _) (argsL := []) (rest := []) (lenOf own_pd71 rfl) rfl (by show 2 * 0 + _ ≤ _; exact Nat.le_of_eq rfl) (hb hby at_94) (fun _ _ => ⟨rfl, e69, (by decide : 2 + 0 ≤ _), (by decide : 4 + 0 ≤ _)⟩)
    dsimp only [Pt.U, Pt.locs, Pt.cells, Pt.slots] at X70 l70 y70 z70 st70 hQ70
    subst l70 y70 z70
    obtain ⟨rfl, Nq70, eq70⟩ := hQ70
    have N70 := Fr.app N69 Nq70
    have e70 : T70.heap = T66.heap := eq70
    refine own_go (fun t k => st70.trans k) ?_
    show OwnG p.tables e below _ (T70.setTop (mkF m 97 #[.val (.int p0), .val (.int (0 : Int32)), .val (.int (1 : Int32)), .val (.int (2 : Int32)), .val (.ref b47), .val (.ref bw_66)] [(.ref o_DEPENDENCIES)]))
    refine own_go (fun t k => XS.aload X70.here hx rfl (hb hby at_97) rfl rfl k) ?_
    show OwnG p.tables e below _ (T70.setTop (mkF m 99 #[.val (.int p0), .val (.int (0 : Int32)), .val (.int (1 : Int32)), .val (.int (2 : Int32)), .val (.ref b47), .val (.ref bw_66)] [(.ref b47), (.ref o_DEPENDENCIES)]))
    refine own_go (fun t k => XS.iloadN X70.here hx rfl (hb hby at_99) rfl  k) ?_
    show OwnG p.tables e below _ (T70.setTop (mkF m 100 #[.val (.int p0), .val (.int (0 : Int32)), .val (.int (1 : Int32)), .val (.int (2 : Int32)), .val (.ref b47), .val (.ref bw_66)] [(.int (2 : Int32)), (.ref b47), (.ref o_DEPENDENCIES)]))
    refine own_go (fun t k => XS.iconst X70.here hx rfl (hb hby at_100) k) ?_
    show OwnG p.tables e below _ (T70.setTop (mkF m 101 #[.val (.int p0), .val (.int (0 : Int32)), .val (.int (1 : Int32)), .val (.int (2 : Int32)), .val (.ref b47), .val (.ref bw_66)] [(.int (1 : Int32)), (.int (2 : Int32)), (.ref b47), (.ref o_DEPENDENCIES)]))
    refine own_go (fun t k => XS.isub X70.here hx rfl (hb hby at_101) rfl k) ?_
    show OwnG p.tables e below _ (T70.setTop (mkF m 102 #[.val (.int p0), .val (.int (0 : Int32)), .val (.int (1 : Int32)), .val (.int (2 : Int32)), .val (.ref b47), .val (.ref bw_66)] [(.int ((2 : Int32) - (1 : Int32))), (.ref b47), (.ref o_DEPENDENCIES)]))
    rw [show ((2 : Int32) - (1 : Int32)) = (1 : Int32) from by decide]
    show OwnG p.tables e below _ (T70.setTop (mkF m 102 #[.val (.int p0), .val (.int (0 : Int32)), .val (.int (1 : Int32)), .val (.int (2 : Int32)), .val (.ref b47), .val (.ref bw_66)] [(.int (1 : Int32)), (.ref b47), (.ref o_DEPENDENCIES)]))
    obtain ⟨cl71, Ar71, qk71, Sz71, Nn71, Hs71, Gs71⟩ := F68
    have hin71 : ¬ ((1 : Int32) < 0 ∨ cl71.slots.size ≤ ((1 : Int32)).toNatClampNeg) := inb_of Sz71 ⟨by decide, by decide⟩
    have hat71 : cl71.slots[((1 : Int32)).toNatClampNeg]? = some (.ref o_DEPENDENCIES) := Hs71.at hin71 rfl
    refine own_go (fun t k => (X70.aaload hx (j := (1 : Int32)) (v := (.ref o_DEPENDENCIES)) (by rw [e70]; exact Ar71.1) (State.isArrayOf_alike hZ.alike Ar71.2.1) rfl Ar71.2.2 hin71 hat71 (g := (mkF m 102 #[.val (.int p0), .val (.int (0 : Int32)), .val (.int (1 : Int32)), .val (.int (2 : Int32)), .val (.ref b47), .val (.ref bw_66)] [(.int (1 : Int32)), (.ref b47), (.ref o_DEPENDENCIES)])) rfl rfl (hb hby at_102)) t k) ?_
    show OwnG p.tables e below _ (T70.setTop (mkF m 103 #[.val (.int p0), .val (.int (0 : Int32)), .val (.int (1 : Int32)), .val (.int (2 : Int32)), .val (.ref b47), .val (.ref bw_66)] [(.ref o_DEPENDENCIES), (.ref o_DEPENDENCIES)]))
    refine own_go (fun t k => Jvm.RoadKit.acmp (g := (mkF m 103 #[.val (.int p0), .val (.int (0 : Int32)), .val (.int (1 : Int32)), .val (.int (2 : Int32)), .val (.ref b47), .val (.ref bw_66)] [(.ref o_DEPENDENCIES), (.ref o_DEPENDENCIES)])) X70 hx rfl rfl rfl (pc0 := 103) (pc' := 106) (same := true) rfl (hb hby at_103) rfl (decide_eq_true rfl) (by decide) (by decide) k) ?_
    show OwnG p.tables e below _ (T70.setTop (mkF m 106 #[.val (.int p0), .val (.int (0 : Int32)), .val (.int (1 : Int32)), .val (.int (2 : Int32)), .val (.ref b47), .val (.ref bw_66)] []))
    refine own_go (fun t k => XS.iconst X70.here hx rfl (hb hby at_106) k) ?_
    show OwnG p.tables e below _ (T70.setTop (mkF m 107 #[.val (.int p0), .val (.int (0 : Int32)), .val (.int (1 : Int32)), .val (.int (2 : Int32)), .val (.ref b47), .val (.ref bw_66)] [(.int (1 : Int32))]))
    refine own_go (fun t k => XS.goto X70.here hx rfl (pc0 := 107) (pc' := 111) rfl (hb hby at_107) (by decide) (by decide) k) ?_
    show OwnG p.tables e below _ (T70.setTop (mkF m 111 #[.val (.int p0), .val (.int (0 : Int32)), .val (.int (1 : Int32)), .val (.int (2 : Int32)), .val (.ref b47), .val (.ref bw_66)] [(.int (1 : Int32))]))
    obtain ⟨fs, hr, hrun, hended, hW, hsame⟩ := X70.leave (v := some (.int (1 : Int32))) (fun h => by rw [Bd.returns] at h; cases h)
    refine ⟨_, _, retN X70 hx (t := .boolean) Bd.returns (by simp) (hb hby at_111) hr, hrun, hended, _, _, rfl, ?_, ⟨_, rfl⟩, hW, hsame.mono (by decide) (by decide)⟩
    show Q_own_law Z p0 o_COLUMNS o_DEPENDENCIES o_COLUMNS_AND_DEPENDENCIES o_EMPTY h0 n0 _ T70.heap _
    rw [e70]
    exact ⟨rfl, N70⟩
  · refine own_go (fun t k => XS.iloadN X0.here hx rfl (hb hby at_0) rfl  k) ?_
    show OwnG p.tables e below _ (s₁.setTop (mkF m 1 #[.val (.int p0), .unset, .unset, .unset, .unset, .unset] [(.int p0)]))
    refine own_go (fun t k => XS.iconst X0.here hx rfl (hb hby at_1) k) ?_
    show OwnG p.tables e below _ (s₁.setTop (mkF m 2 #[.val (.int p0), .unset, .unset, .unset, .unset, .unset] [(.int (1 : Int32)), (.int p0)]))
    refine own_go (fun t k => XS.iand X0.here hx rfl (hb hby at_2) rfl k) ?_
    show OwnG p.tables e below _ (s₁.setTop (mkF m 3 #[.val (.int p0), .unset, .unset, .unset, .unset, .unset] [(.int (p0 &&& (1 : Int32)))]))
    rw [h1]
    show OwnG p.tables e below _ (s₁.setTop (mkF m 3 #[.val (.int p0), .unset, .unset, .unset, .unset, .unset] [(.int (1 : Int32))]))
    refine own_go (fun t k => XS.ifNo X0.here hx rfl (hb hby at_3) rfl ((if0 _ _).trans (feq (by decide : ¬ ((1 : Int32) = (0 : Int32)))).1) k) ?_
    show OwnG p.tables e below _ (s₁.setTop (mkF m 6 #[.val (.int p0), .unset, .unset, .unset, .unset, .unset] []))
    refine own_go (fun t k => XS.iconst X0.here hx rfl (hb hby at_6) k) ?_
    show OwnG p.tables e below _ (s₁.setTop (mkF m 7 #[.val (.int p0), .unset, .unset, .unset, .unset, .unset] [(.int (1 : Int32))]))
    refine own_go (fun t k => XS.goto X0.here hx rfl (pc0 := 7) (pc' := 11) rfl (hb hby at_7) (by decide) (by decide) k) ?_
    show OwnG p.tables e below _ (s₁.setTop (mkF m 11 #[.val (.int p0), .unset, .unset, .unset, .unset, .unset] [(.int (1 : Int32))]))
    refine own_go (fun t k => XS.istoreN X0.here hx rfl (hb hby at_11) rfl (l' := #[.val (.int p0), .val (.int (1 : Int32)), .unset, .unset, .unset, .unset]) rfl k) ?_
    show OwnG p.tables e below _ (s₁.setTop (mkF m 12 #[.val (.int p0), .val (.int (1 : Int32)), .unset, .unset, .unset, .unset] []))
    refine own_go (fun t k => XS.iloadN X0.here hx rfl (hb hby at_12) rfl  k) ?_
    show OwnG p.tables e below _ (s₁.setTop (mkF m 13 #[.val (.int p0), .val (.int (1 : Int32)), .unset, .unset, .unset, .unset] [(.int p0)]))
    refine own_go (fun t k => XS.iconst X0.here hx rfl (hb hby at_13) k) ?_
    show OwnG p.tables e below _ (s₁.setTop (mkF m 14 #[.val (.int p0), .val (.int (1 : Int32)), .unset, .unset, .unset, .unset] [(.int (2 : Int32)), (.int p0)]))
    refine own_go (fun t k => XS.iand X0.here hx rfl (hb hby at_14) rfl k) ?_
    show OwnG p.tables e below _ (s₁.setTop (mkF m 15 #[.val (.int p0), .val (.int (1 : Int32)), .unset, .unset, .unset, .unset] [(.int (p0 &&& (2 : Int32)))]))
    rw [h2]
    show OwnG p.tables e below _ (s₁.setTop (mkF m 15 #[.val (.int p0), .val (.int (1 : Int32)), .unset, .unset, .unset, .unset] [(.int (2 : Int32))]))
    refine own_go (fun t k => XS.ifNo X0.here hx rfl (hb hby at_15) rfl ((if0 _ _).trans (feq (by decide : ¬ ((2 : Int32) = (0 : Int32)))).1) k) ?_
    show OwnG p.tables e below _ (s₁.setTop (mkF m 18 #[.val (.int p0), .val (.int (1 : Int32)), .unset, .unset, .unset, .unset] []))
    refine own_go (fun t k => XS.iconst X0.here hx rfl (hb hby at_18) k) ?_
    show OwnG p.tables e below _ (s₁.setTop (mkF m 19 #[.val (.int p0), .val (.int (1 : Int32)), .unset, .unset, .unset, .unset] [(.int (1 : Int32))]))
    refine own_go (fun t k => XS.goto X0.here hx rfl (pc0 := 19) (pc' := 23) rfl (hb hby at_19) (by decide) (by decide) k) ?_
    show OwnG p.tables e below _ (s₁.setTop (mkF m 23 #[.val (.int p0), .val (.int (1 : Int32)), .unset, .unset, .unset, .unset] [(.int (1 : Int32))]))
    refine own_go (fun t k => XS.istoreN X0.here hx rfl (hb hby at_23) rfl (l' := #[.val (.int p0), .val (.int (1 : Int32)), .val (.int (1 : Int32)), .unset, .unset, .unset]) rfl k) ?_
    show OwnG p.tables e below _ (s₁.setTop (mkF m 24 #[.val (.int p0), .val (.int (1 : Int32)), .val (.int (1 : Int32)), .unset, .unset, .unset] []))
    refine own_go (fun t k => XS.iloadN X0.here hx rfl (hb hby at_24) rfl  k) ?_
    show OwnG p.tables e below _ (s₁.setTop (mkF m 25 #[.val (.int p0), .val (.int (1 : Int32)), .val (.int (1 : Int32)), .unset, .unset, .unset] [(.int p0)]))
    refine own_go (fun t k => XS.iconst X0.here hx rfl (hb hby at_25) k) ?_
    show OwnG p.tables e below _ (s₁.setTop (mkF m 26 #[.val (.int p0), .val (.int (1 : Int32)), .val (.int (1 : Int32)), .unset, .unset, .unset] [(.int (3 : Int32)), (.int p0)]))
    refine own_go (fun t k => XS.iand X0.here hx rfl (hb hby at_26) rfl k) ?_
    show OwnG p.tables e below _ (s₁.setTop (mkF m 27 #[.val (.int p0), .val (.int (1 : Int32)), .val (.int (1 : Int32)), .unset, .unset, .unset] [(.int (p0 &&& (3 : Int32)))]))
    rw [h3]
    show OwnG p.tables e below _ (s₁.setTop (mkF m 27 #[.val (.int p0), .val (.int (1 : Int32)), .val (.int (1 : Int32)), .unset, .unset, .unset] [(.int (3 : Int32))]))
    refine own_go (fun t k => XS.istoreN X0.here hx rfl (hb hby at_27) rfl (l' := #[.val (.int p0), .val (.int (1 : Int32)), .val (.int (1 : Int32)), .val (.int (3 : Int32)), .unset, .unset]) rfl k) ?_
    show OwnG p.tables e below _ (s₁.setTop (mkF m 28 #[.val (.int p0), .val (.int (1 : Int32)), .val (.int (1 : Int32)), .val (.int (3 : Int32)), .unset, .unset] []))
    refine own_go (fun t k => XS.iconst X0.here hx rfl (hb hby at_28) k) ?_
    show OwnG p.tables e below _ (s₁.setTop (mkF m 29 #[.val (.int p0), .val (.int (1 : Int32)), .val (.int (1 : Int32)), .val (.int (3 : Int32)), .unset, .unset] [(.int (3 : Int32))]))
    obtain ⟨T72, h72, k72, X72, e72, E72, A72, O72, st72⟩ := newR X0 hx hZ hown (hw _ (List.mem_of_getElem? (i := 0) rfl)) (hw _ (List.mem_of_getElem? (i := 1) rfl)) e0 (g := (mkF m 29 #[.val (.int p0), .val (.int (1 : Int32)), .val (.int (1 : Int32)), .val (.int (3 : Int32)), .unset, .unset] [(.int (3 : Int32))])) rfl (hb hby at_29) rfl (by decide) (cap := 3) (by decide) (by decide) (by decide) (by decide)
    obtain ⟨b72, g72⟩ : ∃ z, z = h0.size := ⟨_, rfl⟩
    rw [← g72] at A72 st72
    have g_b72 : n0 ≤ b72 := Nat.le_trans Z0 (Nat.le_of_eq g72.symm)
    have sz_b72 : h0.size ≤ b72 := Nat.le_trans K0.1 (Nat.le_of_eq g72.symm)
    have F73 : Old Z n0 h72 := O0.ext E72
    have K74 : Keep h0 h72 [] := K0.ext E72
    have Z74 : n0 ≤ h72.size := Nat.le_trans Z0 E72.1
    have F75 : Arv Z h72 b72 k72 (.object "standwatch/query/CatalogChange") (3 : Int32) [.null, .null, .null] .null := (Arv.new A72 (by decide)).pad (pad_rep [] .null 3)
    refine own_go (fun t k => st72 t k) ?_
    show OwnG p.tables e below _ (T72.setTop (mkF m 32 #[.val (.int p0), .val (.int (1 : Int32)), .val (.int (1 : Int32)), .val (.int (3 : Int32)), .unset, .unset] [(.ref b72)]))
    refine own_go (fun t k => XS.dup X72.here hx rfl (hb hby at_32) rfl rfl k) ?_
    show OwnG p.tables e below _ (T72.setTop (mkF m 33 #[.val (.int p0), .val (.int (1 : Int32)), .val (.int (1 : Int32)), .val (.int (3 : Int32)), .unset, .unset] [(.ref b72), (.ref b72)]))
    refine own_go (fun t k => XS.iconst X72.here hx rfl (hb hby at_33) k) ?_
    show OwnG p.tables e below _ (T72.setTop (mkF m 34 #[.val (.int p0), .val (.int (1 : Int32)), .val (.int (1 : Int32)), .val (.int (3 : Int32)), .unset, .unset] [(.int (0 : Int32)), (.ref b72), (.ref b72)]))
    obtain ⟨T76, X76, e76, st76⟩ := getS2 X72 hx hZ hown (host := "") (Or.inl (hw _ (List.mem_of_getElem? (i := 2) rfl))) Via.refl e72 (S_COLUMNS.ext F73.2) (g := (mkF m 34 #[.val (.int p0), .val (.int (1 : Int32)), .val (.int (1 : Int32)), .val (.int (3 : Int32)), .unset, .unset] [(.int (0 : Int32)), (.ref b72), (.ref b72)])) rfl (hb hby at_34)
    refine own_go (fun t k => st76 t k) ?_
    show OwnG p.tables e below _ (T76.setTop (mkF m 37 #[.val (.int p0), .val (.int (1 : Int32)), .val (.int (1 : Int32)), .val (.int (3 : Int32)), .unset, .unset] [(.ref o_COLUMNS), (.int (0 : Int32)), (.ref b72), (.ref b72)]))
    obtain ⟨cl77, Ar77, qk77, Sz77, Nn77, Hs77, Gs77⟩ := F75
    have hin77 : ¬ ((0 : Int32) < 0 ∨ cl77.slots.size ≤ ((0 : Int32)).toNatClampNeg) := inb_of Sz77 ⟨by decide, by decide⟩
    obtain ⟨T77, h77, X77, e77, W77, st77⟩ := stR X76 hx hZ e76 Ar77 (j := (0 : Int32)) hin77 rfl (Sto.ofV Ar77 qk77 O72 (Ins.self (E_o_COLUMNS.ext F73.2))) (g := (mkF m 37 #[.val (.int p0), .val (.int (1 : Int32)), .val (.int (1 : Int32)), .val (.int (3 : Int32)), .unset, .unset] [(.ref o_COLUMNS), (.int (0 : Int32)), (.ref b72), (.ref b72)])) rfl rfl (hb hby at_37)
    have F78 : Old Z n0 h77 := F73.wr W77 g_b72
    have N79 := Fr.snoc X77 N0 g_b72
    have K79 : Keep h0 h77 [] := K74.wr W77 (Or.inr sz_b72)
    have Z79 : n0 ≤ h77.size := Nat.le_trans Z74 (Keep.of_wr W77).1
    have F80 : Arv Z h77 b72 k72 (.object "standwatch/query/CatalogChange") (3 : Int32) [(.ref o_COLUMNS), .null, .null] .null := Arv.set Ar77 qk77 Sz77 Nn77 Hs77 Gs77 rfl W77 0 rfl (Nat.le_of_ble_eq_true rfl)
    refine own_go (fun t k => st77 t k) ?_
    show OwnG p.tables e below _ (T77.setTop (mkF m 38 #[.val (.int p0), .val (.int (1 : Int32)), .val (.int (1 : Int32)), .val (.int (3 : Int32)), .unset, .unset] [(.ref b72)]))
    refine own_go (fun t k => XS.dup X77.here hx rfl (hb hby at_38) rfl rfl k) ?_
    show OwnG p.tables e below _ (T77.setTop (mkF m 39 #[.val (.int p0), .val (.int (1 : Int32)), .val (.int (1 : Int32)), .val (.int (3 : Int32)), .unset, .unset] [(.ref b72), (.ref b72)]))
    refine own_go (fun t k => XS.iconst X77.here hx rfl (hb hby at_39) k) ?_
    show OwnG p.tables e below _ (T77.setTop (mkF m 40 #[.val (.int p0), .val (.int (1 : Int32)), .val (.int (1 : Int32)), .val (.int (3 : Int32)), .unset, .unset] [(.int (1 : Int32)), (.ref b72), (.ref b72)]))
    obtain ⟨T81, X81, e81, st81⟩ := getS2 X77 hx hZ hown (host := "") (Or.inl (hw _ (List.mem_of_getElem? (i := 6) rfl))) Via.refl e77 (S_DEPENDENCIES.ext F78.2) (g := (mkF m 40 #[.val (.int p0), .val (.int (1 : Int32)), .val (.int (1 : Int32)), .val (.int (3 : Int32)), .unset, .unset] [(.int (1 : Int32)), (.ref b72), (.ref b72)])) rfl (hb hby at_40)
    refine own_go (fun t k => st81 t k) ?_
    show OwnG p.tables e below _ (T81.setTop (mkF m 43 #[.val (.int p0), .val (.int (1 : Int32)), .val (.int (1 : Int32)), .val (.int (3 : Int32)), .unset, .unset] [(.ref o_DEPENDENCIES), (.int (1 : Int32)), (.ref b72), (.ref b72)]))
    obtain ⟨cl82, Ar82, qk82, Sz82, Nn82, Hs82, Gs82⟩ := F80
    have hin82 : ¬ ((1 : Int32) < 0 ∨ cl82.slots.size ≤ ((1 : Int32)).toNatClampNeg) := inb_of Sz82 ⟨by decide, by decide⟩
    obtain ⟨T82, h82, X82, e82, W82, st82⟩ := stR X81 hx hZ e81 Ar82 (j := (1 : Int32)) hin82 rfl (Sto.ofV Ar82 qk82 O72 (Ins.self (E_o_DEPENDENCIES.ext F78.2))) (g := (mkF m 43 #[.val (.int p0), .val (.int (1 : Int32)), .val (.int (1 : Int32)), .val (.int (3 : Int32)), .unset, .unset] [(.ref o_DEPENDENCIES), (.int (1 : Int32)), (.ref b72), (.ref b72)])) rfl rfl (hb hby at_43)
    have F83 : Old Z n0 h82 := F78.wr W82 g_b72
    have N84 := Fr.snoc X82 N79 g_b72
    have K84 : Keep h0 h82 [] := K79.wr W82 (Or.inr sz_b72)
    have Z84 : n0 ≤ h82.size := Nat.le_trans Z79 (Keep.of_wr W82).1
    have F85 : Arv Z h82 b72 k72 (.object "standwatch/query/CatalogChange") (3 : Int32) [(.ref o_COLUMNS), (.ref o_DEPENDENCIES), .null] .null := Arv.set Ar82 qk82 Sz82 Nn82 Hs82 Gs82 rfl W82 1 rfl (Nat.le_of_ble_eq_true rfl)
    refine own_go (fun t k => st82 t k) ?_
    show OwnG p.tables e below _ (T82.setTop (mkF m 44 #[.val (.int p0), .val (.int (1 : Int32)), .val (.int (1 : Int32)), .val (.int (3 : Int32)), .unset, .unset] [(.ref b72)]))
    refine own_go (fun t k => XS.dup X82.here hx rfl (hb hby at_44) rfl rfl k) ?_
    show OwnG p.tables e below _ (T82.setTop (mkF m 45 #[.val (.int p0), .val (.int (1 : Int32)), .val (.int (1 : Int32)), .val (.int (3 : Int32)), .unset, .unset] [(.ref b72), (.ref b72)]))
    refine own_go (fun t k => XS.iconst X82.here hx rfl (hb hby at_45) k) ?_
    show OwnG p.tables e below _ (T82.setTop (mkF m 46 #[.val (.int p0), .val (.int (1 : Int32)), .val (.int (1 : Int32)), .val (.int (3 : Int32)), .unset, .unset] [(.int (2 : Int32)), (.ref b72), (.ref b72)]))
    obtain ⟨T86, X86, e86, st86⟩ := getS2 X82 hx hZ hown (host := "") (Or.inl (hw _ (List.mem_of_getElem? (i := 8) rfl))) Via.refl e82 (S_COLUMNS_AND_DEPENDENCIES.ext F83.2) (g := (mkF m 46 #[.val (.int p0), .val (.int (1 : Int32)), .val (.int (1 : Int32)), .val (.int (3 : Int32)), .unset, .unset] [(.int (2 : Int32)), (.ref b72), (.ref b72)])) rfl (hb hby at_46)
    refine own_go (fun t k => st86 t k) ?_
    show OwnG p.tables e below _ (T86.setTop (mkF m 49 #[.val (.int p0), .val (.int (1 : Int32)), .val (.int (1 : Int32)), .val (.int (3 : Int32)), .unset, .unset] [(.ref o_COLUMNS_AND_DEPENDENCIES), (.int (2 : Int32)), (.ref b72), (.ref b72)]))
    obtain ⟨cl87, Ar87, qk87, Sz87, Nn87, Hs87, Gs87⟩ := F85
    have hin87 : ¬ ((2 : Int32) < 0 ∨ cl87.slots.size ≤ ((2 : Int32)).toNatClampNeg) := inb_of Sz87 ⟨by decide, by decide⟩
    obtain ⟨T87, h87, X87, e87, W87, st87⟩ := stR X86 hx hZ e86 Ar87 (j := (2 : Int32)) hin87 rfl (Sto.ofV Ar87 qk87 O72 (Ins.self (E_o_COLUMNS_AND_DEPENDENCIES.ext F83.2))) (g := (mkF m 49 #[.val (.int p0), .val (.int (1 : Int32)), .val (.int (1 : Int32)), .val (.int (3 : Int32)), .unset, .unset] [(.ref o_COLUMNS_AND_DEPENDENCIES), (.int (2 : Int32)), (.ref b72), (.ref b72)])) rfl rfl (hb hby at_49)
    have F88 : Old Z n0 h87 := F83.wr W87 g_b72
    have N89 := Fr.snoc X87 N84 g_b72
    have K89 : Keep h0 h87 [] := K84.wr W87 (Or.inr sz_b72)
    have Z89 : n0 ≤ h87.size := Nat.le_trans Z84 (Keep.of_wr W87).1
    have F90 : Arv Z h87 b72 k72 (.object "standwatch/query/CatalogChange") (3 : Int32) [(.ref o_COLUMNS), (.ref o_DEPENDENCIES), (.ref o_COLUMNS_AND_DEPENDENCIES)] .null := Arv.set Ar87 qk87 Sz87 Nn87 Hs87 Gs87 rfl W87 2 rfl (Nat.le_of_ble_eq_true rfl)
    refine own_go (fun t k => st87 t k) ?_
    show OwnG p.tables e below _ (T87.setTop (mkF m 50 #[.val (.int p0), .val (.int (1 : Int32)), .val (.int (1 : Int32)), .val (.int (3 : Int32)), .unset, .unset] [(.ref b72)]))
    refine own_go (fun t k => XS.astore X87.here hx rfl (hb hby at_50) rfl rfl (l' := #[.val (.int p0), .val (.int (1 : Int32)), .val (.int (1 : Int32)), .val (.int (3 : Int32)), .val (.ref b72), .unset]) rfl k) ?_
    show OwnG p.tables e below _ (T87.setTop (mkF m 52 #[.val (.int p0), .val (.int (1 : Int32)), .val (.int (1 : Int32)), .val (.int (3 : Int32)), .val (.ref b72), .unset] []))
    refine own_go (fun t k => XS.iloadN X87.here hx rfl (hb hby at_52) rfl  k) ?_
    show OwnG p.tables e below _ (T87.setTop (mkF m 53 #[.val (.int p0), .val (.int (1 : Int32)), .val (.int (1 : Int32)), .val (.int (3 : Int32)), .val (.ref b72), .unset] [(.int (1 : Int32))]))
    refine own_go (fun t k => XS.iloadN X87.here hx rfl (hb hby at_53) rfl  k) ?_
    show OwnG p.tables e below _ (T87.setTop (mkF m 54 #[.val (.int p0), .val (.int (1 : Int32)), .val (.int (1 : Int32)), .val (.int (3 : Int32)), .val (.ref b72), .unset] [(.int (1 : Int32)), (.int (1 : Int32))]))
    obtain ⟨_, _, ⟨T91, L91, k91, n91⟩, -, X91, ⟨Lc91, hQ91, l91, y91, z91⟩, st91⟩ := Jvm.LawKit.callS X87 hx (y := (⟨"standwatch/query/CatalogChange", "of", "(ZZ)Ljava/util/Optional;"⟩ : MethodName)) hown (mvT hZ (hw _ (List.mem_of_getElem? (i := 10) rfl))) (mvT hZ (hw _ (List.mem_of_getElem? (i := 11) rfl))) (mvT hZ (hw _ (List.mem_of_getElem? (i := 3) rfl))) (mvT hZ (hw _ (List.mem_of_getElem? (i := 12) rfl))) (by decide) (backOf (W := 0) (own_cof3 l Z a0 hw [] o_COLUMNS o_DEPENDENCIES o_COLUMNS_AND_DEPENDENCIES o_EMPTY h87 n0 Z89 F88 S_COLUMNS E_o_COLUMNS S_DEPENDENCIES E_o_DEPENDENCIES S_COLUMNS_AND_DEPENDENCIES E_o_COLUMNS_AND_DEPENDENCIES S_EMPTY E_o_EMPTY F_o_EMPTY_value) hZ (hw _ (List.mem_of_getElem? (i := 12) rfl)) (hw _ (List.mem_of_getElem? (i := 3) rfl)) (by decide) (by decide)) (g := (mkF m 54 #[.val (.int p0), .val (.int (1 : Int32)), .val (.int (1 : Int32)), .val (.int (3 : Int32)), .val (.ref b72), .unset] [(.int (1 : Int32)), (.int (1 : Int32))])) rfl (by rw [hml]; rfl) (argsL := [(.int (1 : Int32)), (.int (1 : Int32))]) (rest := []) (lenOf own_pd69 rfl) rfl (by show 2 * 0 + _ ≤ _; exact Nat.le_of_eq rfl) (hb hby at_54) (fun _ _ => ⟨rfl, e87, (by decide : 1 + 1 ≤ _), (by decide : 3 + 1 ≤ _)⟩)
    dsimp only [Pt.U, Pt.locs, Pt.cells, Pt.slots] at X91 l91 y91 z91 st91 hQ91
    subst l91 y91 z91
    obtain ⟨bw_91, rfl, Nq91, Kq91, Fq91_0, Fq91_1⟩ := hQ91
    have N91 := Fr.app N89 Nq91
    have F92 : Old Z n0 T91.heap := F88.keep Kq91 all0
    have F93 : Arv Z T91.heap b72 k72 (.object "standwatch/query/CatalogChange") (3 : Int32) [(.ref o_COLUMNS), (.ref o_DEPENDENCIES), (.ref o_COLUMNS_AND_DEPENDENCIES)] .null := F90.keep Kq91 nin0
    have K91 : Keep h0 T91.heap [] := K89.trans Kq91 all0
    have Z91 : n0 ≤ T91.heap.size := Nat.le_trans Z89 Kq91.1
    refine own_go (fun t k => st91 t k) ?_
    show OwnG p.tables e below _ (T91.setTop (mkF m 57 #[.val (.int p0), .val (.int (1 : Int32)), .val (.int (1 : Int32)), .val (.int (3 : Int32)), .val (.ref b72), .unset] [(.ref bw_91)]))
    refine own_go (fun t k => XS.astore X91.here hx rfl (hb hby at_57) rfl rfl (l' := #[.val (.int p0), .val (.int (1 : Int32)), .val (.int (1 : Int32)), .val (.int (3 : Int32)), .val (.ref b72), .val (.ref bw_91)]) rfl k) ?_
    show OwnG p.tables e below _ (T91.setTop (mkF m 59 #[.val (.int p0), .val (.int (1 : Int32)), .val (.int (1 : Int32)), .val (.int (3 : Int32)), .val (.ref b72), .val (.ref bw_91)] []))
    refine own_go (fun t k => XS.aload X91.here hx rfl (hb hby at_59) rfl rfl k) ?_
    show OwnG p.tables e below _ (T91.setTop (mkF m 61 #[.val (.int p0), .val (.int (1 : Int32)), .val (.int (1 : Int32)), .val (.int (3 : Int32)), .val (.ref b72), .val (.ref bw_91)] [(.ref bw_91)]))
    refine own_go (fun t k => XS.ifnonnullYes X91.here hx rfl (pc0 := 61) (pc' := 66) rfl (hb hby at_61) rfl (by decide) (by decide) k) ?_
    show OwnG p.tables e below _ (T91.setTop (mkF m 66 #[.val (.int p0), .val (.int (1 : Int32)), .val (.int (1 : Int32)), .val (.int (3 : Int32)), .val (.ref b72), .val (.ref bw_91)] []))
    refine own_go (fun t k => XS.iloadN X91.here hx rfl (hb hby at_66) rfl  k) ?_
    show OwnG p.tables e below _ (T91.setTop (mkF m 67 #[.val (.int p0), .val (.int (1 : Int32)), .val (.int (1 : Int32)), .val (.int (3 : Int32)), .val (.ref b72), .val (.ref bw_91)] [(.int (3 : Int32))]))
    refine own_go (fun t k => XS.ifYes X91.here hx rfl (pc0 := 67) (pc' := 84) rfl (hb hby at_67) rfl ((if0 _ _).trans (feq (by decide : ¬ ((3 : Int32) = (0 : Int32)))).2) (by decide) (by decide) k) ?_
    show OwnG p.tables e below _ (T91.setTop (mkF m 84 #[.val (.int p0), .val (.int (1 : Int32)), .val (.int (1 : Int32)), .val (.int (3 : Int32)), .val (.ref b72), .val (.ref bw_91)] []))
    refine own_go (fun t k => XS.aload X91.here hx rfl (hb hby at_84) rfl rfl k) ?_
    show OwnG p.tables e below _ (T91.setTop (mkF m 86 #[.val (.int p0), .val (.int (1 : Int32)), .val (.int (1 : Int32)), .val (.int (3 : Int32)), .val (.ref b72), .val (.ref bw_91)] [(.ref bw_91)]))
    obtain ⟨cq94, kq94, q94a, q94b, q94c⟩ := isOf hZ rfl Fq91_0
    obtain ⟨_, _, ⟨T94, L94, k94, n94⟩, -, X94, ⟨Lc94, hQ94, l94, y94, z94⟩, st94⟩ := X91.virtualBack hx (y := (⟨"java/util/Optional", "isPresent", "()Z"⟩ : MethodName)) (z := (⟨"java/util/Optional", "isPresent", "()Z"⟩ : MethodName)) hown (mvT hZ (hw _ (List.mem_of_getElem? (i := 18) rfl))) (mvT hZ (hw _ (List.mem_of_getElem? (i := 19) rfl))) (notFace_of_selects (args := #[]) (mvT hZ (hw _ (List.mem_of_getElem? (i := 21) rfl)))) (mvT hZ (hw _ (List.mem_of_getElem? (i := 21) rfl))) (mvT hZ (hw _ (List.mem_of_getElem? (i := 20) rfl))) (by decide) (backOf (W := 0) (own_ip1 l Z a0 hw [] bw_91 o_COLUMNS_AND_DEPENDENCIES T91.heap n0 Z91 Fq91_1) hZ (hw _ (List.mem_of_getElem? (i := 22) rfl)) (hw _ (List.mem_of_getElem? (i := 15) rfl)) (by decide) (by decide)) q94a q94c (g := (mkF m 86 #[.val (.int p0), .val (.int (1 : Int32)), .val (.int (1 : Int32)), .val (.int (3 : Int32)), .val (.ref b72), .val (.ref bw_91)] [(.ref bw_91)])) rfl (by rw [hml]; rfl) (Steps.refl _) (argsL := []) (rest := []) (lenOf own_pd70 rfl) rfl (by show 2 * 0 + _ ≤ _; exact Nat.le_of_eq rfl) (hb hby at_86) (fun _ _ => ⟨rfl, rfl, (by decide : 2 + 0 ≤ _), (by decide : 4 + 0 ≤ _)⟩)
    dsimp only [Pt.U, Pt.locs, Pt.cells, Pt.slots] at X94 l94 y94 z94 st94 hQ94
    subst l94 y94 z94
    obtain ⟨rfl, Nq94, eq94⟩ := hQ94
    have N94 := Fr.app N91 Nq94
    have e94 : T94.heap = T91.heap := eq94
    refine own_go (fun t k => st94.trans k) ?_
    show OwnG p.tables e below _ (T94.setTop (mkF m 89 #[.val (.int p0), .val (.int (1 : Int32)), .val (.int (1 : Int32)), .val (.int (3 : Int32)), .val (.ref b72), .val (.ref bw_91)] [(.int (1 : Int32))]))
    refine own_go (fun t k => XS.ifNo X94.here hx rfl (hb hby at_89) rfl ((if0 _ _).trans (feq (by decide : ¬ ((1 : Int32) = (0 : Int32)))).1) k) ?_
    show OwnG p.tables e below _ (T94.setTop (mkF m 92 #[.val (.int p0), .val (.int (1 : Int32)), .val (.int (1 : Int32)), .val (.int (3 : Int32)), .val (.ref b72), .val (.ref bw_91)] []))
    refine own_go (fun t k => XS.aload X94.here hx rfl (hb hby at_92) rfl rfl k) ?_
    show OwnG p.tables e below _ (T94.setTop (mkF m 94 #[.val (.int p0), .val (.int (1 : Int32)), .val (.int (1 : Int32)), .val (.int (3 : Int32)), .val (.ref b72), .val (.ref bw_91)] [(.ref bw_91)]))
    obtain ⟨cq95, kq95, q95a, q95b, q95c⟩ := isOf hZ e94 Fq91_0
    obtain ⟨_, _, ⟨T95, L95, k95, n95⟩, -, X95, ⟨Lc95, hQ95, l95, y95, z95⟩, st95⟩ := X94.virtualBack hx (y := (⟨"java/util/Optional", "get", "()Ljava/lang/Object;"⟩ : MethodName)) (z := (⟨"java/util/Optional", "get", "()Ljava/lang/Object;"⟩ : MethodName)) hown (mvT hZ (hw _ (List.mem_of_getElem? (i := 42) rfl))) (mvT hZ (hw _ (List.mem_of_getElem? (i := 43) rfl))) (notFace_of_selects (args := #[]) (mvT hZ (hw _ (List.mem_of_getElem? (i := 45) rfl)))) (mvT hZ (hw _ (List.mem_of_getElem? (i := 45) rfl))) (mvT hZ (hw _ (List.mem_of_getElem? (i := 44) rfl))) (by decide) (backOf (W := 0) (own_get l Z a0 hw [] bw_91 o_COLUMNS_AND_DEPENDENCIES T91.heap n0 Z91 Fq91_1) hZ (hw _ (List.mem_of_getElem? (i := 46) rfl)) (hw _ (List.mem_of_getElem? (i := 15) rfl)) (by decide) (by decide)) q95a q95c (g := (mkF m 94 #[.val (.int p0), .val (.int (1 : Int32)), .val (.int (1 : Int32)), .val (.int (3 : Int32)), .val (.ref b72), .val (.ref bw_91)] [(.ref bw_91)])) rfl (by rw [hml]; rfl) (Steps.refl _) (argsL := []) (rest := []) (lenOf own_pd71 rfl) rfl (by show 2 * 0 + _ ≤ _; exact Nat.le_of_eq rfl) (hb hby at_94) (fun _ _ => ⟨rfl, e94, (by decide : 2 + 0 ≤ _), (by decide : 4 + 0 ≤ _)⟩)
    dsimp only [Pt.U, Pt.locs, Pt.cells, Pt.slots] at X95 l95 y95 z95 st95 hQ95
    subst l95 y95 z95
    obtain ⟨rfl, Nq95, eq95⟩ := hQ95
    have N95 := Fr.app N94 Nq95
    have e95 : T95.heap = T91.heap := eq95
    refine own_go (fun t k => st95.trans k) ?_
    show OwnG p.tables e below _ (T95.setTop (mkF m 97 #[.val (.int p0), .val (.int (1 : Int32)), .val (.int (1 : Int32)), .val (.int (3 : Int32)), .val (.ref b72), .val (.ref bw_91)] [(.ref o_COLUMNS_AND_DEPENDENCIES)]))
    refine own_go (fun t k => XS.aload X95.here hx rfl (hb hby at_97) rfl rfl k) ?_
    show OwnG p.tables e below _ (T95.setTop (mkF m 99 #[.val (.int p0), .val (.int (1 : Int32)), .val (.int (1 : Int32)), .val (.int (3 : Int32)), .val (.ref b72), .val (.ref bw_91)] [(.ref b72), (.ref o_COLUMNS_AND_DEPENDENCIES)]))
    refine own_go (fun t k => XS.iloadN X95.here hx rfl (hb hby at_99) rfl  k) ?_
    show OwnG p.tables e below _ (T95.setTop (mkF m 100 #[.val (.int p0), .val (.int (1 : Int32)), .val (.int (1 : Int32)), .val (.int (3 : Int32)), .val (.ref b72), .val (.ref bw_91)] [(.int (3 : Int32)), (.ref b72), (.ref o_COLUMNS_AND_DEPENDENCIES)]))
    refine own_go (fun t k => XS.iconst X95.here hx rfl (hb hby at_100) k) ?_
    show OwnG p.tables e below _ (T95.setTop (mkF m 101 #[.val (.int p0), .val (.int (1 : Int32)), .val (.int (1 : Int32)), .val (.int (3 : Int32)), .val (.ref b72), .val (.ref bw_91)] [(.int (1 : Int32)), (.int (3 : Int32)), (.ref b72), (.ref o_COLUMNS_AND_DEPENDENCIES)]))
    refine own_go (fun t k => XS.isub X95.here hx rfl (hb hby at_101) rfl k) ?_
    show OwnG p.tables e below _ (T95.setTop (mkF m 102 #[.val (.int p0), .val (.int (1 : Int32)), .val (.int (1 : Int32)), .val (.int (3 : Int32)), .val (.ref b72), .val (.ref bw_91)] [(.int ((3 : Int32) - (1 : Int32))), (.ref b72), (.ref o_COLUMNS_AND_DEPENDENCIES)]))
    rw [show ((3 : Int32) - (1 : Int32)) = (2 : Int32) from by decide]
    show OwnG p.tables e below _ (T95.setTop (mkF m 102 #[.val (.int p0), .val (.int (1 : Int32)), .val (.int (1 : Int32)), .val (.int (3 : Int32)), .val (.ref b72), .val (.ref bw_91)] [(.int (2 : Int32)), (.ref b72), (.ref o_COLUMNS_AND_DEPENDENCIES)]))
    obtain ⟨cl96, Ar96, qk96, Sz96, Nn96, Hs96, Gs96⟩ := F93
    have hin96 : ¬ ((2 : Int32) < 0 ∨ cl96.slots.size ≤ ((2 : Int32)).toNatClampNeg) := inb_of Sz96 ⟨by decide, by decide⟩
    have hat96 : cl96.slots[((2 : Int32)).toNatClampNeg]? = some (.ref o_COLUMNS_AND_DEPENDENCIES) := Hs96.at hin96 rfl
    refine own_go (fun t k => (X95.aaload hx (j := (2 : Int32)) (v := (.ref o_COLUMNS_AND_DEPENDENCIES)) (by rw [e95]; exact Ar96.1) (State.isArrayOf_alike hZ.alike Ar96.2.1) rfl Ar96.2.2 hin96 hat96 (g := (mkF m 102 #[.val (.int p0), .val (.int (1 : Int32)), .val (.int (1 : Int32)), .val (.int (3 : Int32)), .val (.ref b72), .val (.ref bw_91)] [(.int (2 : Int32)), (.ref b72), (.ref o_COLUMNS_AND_DEPENDENCIES)])) rfl rfl (hb hby at_102)) t k) ?_
    show OwnG p.tables e below _ (T95.setTop (mkF m 103 #[.val (.int p0), .val (.int (1 : Int32)), .val (.int (1 : Int32)), .val (.int (3 : Int32)), .val (.ref b72), .val (.ref bw_91)] [(.ref o_COLUMNS_AND_DEPENDENCIES), (.ref o_COLUMNS_AND_DEPENDENCIES)]))
    refine own_go (fun t k => Jvm.RoadKit.acmp (g := (mkF m 103 #[.val (.int p0), .val (.int (1 : Int32)), .val (.int (1 : Int32)), .val (.int (3 : Int32)), .val (.ref b72), .val (.ref bw_91)] [(.ref o_COLUMNS_AND_DEPENDENCIES), (.ref o_COLUMNS_AND_DEPENDENCIES)])) X95 hx rfl rfl rfl (pc0 := 103) (pc' := 106) (same := true) rfl (hb hby at_103) rfl (decide_eq_true rfl) (by decide) (by decide) k) ?_
    show OwnG p.tables e below _ (T95.setTop (mkF m 106 #[.val (.int p0), .val (.int (1 : Int32)), .val (.int (1 : Int32)), .val (.int (3 : Int32)), .val (.ref b72), .val (.ref bw_91)] []))
    refine own_go (fun t k => XS.iconst X95.here hx rfl (hb hby at_106) k) ?_
    show OwnG p.tables e below _ (T95.setTop (mkF m 107 #[.val (.int p0), .val (.int (1 : Int32)), .val (.int (1 : Int32)), .val (.int (3 : Int32)), .val (.ref b72), .val (.ref bw_91)] [(.int (1 : Int32))]))
    refine own_go (fun t k => XS.goto X95.here hx rfl (pc0 := 107) (pc' := 111) rfl (hb hby at_107) (by decide) (by decide) k) ?_
    show OwnG p.tables e below _ (T95.setTop (mkF m 111 #[.val (.int p0), .val (.int (1 : Int32)), .val (.int (1 : Int32)), .val (.int (3 : Int32)), .val (.ref b72), .val (.ref bw_91)] [(.int (1 : Int32))]))
    obtain ⟨fs, hr, hrun, hended, hW, hsame⟩ := X95.leave (v := some (.int (1 : Int32))) (fun h => by rw [Bd.returns] at h; cases h)
    refine ⟨_, _, retN X95 hx (t := .boolean) Bd.returns (by simp) (hb hby at_111) hr, hrun, hended, _, _, rfl, ?_, ⟨_, rfl⟩, hW, hsame.mono (by decide) (by decide)⟩
    show Q_own_law Z p0 o_COLUMNS o_DEPENDENCIES o_COLUMNS_AND_DEPENDENCIES o_EMPTY h0 n0 _ T95.heap _
    rw [e95]
    exact ⟨rfl, N95⟩
set_option maxRecDepth 65536 in
set_option maxHeartbeats 40000000 in
theorem comes_1 {Post : Tables → Env → Array Value → State → Outcome → State → Prop} (hpost : ∀ tb e args s v u, (limb_1_1.after args s (.returned v) u = true ∧ limb_1_2.after args s (.returned v) u = true ∧ True) → FrameEnd s (.returned v) u (Jvm.fieldLocs frame_1_writes args s ++ Jvm.arrayLocs frame_1_arrays args s ++ Jvm.staticLocs frame_1_statics s) 16 128 → Post tb e args s (.returned v) u) :
    ArmFor flags0 classFile x code maxLocals ret World_1 tables_1 room_1 Calls_1 rest_1 Pre_1 Post := by
  intro l hfl _ _ p e ha hc hk s m args below hf hA hF happ hP
  obtain ⟨hcalls, hrest, hpre⟩ := hP
  obtain ⟨-, -, -, hnamed, -, -, -, hat⟩ := (Spec.applies_iff hf).mp happ
  obtain ⟨hg, hn⟩ := and_e (Cond.before_iff.mp (show (Jvm.Cond.and given_1 narrow_1).before args s = true from hpre))
  obtain ⟨hcount, hg⟩ := and_e hg
  have ga0 := hg
  obtain ⟨w0, rfl⟩ : ∃ w0 : Value, args = #[w0] := by
    have hs : args.size = 1 := by simpa [Cond.value, given_1] using hcount
    obtain ⟨L⟩ := args
    match L, hs with
    | [w0], _ => exact ⟨w0, rfl⟩
  have hw := fun d (hd : d ∈ tables_1) => atoms_spec (ws := Jvm.Cond.code x code maxLocals ret :: tables_1) hat d (List.mem_cons_of_mem _ hd)
  have hfit : Fit s := fun {y c} hc i hi => by
    obtain ⟨ha, rfl⟩ := Array.getElem?_eq_some_iff.mp hc
    have q := List.all_eq_true.mp ((Array.all_eq_true_iff_forall_mem.mp hF) _ (Array.getElem_mem ha)) i (List.mem_range.mpr hi)
    simpa [Array.getElem?_eq_getElem hi] using q
  obtain ⟨hsets, hown0⟩ := atoms_of _ (rest_1_c_eq ▸ (show rest_1_c.before _ s = true from hrest))
  have hr0 := Cond.before_iff.mp hown0
  obtain ⟨i0, ei0⟩ := is_v ga0
  obtain rfl : w0 = (.int i0) := Option.some.inj ei0
  obtain ⟨hn1, hn⟩ := and_e hn
  obtain ⟨o_COLUMNS, ev_o_COLUMNS⟩ := exa_v hn1
  have S_COLUMNS : Sta s s.heap "standwatch/query/CatalogChange" "COLUMNS" "Lstandwatch/query/CatalogChange;" (.ref o_COLUMNS) := Sta.start ev_o_COLUMNS (Or.inr ⟨(hw _ (List.mem_of_getElem? (i := 3) rfl)), (hw _ (List.mem_of_getElem? (i := 4) rfl))⟩)
  have E_o_COLUMNS : Exa s s.heap o_COLUMNS "standwatch/query/CatalogChange" := Exa.start ev_o_COLUMNS hn1
  obtain ⟨hn2, hn⟩ := and_e hn
  obtain ⟨o_DEPENDENCIES, ev_o_DEPENDENCIES⟩ := exa_v hn2
  have S_DEPENDENCIES : Sta s s.heap "standwatch/query/CatalogChange" "DEPENDENCIES" "Lstandwatch/query/CatalogChange;" (.ref o_DEPENDENCIES) := Sta.start ev_o_DEPENDENCIES (Or.inr ⟨(hw _ (List.mem_of_getElem? (i := 3) rfl)), (hw _ (List.mem_of_getElem? (i := 7) rfl))⟩)
  have E_o_DEPENDENCIES : Exa s s.heap o_DEPENDENCIES "standwatch/query/CatalogChange" := Exa.start ev_o_DEPENDENCIES hn2
  obtain ⟨o_COLUMNS_AND_DEPENDENCIES, ev_o_COLUMNS_AND_DEPENDENCIES⟩ := exa_v hn
  have S_COLUMNS_AND_DEPENDENCIES : Sta s s.heap "standwatch/query/CatalogChange" "COLUMNS_AND_DEPENDENCIES" "Lstandwatch/query/CatalogChange;" (.ref o_COLUMNS_AND_DEPENDENCIES) := Sta.start ev_o_COLUMNS_AND_DEPENDENCIES (Or.inr ⟨(hw _ (List.mem_of_getElem? (i := 3) rfl)), (hw _ (List.mem_of_getElem? (i := 9) rfl))⟩)
  have E_o_COLUMNS_AND_DEPENDENCIES : Exa s s.heap o_COLUMNS_AND_DEPENDENCIES "standwatch/query/CatalogChange" := Exa.start ev_o_COLUMNS_AND_DEPENDENCIES hn
  obtain ⟨o_EMPTY, ev_o_EMPTY⟩ := exa_v (Cond.before_iff.mp (hsets _ (List.mem_of_getElem? (i := 2) rfl)))
  have S_EMPTY : Sta s s.heap "java/util/Optional" "EMPTY" "Ljava/util/Optional;" (.ref o_EMPTY) := Sta.start ev_o_EMPTY (Or.inr ⟨(hw _ (List.mem_of_getElem? (i := 15) rfl)), (hsets _ (List.mem_of_getElem? (i := 0) rfl))⟩)
  have E_o_EMPTY : Exa s s.heap o_EMPTY "java/util/Optional" := Exa.start ev_o_EMPTY (Cond.before_iff.mp (hsets _ (List.mem_of_getElem? (i := 2) rfl)))
  have F_o_EMPTY_value : Fld s s.heap o_EMPTY "java/util/Optional" "value" "Ljava/lang/Object;" .null := own_fld ev_o_EMPTY (null_v (Cond.before_iff.mp (hsets _ (List.mem_of_getElem? (i := 3) rfl))))
  obtain ⟨n, o, h1, h2, h3, _, L, rfl, ⟨rfl, N⟩, hq⟩ := own_law l s _ hw tables_1 i0 o_COLUMNS o_DEPENDENCIES o_COLUMNS_AND_DEPENDENCIES o_EMPTY s.heap s.heap.size (Nat.le_refl _) (Old.start s) S_COLUMNS E_o_COLUMNS S_DEPENDENCIES E_o_DEPENDENCIES S_COLUMNS_AND_DEPENDENCIES E_o_COLUMNS_AND_DEPENDENCIES S_EMPTY E_o_EMPTY F_o_EMPTY_value  p e ha hc hk s m _ below hf ((Spec.applies_iff_loose hf).mp happ).1 ⟨rfl, State.Warmed39.refl s, rfl⟩ trivial
  refine ⟨n, _, h1, h2, h3, hpost _ _ _ _ _ _ ⟨Cond.after_iff.mpr rfl, Cond.after_iff.mpr (eq_i res_at (Term.int_eval (1)) rfl), trivial⟩ ⟨hq.1, hq.2.1, (hq.2.2.sift fun y hy => Or.inr (N y hy)).mono (by decide) (by decide)⟩⟩
theorem main_1_1 : Claimed_1_1 := comes_1 fun _ _ _ _ _ _ h hF => ⟨h.1, hF⟩
theorem main_1_2 : Claimed_1_2 := comes_1 fun _ _ _ _ _ _ h hF => ⟨h.2.1, hF⟩
end Jvm.Pilot.@@N@@
namespace Jvm.Pilot.@@N@@
open Jvm Jvm.ClassFile Sem Op Lib Jvm.Free Jvm.Stand Jvm.Pilot.@@N@@.Jvm.D
/-! MADE BY PROGRAM (witnessworld.py) out of the Statement's table words and the real class files: 15 classes; the members and pool entries that the words name. The judged class is class 1, her method 1. -/
namespace start1
open Jvm.ClassFile
def u (s : String) : CpInfo := .utf8 (stringToUtf16 s)
/-- a pool by its gaps: so many unusable entries, then the entry; so many at the end -/
def gap : Nat → List CpInfo → List CpInfo
  | 0, r => r
  | n + 1, r => .unusable :: gap n r
def poolList (es : List (Nat × CpInfo)) (last : Nat) : List CpInfo := es.foldr (fun e r => gap e.1 (e.2 :: r)) (gap last [])
def pool (es : List (Nat × CpInfo)) (last : Nat) : Array CpInfo := ⟨poolList es last⟩
def fileOf (pool : Array CpInfo) (this : Nat) (attrs : Array Attribute := #[]) (ms : Array MethodInfo := #[]) (fl : Nat := 33) (sup : Nat := 0) (ifs : Array Nat := #[]) (fds : Array FieldInfo := #[]) : ClassFile where
  minorVersion := 0
  majorVersion := 65
  constantPool := pool
  accessFlags := fl
  thisClass := this
  superClass := sup
  interfaces := ifs
  fields := fds
  methods := ms
  attributes := attrs
def plain (name : String) (sup : Option ClassId) : Class where
  name := name
  kind := .ordinary
  loader := none
  accessFlags := 33
  super := sup
  interfaces := #[]
  cf := none
  fields := #[]
  methods := #[]
  instanceTypes := #[]
  staticTypes := #[]
  resolved := #[]
  callSites := []
  init := .initialized
  statics := none
  mirror := none

def pool0 : Array CpInfo := pool [(5, u "<init>"), (0, u "()V"), (1, .class_ 10), (1, u "java/lang/Object")] 113

def k0c0 : Code := { maxStack := 0, maxLocals := 1, code := object_method_1_code, exceptionTable := #[], attributes := #[] }
def k0m0 : Method := { name := "<init>", desc := "()V", sig := { parameters := [], returnType := none }, accessFlags := 1, code := some k0c0 }
/-- java/lang/Object -/
def k0 : Class := { plain "java/lang/Object" none with
  accessFlags := 33
  interfaces := #[]
  cf := some (fileOf pool0 8 #[] #[{ accessFlags := 1, nameIndex := 5, descriptorIndex := 6, attributes := #[] }] 33 0 #[] #[])
  fields := #[]
  methods := #[k0m0]
  instanceTypes := #[]
  staticTypes := #[]
  resolved := Array.replicate 124 none
  statics := none }

def pool1 : Array CpInfo := pool [(2, .class_ 4), (1, u "java/lang/Object"), (0, u "<init>"), (0, u "()V"), (0, .class_ 8), (0, u "standwatch/query/CatalogChange"), (0, .fieldref 7 10), (0, .nameAndType 11 12), (0, u "COLUMNS"), (0, u "Lstandwatch/query/CatalogChange;"), (0, .fieldref 7 14), (0, .nameAndType 15 12), (0, u "DEPENDENCIES"), (0, .fieldref 7 17), (0, .nameAndType 18 12), (0, u "COLUMNS_AND_DEPENDENCIES"), (0, .methodref 7 20), (0, .nameAndType 21 22), (0, u "of"), (0, u "(ZZ)Ljava/util/Optional;"), (0, .methodref 24 25), (0, .class_ 26), (0, .nameAndType 27 28), (0, u "java/util/Optional"), (0, u "isPresent"), (0, u "()Z"), (0, .methodref 24 30), (0, .nameAndType 31 32), (0, u "get"), (0, u "()Ljava/lang/Object;"), (0, .class_ 34), (0, u "standwatch/query/CatalogChangeOfPinLaw"), (2, u "law"), (0, u "(I)Z")] 5

def k1m0 : Method := { name := "<init>", desc := "()V", sig := { parameters := [], returnType := none }, accessFlags := 1, code := none }
def k1c1 : Code := { maxStack := 4, maxLocals := 6, code := code, exceptionTable := #[], attributes := #[] }
def k1m1 : Method := { name := "law", desc := "(I)Z", sig := { parameters := [.int], returnType := some .boolean }, accessFlags := 9, code := some k1c1 }
/-- standwatch/query/CatalogChangeOfPinLaw -/
def k1 : Class := { plain "standwatch/query/CatalogChangeOfPinLaw" (some 0) with
  accessFlags := 49
  interfaces := #[]
  cf := some (fileOf pool1 33 #[] #[{ accessFlags := 1, nameIndex := 5, descriptorIndex := 6, attributes := #[] }, { accessFlags := 9, nameIndex := 37, descriptorIndex := 38, attributes := #[] }] 49 2 #[] #[])
  fields := #[]
  methods := #[k1m0, k1m1]
  instanceTypes := #[]
  staticTypes := #[]
  resolved := Array.replicate 44 none
  statics := none }

def pool2 : Array CpInfo := pool [(1, .class_ 2), (0, u "java/lang/constant/Constable"), (0, .class_ 4), (0, u "java/lang/Object")] 6

/-- java/lang/constant/Constable -/
def k2 : Class := { plain "java/lang/constant/Constable" (some 0) with
  accessFlags := 1537
  interfaces := #[]
  cf := some (fileOf pool2 1 #[] #[] 1537 3 #[] #[])
  fields := #[]
  methods := #[]
  instanceTypes := #[]
  staticTypes := #[]
  resolved := Array.replicate 11 none
  statics := none }

def pool3 : Array CpInfo := pool [(1, .class_ 2), (0, u "java/lang/Comparable"), (0, .class_ 4), (0, u "java/lang/Object")] 7

/-- java/lang/Comparable -/
def k3 : Class := { plain "java/lang/Comparable" (some 0) with
  accessFlags := 1537
  interfaces := #[]
  cf := some (fileOf pool3 1 #[] #[] 1537 3 #[] #[])
  fields := #[]
  methods := #[]
  instanceTypes := #[]
  staticTypes := #[]
  resolved := Array.replicate 12 none
  statics := none }

def pool4 : Array CpInfo := pool [(1, .class_ 2), (0, u "java/io/Serializable"), (0, .class_ 4), (0, u "java/lang/Object")] 2

/-- java/io/Serializable -/
def k4 : Class := { plain "java/io/Serializable" (some 0) with
  accessFlags := 1537
  interfaces := #[]
  cf := some (fileOf pool4 1 #[] #[] 1537 3 #[] #[])
  fields := #[]
  methods := #[]
  instanceTypes := #[]
  staticTypes := #[]
  resolved := Array.replicate 7 none
  statics := none }

def pool5 : Array CpInfo := pool [(2, .class_ 4), (1, u "java/lang/Enum"), (0, u "name"), (0, u "Ljava/lang/String;"), (2, u "ordinal"), (0, u "I"), (1, .class_ 14), (1, u "java/lang/Object"), (4, u "hash"), (86, .class_ 108), (1, u "java/lang/Enum$EnumDesc"), (2, .class_ 112), (0, u "java/lang/constant/Constable"), (0, .class_ 114), (0, u "java/lang/Comparable"), (0, .class_ 116), (0, u "java/io/Serializable")] 87

/-- java/lang/Enum -/
def k5 : Class := { plain "java/lang/Enum" (some 0) with
  accessFlags := 1057
  interfaces := #[2, 3, 4]
  cf := some (fileOf pool5 2 #[.nestMembers #[106]] #[] 1057 12 #[111, 113, 115] #[{ accessFlags := 18, nameIndex := 5, descriptorIndex := 6, attributes := #[] }, { accessFlags := 18, nameIndex := 9, descriptorIndex := 10, attributes := #[] }, { accessFlags := 2, nameIndex := 19, descriptorIndex := 10, attributes := #[] }])
  fields := #[{ name := "name", type := (.object "java/lang/String"), accessFlags := 18, slot := 0, constantValue := 0 }, { name := "ordinal", type := .int, accessFlags := 18, slot := 1, constantValue := 0 }, { name := "hash", type := .int, accessFlags := 2, slot := 2, constantValue := 0 }]
  methods := #[]
  instanceTypes := #[(.object "java/lang/String"), .int, .int]
  staticTypes := #[]
  resolved := Array.replicate 204 none
  statics := none }

def pool6 : Array CpInfo := pool [(1, .class_ 2), (0, u "standwatch/query/CatalogChange"), (0, .fieldref 1 4), (0, .nameAndType 5 6), (0, u "COLUMNS"), (0, u "Lstandwatch/query/CatalogChange;"), (0, .fieldref 1 8), (0, .nameAndType 9 6), (0, u "DEPENDENCIES"), (0, .fieldref 1 11), (0, .nameAndType 12 6), (0, u "COLUMNS_AND_DEPENDENCIES"), (2, u "$VALUES"), (0, u "[Lstandwatch/query/CatalogChange;"), (6, .class_ 25), (1, u "java/lang/Enum"), (8, u "named"), (0, u "Ljava/lang/String;"), (0, .methodref 37 38), (0, .class_ 39), (0, .nameAndType 40 41), (0, u "java/util/Optional"), (0, u "of"), (0, u "(Ljava/lang/Object;)Ljava/util/Optional;"), (0, .methodref 37 43), (0, .nameAndType 44 45), (0, u "empty"), (0, u "()Ljava/util/Optional;"), (23, u "(ZZ)Ljava/util/Optional;")] 8

def k6c0 : Code := { maxStack := 1, maxLocals := 2, code := prog_19_method_4_code, exceptionTable := #[], attributes := #[] }
def k6m0 : Method := { name := "of", desc := "(ZZ)Ljava/util/Optional;", sig := { parameters := [.boolean, .boolean], returnType := some (.object "java/util/Optional") }, accessFlags := 9, code := some k6c0 }
/-- standwatch/query/CatalogChange -/
def k6 : Class := { plain "standwatch/query/CatalogChange" (some 5) with
  accessFlags := 16433
  interfaces := #[]
  cf := some (fileOf pool6 1 #[] #[{ accessFlags := 9, nameIndex := 40, descriptorIndex := 69, attributes := #[] }] 16433 23 #[] #[{ accessFlags := 16409, nameIndex := 5, descriptorIndex := 6, attributes := #[] }, { accessFlags := 16409, nameIndex := 9, descriptorIndex := 6, attributes := #[] }, { accessFlags := 16409, nameIndex := 12, descriptorIndex := 6, attributes := #[] }, { accessFlags := 18, nameIndex := 34, descriptorIndex := 35, attributes := #[] }, { accessFlags := 4122, nameIndex := 15, descriptorIndex := 16, attributes := #[] }])
  fields := #[{ name := "COLUMNS", type := (.object "standwatch/query/CatalogChange"), accessFlags := 16409, slot := 0, constantValue := 0 }, { name := "DEPENDENCIES", type := (.object "standwatch/query/CatalogChange"), accessFlags := 16409, slot := 1, constantValue := 0 }, { name := "COLUMNS_AND_DEPENDENCIES", type := (.object "standwatch/query/CatalogChange"), accessFlags := 16409, slot := 2, constantValue := 0 }, { name := "named", type := (.object "java/lang/String"), accessFlags := 18, slot := 3, constantValue := 0 }, { name := "$VALUES", type := (.array (.object "standwatch/query/CatalogChange")), accessFlags := 4122, slot := 3, constantValue := 0 }]
  methods := #[k6m0]
  instanceTypes := #[(.object "java/lang/String"), .int, .int, (.object "java/lang/String")]
  staticTypes := #[(.object "standwatch/query/CatalogChange"), (.object "standwatch/query/CatalogChange"), (.object "standwatch/query/CatalogChange"), (.array (.object "standwatch/query/CatalogChange"))]
  resolved := Array.replicate 78 none
  statics := some 0 }

def pool7 : Array CpInfo := pool [(1, .fieldref 2 3), (0, .class_ 4), (0, .nameAndType 5 6), (0, u "java/util/Optional"), (0, u "EMPTY"), (0, u "Ljava/util/Optional;"), (0, .methodref 8 9), (0, .class_ 10), (0, .nameAndType 11 12), (0, u "java/lang/Object"), (0, u "<init>"), (0, u "()V"), (0, .fieldref 2 14), (0, .nameAndType 15 16), (0, u "value"), (0, u "Ljava/lang/Object;"), (0, .methodref 18 19), (0, .class_ 20), (0, .nameAndType 21 22), (0, u "java/util/Objects"), (0, u "requireNonNull"), (0, u "(Ljava/lang/Object;)Ljava/lang/Object;"), (0, .methodref 2 24), (0, .nameAndType 11 25), (0, u "(Ljava/lang/Object;)V"), (20, u "()Z"), (8, u "empty"), (0, u "()Ljava/util/Optional;"), (8, u "(Ljava/lang/Object;)Ljava/util/Optional;"), (2, u "isPresent"), (4, u "get"), (0, u "()Ljava/lang/Object;"), (7, u "of")] 104

def k7c0 : Code := { maxStack := 1, maxLocals := 1, code := jdk_32_method_1_code, exceptionTable := #[], attributes := #[] }
def k7m0 : Method := { name := "empty", desc := "()Ljava/util/Optional;", sig := { parameters := [], returnType := some (.object "java/util/Optional") }, accessFlags := 9, code := some k7c0 }
def k7c1 : Code := { maxStack := 2, maxLocals := 2, code := jdk_32_method_2_code, exceptionTable := #[], attributes := #[] }
def k7m1 : Method := { name := "<init>", desc := "(Ljava/lang/Object;)V", sig := { parameters := [(.object "java/lang/Object")], returnType := none }, accessFlags := 2, code := some k7c1 }
def k7c2 : Code := { maxStack := 3, maxLocals := 1, code := jdk_32_method_3_code, exceptionTable := #[], attributes := #[] }
def k7m2 : Method := { name := "of", desc := "(Ljava/lang/Object;)Ljava/util/Optional;", sig := { parameters := [(.object "java/lang/Object")], returnType := some (.object "java/util/Optional") }, accessFlags := 9, code := some k7c2 }
def k7c3 : Code := { maxStack := 3, maxLocals := 1, code := jdk_32_method_5_code, exceptionTable := #[], attributes := #[] }
def k7m3 : Method := { name := "get", desc := "()Ljava/lang/Object;", sig := { parameters := [], returnType := some (.object "java/lang/Object") }, accessFlags := 1, code := some k7c3 }
def k7c4 : Code := { maxStack := 1, maxLocals := 1, code := jdk_32_method_6_code, exceptionTable := #[], attributes := #[] }
def k7m4 : Method := { name := "isPresent", desc := "()Z", sig := { parameters := [], returnType := some .boolean }, accessFlags := 1, code := some k7c4 }
/-- java/util/Optional -/
def k7 : Class := { plain "java/util/Optional" (some 0) with
  accessFlags := 49
  interfaces := #[]
  cf := some (fileOf pool7 2 #[] #[{ accessFlags := 9, nameIndex := 55, descriptorIndex := 56, attributes := #[] }, { accessFlags := 2, nameIndex := 11, descriptorIndex := 25, attributes := #[] }, { accessFlags := 9, nameIndex := 82, descriptorIndex := 65, attributes := #[] }, { accessFlags := 1, nameIndex := 73, descriptorIndex := 74, attributes := #[] }, { accessFlags := 1, nameIndex := 68, descriptorIndex := 46, attributes := #[] }] 49 8 #[] #[{ accessFlags := 26, nameIndex := 5, descriptorIndex := 6, attributes := #[] }, { accessFlags := 18, nameIndex := 15, descriptorIndex := 16, attributes := #[] }])
  fields := #[{ name := "EMPTY", type := (.object "java/util/Optional"), accessFlags := 26, slot := 0, constantValue := 0 }, { name := "value", type := (.object "java/lang/Object"), accessFlags := 18, slot := 0, constantValue := 0 }]
  methods := #[k7m0, k7m1, k7m2, k7m3, k7m4]
  instanceTypes := #[(.object "java/lang/Object")]
  staticTypes := #[(.object "java/util/Optional")]
  resolved := Array.replicate 187 none
  statics := some 1 }

def pool8 : Array CpInfo := pool [(2, .class_ 4), (1, u "java/lang/Object"), (0, u "<init>"), (0, u "()V"), (35, .class_ 44), (1, u "java/util/Objects"), (0, u "requireNonNull"), (0, u "(Ljava/lang/Object;)Ljava/lang/Object;")] 137

def k8m0 : Method := { name := "<init>", desc := "()V", sig := { parameters := [], returnType := none }, accessFlags := 2, code := none }
def k8c1 : Code := { maxStack := 2, maxLocals := 1, code := jdk_31_method_10_code, exceptionTable := #[], attributes := #[] }
def k8m1 : Method := { name := "requireNonNull", desc := "(Ljava/lang/Object;)Ljava/lang/Object;", sig := { parameters := [(.object "java/lang/Object")], returnType := some (.object "java/lang/Object") }, accessFlags := 9, code := some k8c1 }
/-- java/util/Objects -/
def k8 : Class := { plain "java/util/Objects" (some 0) with
  accessFlags := 49
  interfaces := #[]
  cf := some (fileOf pool8 42 #[] #[{ accessFlags := 2, nameIndex := 5, descriptorIndex := 6, attributes := #[] }, { accessFlags := 9, nameIndex := 45, descriptorIndex := 46, attributes := #[] }] 49 2 #[] #[])
  fields := #[]
  methods := #[k8m0, k8m1]
  instanceTypes := #[]
  staticTypes := #[]
  resolved := Array.replicate 184 none
  statics := none }

def pool9 : Array CpInfo := pool [(1, u "java/lang/Cloneable"), (0, .class_ 1), (0, u "java/lang/Object"), (0, .class_ 3)] 3

/-- java/lang/Cloneable -/
def k9 : Class := { plain "java/lang/Cloneable" (some 0) with
  accessFlags := 1537
  interfaces := #[]
  cf := some (fileOf pool9 2 #[] #[] 1537 4 #[] #[])
  fields := #[]
  methods := #[]
  instanceTypes := #[]
  staticTypes := #[]
  resolved := Array.replicate 8 none
  statics := none }

/-- the primitive byte -/
def k10 : Class := { plain "byte" none with kind := .primitive 'B', accessFlags := 0x411 }
/-- [B -/
def k11 : Class := { plain "[B" (some 0) with kind := .array 10 .byte, interfaces := #[9, 4], accessFlags := 1041 }

/-- the primitive int -/
def k12 : Class := { plain "int" none with kind := .primitive 'I', accessFlags := 0x411 }
/-- [I -/
def k13 : Class := { plain "[I" (some 0) with kind := .array 12 .int, interfaces := #[9, 4], accessFlags := 1041 }

/-- [Lstandwatch/query/CatalogChange; -/
def k14 : Class := { plain "[Lstandwatch/query/CatalogChange;" (some 0) with kind := .array 6 (.object "standwatch/query/CatalogChange"), interfaces := #[9, 4], accessFlags := 1041 }

def heap : Heap := #[{ cls := 6, slots := #[.ref 2, .ref 3, .ref 4, .null], vm := .statics 6 },
  { cls := 7, slots := #[.ref 5], vm := .statics 7 },
  { cls := 6, slots := #[.null, .int 0, .int 0, .null], vm := .none },
  { cls := 6, slots := #[.null, .int 1, .int 0, .null], vm := .none },
  { cls := 6, slots := #[.null, .int 2, .int 0, .null], vm := .none },
  { cls := 7, slots := #[.null], vm := .none }]
def classes : Array Class := #[k0, k1, k2, k3, k4, k5, k6, k7, k8, k9, k10, k11, k12, k13, k14]
def interned : List (Array UInt16 × Addr) := []
def slotsUsed : Nat := 18
def theMethod : MethodId := ⟨1, 1⟩
def args0 : Array Value := #[.int 3]
def aboutOver (below : List Frame) : State where
  vm := { classes := classes, interned := interned.toArray }
  heap := heap
  slotsUsed := slotsUsed
  threads := #[{ frames := .invoking theMethod args0 :: below }]
def below0 : List Frame := [.native { method := ⟨0, 0⟩, args := #[] }]
def about1 : State := aboutOver below0
def p0 : Program := .bare "" "" ""
def e0 : Env := launch0.env 0 0 0
theorem w_frames : about1.frames = Frame.invoking theMethod args0 :: below0 := rfl
set_option maxRecDepth 65536 in
theorem w_args : argsFit about1.vm theMethod args0 = true := by decide +kernel
set_option maxRecDepth 65536 in
theorem w_heap : heapFits about1 = true := by decide +kernel
set_option maxRecDepth 65536 in
theorem w_runnable : about1.curStatus? = some .runnable := by decide +kernel
set_option maxRecDepth 65536 in
theorem w_alone : about1.alone = true := by decide +kernel
set_option maxRecDepth 65536 in
theorem w_named : about1.methodNamed? x = some theMethod := by decide +kernel
set_option maxRecDepth 65536 in
theorem w_hears : about1.hears theMethod below0 = true := by decide +kernel
set_option maxRecDepth 65536 in
theorem w_ripe : about1.ripe theMethod args0 below0 = true := by decide +kernel
theorem w_running : about1.status = .running := rfl
set_option maxRecDepth 65536 in
theorem w_room : about1.hasRoom e0.platform room_1 = true :=
  launch0.hasRoom_least _ room_1 (by decide +kernel) (by decide +kernel) (by decide +kernel) (by decide +kernel) (by decide +kernel) (by decide +kernel)
theorem allAtoms_all (ts : List Jvm.Cond) (a : Array Jvm.Value) (st : Jvm.State) : (allAtoms ts).before a st = ts.all (fun c => c.before a st) := by
  induction ts with
  | nil => rfl
  | cons c t ih =>
    show (Jvm.Cond.and c (allAtoms t)).before a st = _
    rw [Jvm.Cond.before_and, ih, List.all_cons]
def words1 : List Jvm.Cond := Jvm.Cond.code x code maxLocals ret :: tables_1
/-- a 'code' word, met by the world's own term for the bytes: nothing is compared byte by byte -/
theorem code_word {y : MethodName} {bytes : ByteArray} {mx : Nat} {rt : Option FieldType} {a : Array Value} {s : State} {m : MethodId} {meth : Method} {c : Code} (h1 : s.methodNamed? y = some m) (h2 : s.vm.method? m = some meth) (h3 : meth.code = some c) (h4 : c.code = bytes)
    (h5 : (c.maxLocals == mx && c.exceptionTable.isEmpty && decide (c.maxStack ≤ mostOperands) && decide (meth.sig.returnType = rt) && !meth.locks && decide (parseMethodDescriptor y.desc = some meth.sig)) = true) : (Jvm.Cond.code y bytes mx rt).before a s = true := by
  simp only [Bool.and_eq_true, beq_iff_eq, Bool.not_eq_true', decide_eq_true_eq] at h5
  obtain ⟨⟨⟨⟨⟨g1, g2⟩, g3⟩, g4⟩, g5⟩, g6⟩ := h5
  simp [Cond.before, Cond.holds, Cond.value, h1, h2, h3, h4, g1, g2, g3, g4, g5, g6]
def isCode : Jvm.Cond → Bool
  | .code _ _ _ _ => true
  | _ => false
theorem all_split {L : List Jvm.Cond} {P : Jvm.Cond → Bool} (h1 : L.all (fun c => isCode c || P c) = true) (h2 : ∀ c ∈ L.filter isCode, P c = true) : L.all P = true := by
  refine List.all_eq_true.mpr fun c hc => ?_
  have h := List.all_eq_true.mp h1 c hc
  rcases Bool.eq_false_or_eq_true (isCode c) with hi | hi
  · exact h2 c (List.mem_filter.mpr ⟨hc, hi⟩)
  · simpa [hi] using h
set_option maxRecDepth 65536 in
theorem w_c0 : (Jvm.Cond.code x code maxLocals ret).before args0 about1 = true := code_word (m := ⟨1, 1⟩) (meth := k1m1) (c := k1c1) (by decide +kernel) rfl rfl rfl (by decide +kernel)
set_option maxRecDepth 65536 in
theorem w_c1 : (Jvm.Cond.code ({ cls := "standwatch/query/CatalogChange", name := "of", desc := "(ZZ)Ljava/util/Optional;" } : Jvm.MethodName) prog_19_method_4_code (2 : Nat) (Option.some (Jvm.ClassFile.FieldType.object "java/util/Optional"))).before args0 about1 = true := code_word (m := ⟨6, 0⟩) (meth := k6m0) (c := k6c0) (by decide +kernel) rfl rfl rfl (by decide +kernel)
set_option maxRecDepth 65536 in
theorem w_c2 : (Jvm.Cond.code ({ cls := "java/util/Optional", name := "empty", desc := "()Ljava/util/Optional;" } : Jvm.MethodName) jdk_32_method_1_code (1 : Nat) (Option.some (Jvm.ClassFile.FieldType.object "java/util/Optional"))).before args0 about1 = true := code_word (m := ⟨7, 0⟩) (meth := k7m0) (c := k7c0) (by decide +kernel) rfl rfl rfl (by decide +kernel)
set_option maxRecDepth 65536 in
theorem w_c3 : (Jvm.Cond.code ({ cls := "java/util/Optional", name := "isPresent", desc := "()Z" } : Jvm.MethodName) jdk_32_method_6_code (1 : Nat) (Option.some Jvm.ClassFile.FieldType.boolean)).before args0 about1 = true := code_word (m := ⟨7, 4⟩) (meth := k7m4) (c := k7c4) (by decide +kernel) rfl rfl rfl (by decide +kernel)
set_option maxRecDepth 65536 in
theorem w_c4 : (Jvm.Cond.code ({ cls := "java/util/Optional", name := "of", desc := "(Ljava/lang/Object;)Ljava/util/Optional;" } : Jvm.MethodName) jdk_32_method_3_code (1 : Nat) (Option.some (Jvm.ClassFile.FieldType.object "java/util/Optional"))).before args0 about1 = true := code_word (m := ⟨7, 2⟩) (meth := k7m2) (c := k7c2) (by decide +kernel) rfl rfl rfl (by decide +kernel)
set_option maxRecDepth 65536 in
theorem w_c5 : (Jvm.Cond.code ({ cls := "java/util/Objects", name := "requireNonNull", desc := "(Ljava/lang/Object;)Ljava/lang/Object;" } : Jvm.MethodName) jdk_31_method_10_code (1 : Nat) (Option.some (Jvm.ClassFile.FieldType.object "java/lang/Object"))).before args0 about1 = true := code_word (m := ⟨8, 1⟩) (meth := k8m1) (c := k8c1) (by decide +kernel) rfl rfl rfl (by decide +kernel)
set_option maxRecDepth 65536 in
theorem w_c6 : (Jvm.Cond.code ({ cls := "java/util/Optional", name := "<init>", desc := "(Ljava/lang/Object;)V" } : Jvm.MethodName) jdk_32_method_2_code (2 : Nat) (Option.none : Option Jvm.ClassFile.FieldType)).before args0 about1 = true := code_word (m := ⟨7, 1⟩) (meth := k7m1) (c := k7c1) (by decide +kernel) rfl rfl rfl (by decide +kernel)
set_option maxRecDepth 65536 in
theorem w_c7 : (Jvm.Cond.code ({ cls := "java/lang/Object", name := "<init>", desc := "()V" } : Jvm.MethodName) object_method_1_code (1 : Nat) (Option.none : Option Jvm.ClassFile.FieldType)).before args0 about1 = true := code_word (m := ⟨0, 0⟩) (meth := k0m0) (c := k0c0) (by decide +kernel) rfl rfl rfl (by decide +kernel)
set_option maxRecDepth 65536 in
theorem w_c8 : (Jvm.Cond.code ({ cls := "java/util/Optional", name := "get", desc := "()Ljava/lang/Object;" } : Jvm.MethodName) jdk_32_method_5_code (1 : Nat) (Option.some (Jvm.ClassFile.FieldType.object "java/lang/Object"))).before args0 about1 = true := code_word (m := ⟨7, 3⟩) (meth := k7m3) (c := k7c3) (by decide +kernel) rfl rfl rfl (by decide +kernel)
def codes1 : List Jvm.Cond := [Jvm.Cond.code x code maxLocals ret, Jvm.Cond.code ({ cls := "standwatch/query/CatalogChange", name := "of", desc := "(ZZ)Ljava/util/Optional;" } : Jvm.MethodName) prog_19_method_4_code (2 : Nat) (Option.some (Jvm.ClassFile.FieldType.object "java/util/Optional")), Jvm.Cond.code ({ cls := "java/util/Optional", name := "empty", desc := "()Ljava/util/Optional;" } : Jvm.MethodName) jdk_32_method_1_code (1 : Nat) (Option.some (Jvm.ClassFile.FieldType.object "java/util/Optional")), Jvm.Cond.code ({ cls := "java/util/Optional", name := "isPresent", desc := "()Z" } : Jvm.MethodName) jdk_32_method_6_code (1 : Nat) (Option.some Jvm.ClassFile.FieldType.boolean), Jvm.Cond.code ({ cls := "java/util/Optional", name := "of", desc := "(Ljava/lang/Object;)Ljava/util/Optional;" } : Jvm.MethodName) jdk_32_method_3_code (1 : Nat) (Option.some (Jvm.ClassFile.FieldType.object "java/util/Optional")), Jvm.Cond.code ({ cls := "java/util/Objects", name := "requireNonNull", desc := "(Ljava/lang/Object;)Ljava/lang/Object;" } : Jvm.MethodName) jdk_31_method_10_code (1 : Nat) (Option.some (Jvm.ClassFile.FieldType.object "java/lang/Object")), Jvm.Cond.code ({ cls := "java/util/Optional", name := "<init>", desc := "(Ljava/lang/Object;)V" } : Jvm.MethodName) jdk_32_method_2_code (2 : Nat) (Option.none : Option Jvm.ClassFile.FieldType), Jvm.Cond.code ({ cls := "java/lang/Object", name := "<init>", desc := "()V" } : Jvm.MethodName) object_method_1_code (1 : Nat) (Option.none : Option Jvm.ClassFile.FieldType), Jvm.Cond.code ({ cls := "java/util/Optional", name := "get", desc := "()Ljava/lang/Object;" } : Jvm.MethodName) jdk_32_method_5_code (1 : Nat) (Option.some (Jvm.ClassFile.FieldType.object "java/lang/Object"))]
set_option maxRecDepth 65536 in
theorem codes_eq : words1.filter isCode = codes1 := rfl
theorem w_codes : ∀ c ∈ words1.filter isCode, c.before args0 about1 = true := by
  rw [codes_eq]
  intro c hc
  simp only [codes1, List.mem_cons, List.not_mem_nil, or_false] at hc
  rcases hc with rfl | rfl | rfl | rfl | rfl | rfl | rfl | rfl | rfl
  · exact w_c0
  · exact w_c1
  · exact w_c2
  · exact w_c3
  · exact w_c4
  · exact w_c5
  · exact w_c6
  · exact w_c7
  · exact w_c8
set_option maxRecDepth 65536 in
theorem w_t1 : (words1.take 24).all (fun c => isCode c || c.before args0 about1) = true := by decide +kernel
set_option maxRecDepth 65536 in
theorem w_t2 : ((words1.drop 24).take 24).all (fun c => isCode c || c.before args0 about1) = true := by decide +kernel
set_option maxRecDepth 65536 in
theorem w_t3 : ((words1.drop 24).drop 24).all (fun c => isCode c || c.before args0 about1) = true := by decide +kernel
theorem w_tables : (allAtoms (Jvm.Cond.code x code maxLocals ret :: tables_1)).before args0 about1 = true := by
  rw [allAtoms_all]
  show words1.all (fun c => c.before args0 about1) = true
  refine all_split ?_ w_codes
  rw [← List.take_append_drop 24 words1, List.all_append, w_t1, ← List.take_append_drop 24 (words1.drop 24), List.all_append, w_t2, w_t3]
  rfl
set_option maxRecDepth 65536 in
theorem w_rest : rest_1_c.before args0 about1 = true := by decide +kernel
set_option maxRecDepth 65536 in
theorem w_case : (Jvm.Cond.and given_1 narrow_1).before args0 about1 = true := by decide +kernel
theorem w_applies : (headSpec (Jvm.Cond.code x code maxLocals ret :: tables_1) room_1).applies x e0.platform about1 = true :=
  (Spec.applies_iff w_frames).mpr ⟨w_running, w_runnable, w_alone, w_named, w_hears, w_ripe, w_room, w_tables⟩
theorem atStart : AtStart classFile x code maxLocals ret World_1 tables_1 room_1 Calls_1 rest_1 Pre_1 launch0 p0 e0 about1 theMethod args0 below0 :=
  ⟨lists_1, trivial, launch0.admits_env _ _ _, launch0.least_env, fairChoices_fair.cas, fairChoices_fair.clock, w_frames, w_args, w_heap, w_applies, trivial, w_rest, w_case⟩
end start1
theorem witness_1 : WitnessClaimed_1 := ⟨start1.p0, start1.e0, start1.about1, start1.theMethod, start1.args0, start1.below0, start1.atStart⟩
end Jvm.Pilot.@@N@@
