import JvmDerived
import JvmDerived.Pilot.@@N@@Statement
import JvmDerived.Pilot.@@N@@Code
set_option linter.unusedVariables false
set_option linter.unusedSimpArgs false
namespace Jvm.RoadKit
open Sem ClassFile Op Lib Jvm.Stand Jvm.Free Jvm.LawKit
section New
variable {p : Program} {l : Launch} {e : Env} {R : Room} {s : State} {m : MethodId} {args : Array Value} {below : List Frame} {meth : Method} {c : Code} {T : State} {locs : List Loc} {cells slots : Nat}
theorem retI (X : Stand p l e R s m args below meth c T locs cells slots) (hx : p.tables.exec = Jvm.exec) {pc : Nat} {Ls : Array Slot} {z : Int32} {rest : List Value} (hret : meth.sig.returnType = some .int) (hd : decode c.code pc = .ok (.ireturn, 1)) {fs : List Frame}
    (hl : ∀ (f : JFrame) (acts : List Action), f.method = m → f.locked = none → f.entered = [] → (doReturn e (T.setTop f) acts (some (.int z))).1 = T.setFrames fs) : Steps p.tables e below (T.setTop (mkF m pc Ls (.int z :: rest))) (T.setFrames fs) := by
  have hm' : T.vm.method? m = some meth := X.method'
  have hn : narrow .int (.int z) = .int z := rfl
  show Steps p.tables e below (T.setTop { method := m, pc := pc, locals := Ls, stack := _ :: rest, locked := none }) _
  jvm_step X.here [X.here.top, hx, hd, hm', hret, hn]
  first | (intro acts; rw [hl _ acts rfl rfl rfl]) | rw [hl _ _ rfl rfl rfl]
  exact Steps.refl _
end New
end Jvm.RoadKit
namespace Jvm.Pilot.@@N@@
open Jvm Jvm.ClassFile Sem Op Lib Jvm.Free Jvm.Stand Jvm.LawKit Jvm.RoadKit Bundle Jvm.Pilot.@@N@@.Jvm.D
abbrev OwnG (tb : Tables) (e : Env) (below : List Frame) (R : State → Outcome → Prop) (cur : State) : Prop := ∃ s₂ o, Steps tb e below cur s₂ ∧ R s₂ o
theorem own_go {tb : Tables} {e : Env} {below : List Frame} {R : State → Outcome → Prop} {cur nxt : State} (h : ∀ t, Steps tb e below nxt t → Steps tb e below cur t) (k : OwnG tb e below R nxt) : OwnG tb e below R cur := by
  obtain ⟨s₂, o, h1, h2⟩ := k
  exact ⟨s₂, o, h _ h1, h2⟩
theorem own_pick {α : Type} (c : Prop) (a b : α) : ∃ z : α, (c → z = a) ∧ (¬ c → z = b) := by
  by_cases h : c
  · exact ⟨a, fun _ => rfl, fun q => absurd h q⟩
  · exact ⟨b, fun q => absurd q h, fun _ => rfl⟩
theorem own_ne_or {a d x n : Nat} (h : x = d ∨ n ≤ x) (h1 : a ≠ d) (h2 : a < n) : a ≠ x := by
  rcases h with h | h <;> omega
theorem own_ge_or {d x n k : Nat} (h : x = d ∨ n ≤ x) (h1 : k ≤ d) (h2 : k ≤ n) : k ≤ x := by
  rcases h with h | h <;> omega
theorem own_in_or {d x n k : Nat} {ws : List Nat} (h : x = d ∨ n ≤ x) (h1 : d ∈ ws) (h2 : k ≤ n) : x ∈ ws ∨ k ≤ x := by
  rcases h with rfl | h
  · exact Or.inl h1
  · exact Or.inr (Nat.le_trans h2 h)
theorem own_iw_or {d x n k : Nat} {ws : List Nat} (h : x = d ∨ n ≤ x) (h1 : d ∈ ws ∨ k ≤ d) (h2 : k ≤ n) : x ∈ ws ∨ k ≤ x := by
  rcases h with rfl | h
  · exact h1
  · exact Or.inr (Nat.le_trans h2 h)
section OwnStat
variable {args : Array Value} {s : State} {t u w : Term} {a b : Addr} {cl : Cell} {ty : FieldType}
theorem own_eqI {v : Int32} (h : (Cond.eq t (.int v)).value args s none s [] = some true) : t.eval args s none [] s = some (.int v) := by
  cases hx : t.eval args s none [] s with
  | none => simp [Cond.value, Term.eval, hx] at h
  | some y => cases y <;> simp [Cond.value, Term.eval, hx] at h; rw [h]
theorem own_eqJ {v : Int64} (h : (Cond.eq t (.long v)).value args s none s [] = some true) : t.eval args s none [] s = some (.long v) := by
  cases hx : t.eval args s none [] s with
  | none => simp [Cond.value, Term.eval, hx] at h
  | some y => cases y <;> simp [Cond.value, Term.eval, hx] at h; rw [h]
theorem own_eqR (h : (Cond.eq t u).value args s none s [] = some true) (hu : u.eval args s none [] s = some (.ref b)) : t.eval args s none [] s = some (.ref b) := by
  cases hx : t.eval args s none [] s with
  | none => simp [Cond.value, hu, hx] at h
  | some y => cases y <;> simp [Cond.value, hu, hx] at h; rw [h]
theorem own_neI {i v : Int32} (h : (Cond.not (.eq t (.int v))).value args s none s [] = some true) (ev : t.eval args s none [] s = some (.int i)) : i ≠ v := by
  intro e
  subst e
  simp [Cond.value, ev, Term.eval] at h
theorem own_len {n : Int32} (ev : t.eval args s none [] s = some (.ref a)) (A : Arr s s.heap a cl ty) (h : (Cond.eq (.length t) (.int n)).value args s none s [] = some true) : cl.slots.size < 2 ^ 31 ∧ cl.slots.size.toInt32 = n := by
  have e := own_eqI h
  have hA : s.arrayAt? a = some cl := A.fin (Vm.Alike.refl _)
  by_cases q : cl.slots.size < 2 ^ 31
  · rw [len_f ev hA q] at e
    exact ⟨q, by cases e; rfl⟩
  · simp [Term.eval, ev, hA, q] at e
theorem own_elem {j : Int32} {v : Value} (hj : ¬ j < 0) (ev : t.eval args s none [] s = some (.ref a)) (A : Arr s s.heap a cl ty) (h : (Term.elem t (.int j)).eval args s none [] s = some v) : cl.slots[j.toNatClampNeg]? = some v := by
  rw [elem_f (a := .int j) ev rfl (A.fin (Vm.Alike.refl _)) hj] at h; exact h
theorem own_fld {C n d : String} {v : Value} (ev : t.eval args s none [] s = some (.ref a)) (h : (Term.field t C n d).eval args s none [] s = some v) : Fld s s.heap a C n d v :=
  Fld.start (by rw [← fld_at ev]; exact h)
end OwnStat

def own_val (c : Int32) (a b d : Addr) : Value := if c = (63 : Int32) then .ref a else if c = (42 : Int32) then .ref b else if c = (43 : Int32) then .ref d else .null
theorem own_val_or (c : Int32) (a b d : Addr) : (own_val c a b d = .ref a ∧ c = (63 : Int32)) ∨ (own_val c a b d = .ref b ∧ c = (42 : Int32)) ∨ (own_val c a b d = .ref d ∧ c = (43 : Int32)) ∨ (own_val c a b d = .null ∧ True) := by
  unfold own_val
  by_cases h0 : c = (63 : Int32)
  · left; exact ⟨by subst h0; rfl, h0⟩
  by_cases h1 : c = (42 : Int32)
  · right; left; exact ⟨by subst h1; rfl, h1⟩
  by_cases h2 : c = (43 : Int32)
  · right; right; left; exact ⟨by subst h2; rfl, h2⟩
  right; right; right; exact ⟨by simp only [h0, h1, h2, if_false], trivial⟩
theorem own_m15 (x : Int32) : ¬ (x &&& 15) < 0 ∧ (x &&& 15) < 16 := by
  have h := c_mask x 15 4 (by decide) rfl
  rw [Int32.lt_iff_toInt_lt, Int32.lt_iff_toInt_lt, h]
  have : (0 : Int32).toInt = 0 := rfl
  have : (16 : Int32).toInt = 16 := rfl
  omega
def own_ints : List Value → Prop
  | [] => True
  | v :: r => (∃ i : Int32, v = .int i) ∧ own_ints r
theorem own_getD : ∀ (vs : List Value), own_ints vs → ∀ j, ∃ d : Int32, vs.getD j (.int (0 : Int32)) = .int d
  | [], _, _ => ⟨0, rfl⟩
  | _ :: _, h, 0 => h.1
  | _ :: r, h, j + 1 => by obtain ⟨d, e⟩ := own_getD r h.2 j; exact ⟨d, by simpa using e⟩
theorem own_ef0 (m : MethodId) (a1 : Addr) : entryFrame m #[(.ref a1)] 1 = mkF m 0 #[.val (.ref a1)] [] := by first | (simp [entryFrame, mkF, argsToLocals, Value.category]; done) | rfl
theorem own_pn1 : plainName "java/lang/String" = true := by first | (simp [plainName, overriddenIn]; done) | decide +kernel
theorem own_d2 : decode jdk_42_method_152_code 0 = .ok (.getstatic 38, 3) := by decide +kernel
theorem own_d3 : decode jdk_42_method_152_code 3 = .ok (.ifCond .eq 10, 3) := by decide +kernel
theorem own_d4 : decode jdk_42_method_152_code 6 = .ok (.aload_n 0, 1) := by decide +kernel
theorem own_d5 : decode jdk_42_method_152_code 7 = .ok (.getfield 15, 3) := by decide +kernel
theorem own_d6 : decode jdk_42_method_152_code 10 = .ok (.goto 4, 3) := by decide +kernel
theorem own_d7 : decode jdk_42_method_152_code 14 = .ok (.ireturn, 1) := by decide +kernel
def Q_own_coder (Z : State) (a1 : Addr) (i_COMPACT_STRINGS : Int32) (h0 : Heap) (n0 : Nat) (v : Option Value) (h : Heap) (L : List Loc) : Prop := v = some (.int (0 : Int32)) ∧ Fr n0 L ∧ h = h0
set_option maxRecDepth 65536 in
set_option maxHeartbeats 40000000 in
theorem own_coder (l : Launch) (Z : State) (a0 : Array Value) (hw : ∀ d ∈ tables_1, d.before a0 Z = true) (ws : List Jvm.Cond) (a1 : Addr) (i_COMPACT_STRINGS : Int32) (h0 : Heap) (n0 : Nat) (Z0 : n0 ≤ h0.size) (O0 : Old Z n0 h0) (S_COMPACT_STRINGS : Sta Z Z.heap "java/lang/String" "COMPACT_STRINGS" "Z" (.int i_COMPACT_STRINGS)) (nz_i_COMPACT_STRINGS : i_COMPACT_STRINGS ≠ (0 : Int32)) (f0_0 : Fld Z h0 a1 "java/lang/String" "coder" "B" (.int (0 : Int32))) :
    MetFree l (⟨"java/lang/String", "coder", "()B"⟩ : MethodName) (head1 (Jvm.Cond.code (⟨"java/lang/String", "coder", "()B"⟩ : MethodName) jdk_42_method_152_code 1 (some .byte) :: ws) ({ frames := 0, cells := 0, slots := 0, locals := 0 } : Room)) (fun a U => a = #[(.ref a1)] ∧ Z.Warmed39 U.vm ∧ U.heap = h0) (fun _ _ _ _ _ => True) (fun _ U o U' => ∃ v L, o = .returned v ∧ Q_own_coder Z a1 i_COMPACT_STRINGS h0 n0 v U'.heap L ∧ FrameEnd U o U' L ({ frames := 0, cells := 0, slots := 0, locals := 0 } : Room).cells ({ frames := 0, cells := 0, slots := 0, locals := 0 } : Room).slots) := by
  refine MetFree.of_bodySF (plainFor_of_name own_pn1) hisR ?_
  intro p e s m args below meth c s₁ Bd hml0 hP hK
  obtain ⟨rfl, hZ, hh⟩ := hP
  have hx := Bd.exec
  have hby := Bd.bytes
  have hml : c.maxLocals = 1 := hml0
  have hown : s.vm.findClass "java/lang/String" = some m.cls := findClass_of_methodNamed Bd.named
  have hnm := (name_of_methodNamed Bd.named Bd.method).1
  have X0 : Stand p l e ({ frames := 0, cells := 0, slots := 0, locals := 0 } : Room) s m #[(.ref a1)] below meth c s₁ [] 0 0 := Stand.of_body Bd
  have e0 : s₁.heap = h0 := by rw [← hh, Bd.state]; rfl
  have N0 := Fr.nil n0
  have K0 := Keep.refl h0 []
  refine own_go (fun t k => castTop (own_ef0 m a1) k) ?_
  show OwnG p.tables e below _ (s₁.setTop (mkF m 0 #[.val (.ref a1)] []))
  obtain ⟨T1, X1, e1, st1⟩ := getS2 X0 hx hZ hown (host := "") (Or.inl (hw _ (List.mem_of_getElem? (i := 44) rfl))) Via.refl e0 (S_COMPACT_STRINGS.ext O0.2) (g := (mkF m 0 #[.val (.ref a1)] [])) rfl (hb hby own_d2)
  refine own_go (fun t k => st1 t k) ?_
  show OwnG p.tables e below _ (T1.setTop (mkF m 3 #[.val (.ref a1)] [(.int i_COMPACT_STRINGS)]))
  refine own_go (fun t k => XS.ifNo X1.here hx rfl (hb hby own_d3) rfl ((if0 _ _).trans (feq nz_i_COMPACT_STRINGS).1) k) ?_
  show OwnG p.tables e below _ (T1.setTop (mkF m 6 #[.val (.ref a1)] []))
  refine own_go (fun t k => XS.aloadN X1.here hx rfl (hb hby own_d4) rfl rfl k) ?_
  show OwnG p.tables e below _ (T1.setTop (mkF m 7 #[.val (.ref a1)] [(.ref a1)]))
  obtain ⟨T2, X2, e2, st2⟩ := getF X1 hx hZ hown (host := "") (Or.inl (hw _ (List.mem_of_getElem? (i := 45) rfl))) Via.refl e1 f0_0 (g := (mkF m 7 #[.val (.ref a1)] [(.ref a1)])) rfl rfl (hb hby own_d5)
  refine own_go (fun t k => st2 t k) ?_
  show OwnG p.tables e below _ (T2.setTop (mkF m 10 #[.val (.ref a1)] [(.int (0 : Int32))]))
  refine own_go (fun t k => XS.goto X2.here hx rfl (pc0 := 10) (pc' := 14) rfl (hb hby own_d6) (by decide) (by decide) k) ?_
  show OwnG p.tables e below _ (T2.setTop (mkF m 14 #[.val (.ref a1)] [(.int (0 : Int32))]))
  obtain ⟨fs, hr, hrun, hended, hW, hsame⟩ := X2.leave (v := some (.int (0 : Int32))) (fun h => by rw [Bd.returns] at h; cases h)
  refine ⟨_, _, retN X2 hx (t := .byte) Bd.returns (by simp) (hb hby own_d7) hr, hrun, hended, _, _, rfl, ?_, ⟨_, rfl⟩, hW, hsame.mono (by decide) (by decide)⟩
  show Q_own_coder Z a1 i_COMPACT_STRINGS h0 n0 _ T2.heap _
  rw [e2]
  exact ⟨rfl, N0, rfl⟩
theorem own_ef8 (m : MethodId) (a1 : Addr) : entryFrame m #[(.ref a1)] 1 = mkF m 0 #[.val (.ref a1)] [] := by first | (simp [entryFrame, mkF, argsToLocals, Value.category]; done) | rfl
theorem own_d9 : decode jdk_42_method_154_code 0 = .ok (.getstatic 38, 3) := by decide +kernel
theorem own_d10 : decode jdk_42_method_154_code 3 = .ok (.ifCond .eq 14, 3) := by decide +kernel
theorem own_d11 : decode jdk_42_method_154_code 6 = .ok (.aload_n 0, 1) := by decide +kernel
theorem own_d12 : decode jdk_42_method_154_code 7 = .ok (.getfield 15, 3) := by decide +kernel
theorem own_d13 : decode jdk_42_method_154_code 10 = .ok (.ifCond .ne 7, 3) := by decide +kernel
theorem own_d14 : decode jdk_42_method_154_code 13 = .ok (.iconst 1, 1) := by decide +kernel
theorem own_d15 : decode jdk_42_method_154_code 14 = .ok (.goto 4, 3) := by decide +kernel
theorem own_d16 : decode jdk_42_method_154_code 18 = .ok (.ireturn, 1) := by decide +kernel
def Q_own_latin (Z : State) (a1 : Addr) (i_COMPACT_STRINGS : Int32) (h0 : Heap) (n0 : Nat) (v : Option Value) (h : Heap) (L : List Loc) : Prop := v = some (.int (1 : Int32)) ∧ Fr n0 L ∧ h = h0
set_option maxRecDepth 65536 in
set_option maxHeartbeats 40000000 in
theorem own_latin (l : Launch) (Z : State) (a0 : Array Value) (hw : ∀ d ∈ tables_1, d.before a0 Z = true) (ws : List Jvm.Cond) (a1 : Addr) (i_COMPACT_STRINGS : Int32) (h0 : Heap) (n0 : Nat) (Z0 : n0 ≤ h0.size) (O0 : Old Z n0 h0) (S_COMPACT_STRINGS : Sta Z Z.heap "java/lang/String" "COMPACT_STRINGS" "Z" (.int i_COMPACT_STRINGS)) (nz_i_COMPACT_STRINGS : i_COMPACT_STRINGS ≠ (0 : Int32)) (f0_0 : Fld Z h0 a1 "java/lang/String" "coder" "B" (.int (0 : Int32))) :
    MetFree l (⟨"java/lang/String", "isLatin1", "()Z"⟩ : MethodName) (head1 (Jvm.Cond.code (⟨"java/lang/String", "isLatin1", "()Z"⟩ : MethodName) jdk_42_method_154_code 1 (some .boolean) :: ws) ({ frames := 0, cells := 0, slots := 0, locals := 0 } : Room)) (fun a U => a = #[(.ref a1)] ∧ Z.Warmed39 U.vm ∧ U.heap = h0) (fun _ _ _ _ _ => True) (fun _ U o U' => ∃ v L, o = .returned v ∧ Q_own_latin Z a1 i_COMPACT_STRINGS h0 n0 v U'.heap L ∧ FrameEnd U o U' L ({ frames := 0, cells := 0, slots := 0, locals := 0 } : Room).cells ({ frames := 0, cells := 0, slots := 0, locals := 0 } : Room).slots) := by
  refine MetFree.of_bodySF (plainFor_of_name own_pn1) hisR ?_
  intro p e s m args below meth c s₁ Bd hml0 hP hK
  obtain ⟨rfl, hZ, hh⟩ := hP
  have hx := Bd.exec
  have hby := Bd.bytes
  have hml : c.maxLocals = 1 := hml0
  have hown : s.vm.findClass "java/lang/String" = some m.cls := findClass_of_methodNamed Bd.named
  have hnm := (name_of_methodNamed Bd.named Bd.method).1
  have X0 : Stand p l e ({ frames := 0, cells := 0, slots := 0, locals := 0 } : Room) s m #[(.ref a1)] below meth c s₁ [] 0 0 := Stand.of_body Bd
  have e0 : s₁.heap = h0 := by rw [← hh, Bd.state]; rfl
  have N0 := Fr.nil n0
  have K0 := Keep.refl h0 []
  refine own_go (fun t k => castTop (own_ef8 m a1) k) ?_
  show OwnG p.tables e below _ (s₁.setTop (mkF m 0 #[.val (.ref a1)] []))
  obtain ⟨T1, X1, e1, st1⟩ := getS2 X0 hx hZ hown (host := "") (Or.inl (hw _ (List.mem_of_getElem? (i := 44) rfl))) Via.refl e0 (S_COMPACT_STRINGS.ext O0.2) (g := (mkF m 0 #[.val (.ref a1)] [])) rfl (hb hby own_d9)
  refine own_go (fun t k => st1 t k) ?_
  show OwnG p.tables e below _ (T1.setTop (mkF m 3 #[.val (.ref a1)] [(.int i_COMPACT_STRINGS)]))
  refine own_go (fun t k => XS.ifNo X1.here hx rfl (hb hby own_d10) rfl ((if0 _ _).trans (feq nz_i_COMPACT_STRINGS).1) k) ?_
  show OwnG p.tables e below _ (T1.setTop (mkF m 6 #[.val (.ref a1)] []))
  refine own_go (fun t k => XS.aloadN X1.here hx rfl (hb hby own_d11) rfl rfl k) ?_
  show OwnG p.tables e below _ (T1.setTop (mkF m 7 #[.val (.ref a1)] [(.ref a1)]))
  obtain ⟨T2, X2, e2, st2⟩ := getF X1 hx hZ hown (host := "") (Or.inl (hw _ (List.mem_of_getElem? (i := 45) rfl))) Via.refl e1 f0_0 (g := (mkF m 7 #[.val (.ref a1)] [(.ref a1)])) rfl rfl (hb hby own_d12)
  refine own_go (fun t k => st2 t k) ?_
  show OwnG p.tables e below _ (T2.setTop (mkF m 10 #[.val (.ref a1)] [(.int (0 : Int32))]))
  refine own_go (fun t k => XS.ifNo X2.here hx rfl (hb hby own_d13) rfl ((if0 _ _).trans (teq (by decide : (0 : Int32) = (0 : Int32))).2) k) ?_
  show OwnG p.tables e below _ (T2.setTop (mkF m 13 #[.val (.ref a1)] []))
  refine own_go (fun t k => XS.iconst X2.here hx rfl (hb hby own_d14) k) ?_
  show OwnG p.tables e below _ (T2.setTop (mkF m 14 #[.val (.ref a1)] [(.int (1 : Int32))]))
  refine own_go (fun t k => XS.goto X2.here hx rfl (pc0 := 14) (pc' := 18) rfl (hb hby own_d15) (by decide) (by decide) k) ?_
  show OwnG p.tables e below _ (T2.setTop (mkF m 18 #[.val (.ref a1)] [(.int (1 : Int32))]))
  obtain ⟨fs, hr, hrun, hended, hW, hsame⟩ := X2.leave (v := some (.int (1 : Int32))) (fun h => by rw [Bd.returns] at h; cases h)
  refine ⟨_, _, retN X2 hx (t := .boolean) Bd.returns (by simp) (hb hby own_d16) hr, hrun, hended, _, _, rfl, ?_, ⟨_, rfl⟩, hW, hsame.mono (by decide) (by decide)⟩
  show Q_own_latin Z a1 i_COMPACT_STRINGS h0 n0 _ T2.heap _
  rw [e2]
  exact ⟨rfl, N0, rfl⟩
theorem own_ef17 (m : MethodId) (a1 : Addr) : entryFrame m #[(.ref a1)] 1 = mkF m 0 #[.val (.ref a1)] [] := by first | (simp [entryFrame, mkF, argsToLocals, Value.category]; done) | rfl
theorem own_d18 : decode jdk_42_method_54_code 0 = .ok (.aload_n 0, 1) := by decide +kernel
theorem own_d19 : decode jdk_42_method_54_code 1 = .ok (.getfield 9, 3) := by decide +kernel
theorem own_d20 : decode jdk_42_method_54_code 4 = .ok (.arraylength, 1) := by decide +kernel
theorem own_d21 : decode jdk_42_method_54_code 5 = .ok (.aload_n 0, 1) := by decide +kernel
theorem own_d22 : decode jdk_42_method_54_code 6 = .ok (.invokevirtual 335, 3) := by decide +kernel
theorem own_pd23 : parseMethodDescriptor "()B" = some ⟨[], some .byte⟩ := by decide +kernel
theorem own_d24 : decode jdk_42_method_54_code 9 = .ok (.ishr, 1) := by decide +kernel
theorem own_d25 : decode jdk_42_method_54_code 10 = .ok (.ireturn, 1) := by decide +kernel
def Q_own_length (Z : State) (a1 : Addr) (a2 : Addr) (ka : ClassId) (ch : Int32) (i_COMPACT_STRINGS : Int32) (h0 : Heap) (n0 : Nat) (v : Option Value) (h : Heap) (L : List Loc) : Prop := v = some (.int (1 : Int32)) ∧ Fr n0 L ∧ h = h0
set_option maxRecDepth 65536 in
set_option maxHeartbeats 40000000 in
theorem own_length (l : Launch) (Z : State) (a0 : Array Value) (hw : ∀ d ∈ tables_1, d.before a0 Z = true) (ws : List Jvm.Cond) (a1 : Addr) (a2 : Addr) (ka : ClassId) (ch : Int32) (i_COMPACT_STRINGS : Int32) (h0 : Heap) (n0 : Nat) (Z0 : n0 ≤ h0.size) (O0 : Old Z n0 h0) (S_COMPACT_STRINGS : Sta Z Z.heap "java/lang/String" "COMPACT_STRINGS" "Z" (.int i_COMPACT_STRINGS)) (nz_i_COMPACT_STRINGS : i_COMPACT_STRINGS ≠ (0 : Int32)) (f0_0 : Exa Z h0 a1 "java/lang/String") (f0_1 : Fld Z h0 a1 "java/lang/String" "value" "[B" (.ref a2)) (f0_2 : Fld Z h0 a1 "java/lang/String" "coder" "B" (.int (0 : Int32))) (f0_3 : Arv Z h0 a2 ka .byte (1 : Int32) [(.int ch)] (.int (0 : Int32))) :
    MetFree l (⟨"java/lang/String", "length", "()I"⟩ : MethodName) (head1 (Jvm.Cond.code (⟨"java/lang/String", "length", "()I"⟩ : MethodName) jdk_42_method_54_code 1 (some .int) :: ws) ({ frames := 1, cells := 0, slots := 0, locals := 13 } : Room)) (fun a U => a = #[(.ref a1)] ∧ Z.Warmed39 U.vm ∧ U.heap = h0) (fun _ _ _ _ _ => True) (fun _ U o U' => ∃ v L, o = .returned v ∧ Q_own_length Z a1 a2 ka ch i_COMPACT_STRINGS h0 n0 v U'.heap L ∧ FrameEnd U o U' L ({ frames := 1, cells := 0, slots := 0, locals := 13 } : Room).cells ({ frames := 1, cells := 0, slots := 0, locals := 13 } : Room).slots) := by
  refine MetFree.of_bodySF (plainFor_of_name own_pn1) hisR ?_
  intro p e s m args below meth c s₁ Bd hml0 hP hK
  obtain ⟨rfl, hZ, hh⟩ := hP
  have hx := Bd.exec
  have hby := Bd.bytes
  have hml : c.maxLocals = 1 := hml0
  have hown : s.vm.findClass "java/lang/String" = some m.cls := findClass_of_methodNamed Bd.named
  have hnm := (name_of_methodNamed Bd.named Bd.method).1
  have X0 : Stand p l e ({ frames := 1, cells := 0, slots := 0, locals := 13 } : Room) s m #[(.ref a1)] below meth c s₁ [] 0 0 := Stand.of_body Bd
  have e0 : s₁.heap = h0 := by rw [← hh, Bd.state]; rfl
  have N0 := Fr.nil n0
  have K0 := Keep.refl h0 []
  refine own_go (fun t k => castTop (own_ef17 m a1) k) ?_
  show OwnG p.tables e below _ (s₁.setTop (mkF m 0 #[.val (.ref a1)] []))
  refine own_go (fun t k => XS.aloadN X0.here hx rfl (hb hby own_d18) rfl rfl k) ?_
  show OwnG p.tables e below _ (s₁.setTop (mkF m 1 #[.val (.ref a1)] [(.ref a1)]))
  obtain ⟨T1, X1, e1, st1⟩ := getF X0 hx hZ hown (host := "") (Or.inl (hw _ (List.mem_of_getElem? (i := 37) rfl))) Via.refl e0 f0_1 (g := (mkF m 1 #[.val (.ref a1)] [(.ref a1)])) rfl rfl (hb hby own_d19)
  refine own_go (fun t k => st1 t k) ?_
  show OwnG p.tables e below _ (T1.setTop (mkF m 4 #[.val (.ref a1)] [(.ref a2)]))
  have vv2 := f0_3
  obtain ⟨cl2, Ar2, qk2, Sz2, Nn2, Hs2, Gs2⟩ := vv2
  have st2 : ∀ t, Steps p.tables e below (T1.setTop (mkF m 5 #[.val (.ref a1)] [(.int (1 : Int32))])) t → Steps p.tables e below (T1.setTop (mkF m 4 #[.val (.ref a1)] [(.ref a2)])) t := fun t k => by
    refine X1.arraylength hx (by rw [e1]; exact Ar2.1) (State.isArrayOf_alike hZ.alike Ar2.2.1) (g := (mkF m 4 #[.val (.ref a1)] [(.ref a2)])) rfl rfl (hb hby own_d20) _ ?_
    rw [len_of Sz2 Nn2]
    exact k
  refine own_go (fun t k => st2 t k) ?_
  show OwnG p.tables e below _ (T1.setTop (mkF m 5 #[.val (.ref a1)] [(.int (1 : Int32))]))
  refine own_go (fun t k => XS.aloadN X1.here hx rfl (hb hby own_d21) rfl rfl k) ?_
  show OwnG p.tables e below _ (T1.setTop (mkF m 6 #[.val (.ref a1)] [(.ref a1), (.int (1 : Int32))]))
  obtain ⟨cq3, kq3, q3a, q3b, q3c⟩ := isOf hZ e1 f0_0
  obtain ⟨_, _, ⟨T3, L3, k3, n3⟩, -, X3, ⟨Lc3, hQ3, l3, y3, z3⟩, st3⟩ := X1.virtualBack hx (y := (⟨"java/lang/String", "coder", "()B"⟩ : MethodName)) (z := (⟨"java/lang/String", "coder", "()B"⟩ : MethodName)) hown (mvT hZ (hw _ (List.mem_of_getElem? (i := 39) rfl))) (mvT hZ (hw _ (List.mem_of_getElem? (i := 40) rfl))) (notFace_of_selects (args := #[]) (mvT hZ (hw _ (List.mem_of_getElem? (i := 42) rfl)))) (mvT hZ (hw _ (List.mem_of_getElem? (i := 42) rfl))) (mvT hZ (hw _ (List.mem_of_getElem? (i := 41) rfl))) (by decide) (backOf (W := 1) (own_coder l Z a0 hw [] a1 i_COMPACT_STRINGS h0 n0 Z0 O0 S_COMPACT_STRINGS nz_i_COMPACT_STRINGS f0_2) hZ (hw _ (List.mem_of_getElem? (i := 43) rfl)) (hw _ (List.mem_of_getElem? (i := 35) rfl)) (by decide) (by decide)) q3a q3c (g := (mkF m 6 #[.val (.ref a1)] [(.ref a1), (.int (1 : Int32))])) rfl (by rw [hml]; rfl) (Steps.refl _) (argsL := []) (rest := [(.int (1 : Int32))]) (lenOf own_pd23 rfl) rfl (by show 2 * 0 + _ ≤ _; exact Nat.le_of_eq rfl) (hb hby own_d22) (fun _ _ => ⟨rfl, e1, (by decide : 0 + 0 ≤ _), (by decide : 0 + 0 ≤ _)⟩)
  dsimp only [Pt.U, Pt.locs, Pt.cells, Pt.slots] at X3 l3 y3 z3 st3 hQ3
  subst l3 y3 z3
  obtain ⟨rfl, Nq3, eq3⟩ := hQ3
  have N3 := Fr.app N0 Nq3
  have e3 : T3.heap = h0 := eq3
  refine own_go (fun t k => st3.trans k) ?_
  show OwnG p.tables e below _ (T3.setTop (mkF m 9 #[.val (.ref a1)] [(.int (0 : Int32)), (.int (1 : Int32))]))
  refine own_go (fun t k => XS.ishr X3.here hx rfl (hb hby own_d24) rfl k) ?_
  show OwnG p.tables e below _ (T3.setTop (mkF m 10 #[.val (.ref a1)] [(.int ((1 : Int32) >>> ((0 : Int32) &&& 31)))]))
  obtain ⟨fs, hr, hrun, hended, hW, hsame⟩ := X3.leave (v := some (.int ((1 : Int32) >>> ((0 : Int32) &&& 31)))) (fun h => by rw [Bd.returns] at h; cases h)
  refine ⟨_, _, retI X3 hx Bd.returns (hb hby own_d25) hr, hrun, hended, _, _, rfl, ?_, ⟨_, rfl⟩, hW, hsame.mono (by decide) (by decide)⟩
  show Q_own_length Z a1 a2 ka ch i_COMPACT_STRINGS h0 n0 _ T3.heap _
  rw [e3]
  exact ⟨rfl, N3, rfl⟩
theorem own_ef26 (m : MethodId)  : entryFrame m #[(.int (0 : Int32)), (.int (1 : Int32)), .null] 3 = mkF m 0 #[.val (.int (0 : Int32)), .val (.int (1 : Int32)), .val .null] [] := by first | (simp [entryFrame, mkF, argsToLocals, Value.category]; done) | rfl
theorem own_pn27 : plainName "jdk/internal/util/Preconditions" = true := by first | (simp [plainName, overriddenIn]; done) | decide +kernel
theorem own_d28 : decode jdk_41_method_11_code 0 = .ok (.iload_n 0, 1) := by decide +kernel
theorem own_d29 : decode jdk_41_method_11_code 1 = .ok (.ifCond .lt 8, 3) := by decide +kernel
theorem own_d30 : decode jdk_41_method_11_code 4 = .ok (.iload_n 0, 1) := by decide +kernel
theorem own_d31 : decode jdk_41_method_11_code 5 = .ok (.iload_n 1, 1) := by decide +kernel
theorem own_d32 : decode jdk_41_method_11_code 6 = .ok (.if_icmp .lt 10, 3) := by decide +kernel
theorem own_d33 : decode jdk_41_method_11_code 16 = .ok (.iload_n 0, 1) := by decide +kernel
theorem own_d34 : decode jdk_41_method_11_code 17 = .ok (.ireturn, 1) := by decide +kernel
def Q_own_pc0 (Z : State)  (h0 : Heap) (n0 : Nat) (v : Option Value) (h : Heap) (L : List Loc) : Prop := v = some (.int (0 : Int32)) ∧ Fr n0 L ∧ h = h0
set_option maxRecDepth 65536 in
set_option maxHeartbeats 40000000 in
theorem own_pc0 (l : Launch) (Z : State) (a0 : Array Value) (hw : ∀ d ∈ tables_1, d.before a0 Z = true) (ws : List Jvm.Cond)  (h0 : Heap) (n0 : Nat) (Z0 : n0 ≤ h0.size) :
    MetFree l (⟨"jdk/internal/util/Preconditions", "checkIndex", "(IILjava/util/function/BiFunction;)I"⟩ : MethodName) (head1 (Jvm.Cond.code (⟨"jdk/internal/util/Preconditions", "checkIndex", "(IILjava/util/function/BiFunction;)I"⟩ : MethodName) jdk_41_method_11_code 3 (some .int) :: ws) ({ frames := 0, cells := 0, slots := 0, locals := 0 } : Room)) (fun a U => a = #[(.int (0 : Int32)), (.int (1 : Int32)), .null] ∧ Z.Warmed39 U.vm ∧ U.heap = h0) (fun _ _ _ _ _ => True) (fun _ U o U' => ∃ v L, o = .returned v ∧ Q_own_pc0 Z  h0 n0 v U'.heap L ∧ FrameEnd U o U' L ({ frames := 0, cells := 0, slots := 0, locals := 0 } : Room).cells ({ frames := 0, cells := 0, slots := 0, locals := 0 } : Room).slots) := by
  refine MetFree.of_bodySF (plainFor_of_name own_pn27) hisR ?_
  intro p e s m args below meth c s₁ Bd hml0 hP hK
  obtain ⟨rfl, hZ, hh⟩ := hP
  have hx := Bd.exec
  have hby := Bd.bytes
  have hml : c.maxLocals = 3 := hml0
  have hown : s.vm.findClass "jdk/internal/util/Preconditions" = some m.cls := findClass_of_methodNamed Bd.named
  have hnm := (name_of_methodNamed Bd.named Bd.method).1
  have X0 : Stand p l e ({ frames := 0, cells := 0, slots := 0, locals := 0 } : Room) s m #[(.int (0 : Int32)), (.int (1 : Int32)), .null] below meth c s₁ [] 0 0 := Stand.of_body Bd
  have e0 : s₁.heap = h0 := by rw [← hh, Bd.state]; rfl
  have N0 := Fr.nil n0
  have K0 := Keep.refl h0 []
  refine own_go (fun t k => castTop (own_ef26 m ) k) ?_
  show OwnG p.tables e below _ (s₁.setTop (mkF m 0 #[.val (.int (0 : Int32)), .val (.int (1 : Int32)), .val .null] []))
  refine own_go (fun t k => XS.iloadN X0.here hx rfl (hb hby own_d28) rfl  k) ?_
  show OwnG p.tables e below _ (s₁.setTop (mkF m 1 #[.val (.int (0 : Int32)), .val (.int (1 : Int32)), .val .null] [(.int (0 : Int32))]))
  refine own_go (fun t k => XS.ifNo X0.here hx rfl (hb hby own_d29) rfl ((if0 _ _).trans (flt (by decide : ¬ ((0 : Int32) < (0 : Int32)))).1) k) ?_
  show OwnG p.tables e below _ (s₁.setTop (mkF m 4 #[.val (.int (0 : Int32)), .val (.int (1 : Int32)), .val .null] []))
  refine own_go (fun t k => XS.iloadN X0.here hx rfl (hb hby own_d30) rfl  k) ?_
  show OwnG p.tables e below _ (s₁.setTop (mkF m 5 #[.val (.int (0 : Int32)), .val (.int (1 : Int32)), .val .null] [(.int (0 : Int32))]))
  refine own_go (fun t k => XS.iloadN X0.here hx rfl (hb hby own_d31) rfl  k) ?_
  show OwnG p.tables e below _ (s₁.setTop (mkF m 6 #[.val (.int (0 : Int32)), .val (.int (1 : Int32)), .val .null] [(.int (1 : Int32)), (.int (0 : Int32))]))
  refine own_go (fun t k => XS.icmpYes X0.here hx rfl (pc0 := 6) (pc' := 16) rfl (hb hby own_d32) rfl (tlt (by decide : (0 : Int32) < (1 : Int32))).1 (by decide) (by decide) k) ?_
  show OwnG p.tables e below _ (s₁.setTop (mkF m 16 #[.val (.int (0 : Int32)), .val (.int (1 : Int32)), .val .null] []))
  refine own_go (fun t k => XS.iloadN X0.here hx rfl (hb hby own_d33) rfl  k) ?_
  show OwnG p.tables e below _ (s₁.setTop (mkF m 17 #[.val (.int (0 : Int32)), .val (.int (1 : Int32)), .val .null] [(.int (0 : Int32))]))
  obtain ⟨fs, hr, hrun, hended, hW, hsame⟩ := X0.leave (v := some (.int (0 : Int32))) (fun h => by rw [Bd.returns] at h; cases h)
  refine ⟨_, _, retI X0 hx Bd.returns (hb hby own_d34) hr, hrun, hended, _, _, rfl, ?_, ⟨_, rfl⟩, hW, hsame.mono (by decide) (by decide)⟩
  show Q_own_pc0 Z  h0 n0 _ s₁.heap _
  rw [e0]
  exact ⟨rfl, N0, rfl⟩
theorem own_ef35 (m : MethodId) (a3 : Addr) : entryFrame m #[(.int (0 : Int32)), (.int (1 : Int32)), (.ref a3)] 3 = mkF m 0 #[.val (.int (0 : Int32)), .val (.int (1 : Int32)), .val (.ref a3)] [] := by first | (simp [entryFrame, mkF, argsToLocals, Value.category]; done) | rfl
def Q_own_pc1 (Z : State) (a3 : Addr) (h0 : Heap) (n0 : Nat) (v : Option Value) (h : Heap) (L : List Loc) : Prop := v = some (.int (0 : Int32)) ∧ Fr n0 L ∧ h = h0
set_option maxRecDepth 65536 in
set_option maxHeartbeats 40000000 in
theorem own_pc1 (l : Launch) (Z : State) (a0 : Array Value) (hw : ∀ d ∈ tables_1, d.before a0 Z = true) (ws : List Jvm.Cond) (a3 : Addr) (h0 : Heap) (n0 : Nat) (Z0 : n0 ≤ h0.size) :
    MetFree l (⟨"jdk/internal/util/Preconditions", "checkIndex", "(IILjava/util/function/BiFunction;)I"⟩ : MethodName) (head1 (Jvm.Cond.code (⟨"jdk/internal/util/Preconditions", "checkIndex", "(IILjava/util/function/BiFunction;)I"⟩ : MethodName) jdk_41_method_11_code 3 (some .int) :: ws) ({ frames := 0, cells := 0, slots := 0, locals := 0 } : Room)) (fun a U => a = #[(.int (0 : Int32)), (.int (1 : Int32)), (.ref a3)] ∧ Z.Warmed39 U.vm ∧ U.heap = h0) (fun _ _ _ _ _ => True) (fun _ U o U' => ∃ v L, o = .returned v ∧ Q_own_pc1 Z a3 h0 n0 v U'.heap L ∧ FrameEnd U o U' L ({ frames := 0, cells := 0, slots := 0, locals := 0 } : Room).cells ({ frames := 0, cells := 0, slots := 0, locals := 0 } : Room).slots) := by
  refine MetFree.of_bodySF (plainFor_of_name own_pn27) hisR ?_
  intro p e s m args below meth c s₁ Bd hml0 hP hK
  obtain ⟨rfl, hZ, hh⟩ := hP
  have hx := Bd.exec
  have hby := Bd.bytes
  have hml : c.maxLocals = 3 := hml0
  have hown : s.vm.findClass "jdk/internal/util/Preconditions" = some m.cls := findClass_of_methodNamed Bd.named
  have hnm := (name_of_methodNamed Bd.named Bd.method).1
  have X0 : Stand p l e ({ frames := 0, cells := 0, slots := 0, locals := 0 } : Room) s m #[(.int (0 : Int32)), (.int (1 : Int32)), (.ref a3)] below meth c s₁ [] 0 0 := Stand.of_body Bd
  have e0 : s₁.heap = h0 := by rw [← hh, Bd.state]; rfl
  have N0 := Fr.nil n0
  have K0 := Keep.refl h0 []
  refine own_go (fun t k => castTop (own_ef35 m a3) k) ?_
  show OwnG p.tables e below _ (s₁.setTop (mkF m 0 #[.val (.int (0 : Int32)), .val (.int (1 : Int32)), .val (.ref a3)] []))
  refine own_go (fun t k => XS.iloadN X0.here hx rfl (hb hby own_d28) rfl  k) ?_
  show OwnG p.tables e below _ (s₁.setTop (mkF m 1 #[.val (.int (0 : Int32)), .val (.int (1 : Int32)), .val (.ref a3)] [(.int (0 : Int32))]))
  refine own_go (fun t k => XS.ifNo X0.here hx rfl (hb hby own_d29) rfl ((if0 _ _).trans (flt (by decide : ¬ ((0 : Int32) < (0 : Int32)))).1) k) ?_
  show OwnG p.tables e below _ (s₁.setTop (mkF m 4 #[.val (.int (0 : Int32)), .val (.int (1 : Int32)), .val (.ref a3)] []))
  refine own_go (fun t k => XS.iloadN X0.here hx rfl (hb hby own_d30) rfl  k) ?_
  show OwnG p.tables e below _ (s₁.setTop (mkF m 5 #[.val (.int (0 : Int32)), .val (.int (1 : Int32)), .val (.ref a3)] [(.int (0 : Int32))]))
  refine own_go (fun t k => XS.iloadN X0.here hx rfl (hb hby own_d31) rfl  k) ?_
  show OwnG p.tables e below _ (s₁.setTop (mkF m 6 #[.val (.int (0 : Int32)), .val (.int (1 : Int32)), .val (.ref a3)] [(.int (1 : Int32)), (.int (0 : Int32))]))
  refine own_go (fun t k => XS.icmpYes X0.here hx rfl (pc0 := 6) (pc' := 16) rfl (hb hby own_d32) rfl (tlt (by decide : (0 : Int32) < (1 : Int32))).1 (by decide) (by decide) k) ?_
  show OwnG p.tables e below _ (s₁.setTop (mkF m 16 #[.val (.int (0 : Int32)), .val (.int (1 : Int32)), .val (.ref a3)] []))
  refine own_go (fun t k => XS.iloadN X0.here hx rfl (hb hby own_d33) rfl  k) ?_
  show OwnG p.tables e below _ (s₁.setTop (mkF m 17 #[.val (.int (0 : Int32)), .val (.int (1 : Int32)), .val (.ref a3)] [(.int (0 : Int32))]))
  obtain ⟨fs, hr, hrun, hended, hW, hsame⟩ := X0.leave (v := some (.int (0 : Int32))) (fun h => by rw [Bd.returns] at h; cases h)
  refine ⟨_, _, retI X0 hx Bd.returns (hb hby own_d34) hr, hrun, hended, _, _, rfl, ?_, ⟨_, rfl⟩, hW, hsame.mono (by decide) (by decide)⟩
  show Q_own_pc1 Z a3 h0 n0 _ s₁.heap _
  rw [e0]
  exact ⟨rfl, N0, rfl⟩
theorem own_ef36 (m : MethodId)  : entryFrame m #[(.int (0 : Int32)), (.int (1 : Int32))] 2 = mkF m 0 #[.val (.int (0 : Int32)), .val (.int (1 : Int32))] [] := by first | (simp [entryFrame, mkF, argsToLocals, Value.category]; done) | rfl
theorem own_d37 : decode jdk_42_method_155_code 0 = .ok (.iload_n 0, 1) := by decide +kernel
theorem own_d38 : decode jdk_42_method_155_code 1 = .ok (.iload_n 1, 1) := by decide +kernel
theorem own_d39 : decode jdk_42_method_155_code 2 = .ok (.getstatic 1053, 3) := by decide +kernel
theorem own_d40 : decode jdk_42_method_155_code 5 = .ok (.invokestatic 1059, 3) := by decide +kernel
theorem own_pd41 : parseMethodDescriptor "(IILjava/util/function/BiFunction;)I" = some ⟨[.int, .int, (.object "java/util/function/BiFunction")], some .int⟩ := by decide +kernel
theorem own_d42 : decode jdk_42_method_155_code 8 = .ok (.pop, 1) := by decide +kernel
theorem own_d43 : decode jdk_42_method_155_code 9 = .ok (.return_, 1) := by decide +kernel
def Q_own_ci (Z : State) (v_SIOOBE_FORMATTER : Value) (h0 : Heap) (n0 : Nat) (v : Option Value) (h : Heap) (L : List Loc) : Prop := v = none ∧ Fr n0 L ∧ h = h0
set_option maxRecDepth 65536 in
set_option maxHeartbeats 40000000 in
theorem own_ci (l : Launch) (Z : State) (a0 : Array Value) (hw : ∀ d ∈ tables_1, d.before a0 Z = true) (ws : List Jvm.Cond) (v_SIOOBE_FORMATTER : Value) (h0 : Heap) (n0 : Nat) (Z0 : n0 ≤ h0.size) (O0 : Old Z n0 h0) (S_SIOOBE_FORMATTER : Sta Z Z.heap "jdk/internal/util/Preconditions" "SIOOBE_FORMATTER" "Ljava/util/function/BiFunction;" v_SIOOBE_FORMATTER) (ir_v_SIOOBE_FORMATTER : v_SIOOBE_FORMATTER.isRef = true) :
    MetFree l (⟨"java/lang/String", "checkIndex", "(II)V"⟩ : MethodName) (head1 (Jvm.Cond.code (⟨"java/lang/String", "checkIndex", "(II)V"⟩ : MethodName) jdk_42_method_155_code 2 none :: ws) ({ frames := 1, cells := 0, slots := 0, locals := 14 } : Room)) (fun a U => a = #[(.int (0 : Int32)), (.int (1 : Int32))] ∧ Z.Warmed39 U.vm ∧ U.heap = h0) (fun _ _ _ _ _ => True) (fun _ U o U' => ∃ v L, o = .returned v ∧ Q_own_ci Z v_SIOOBE_FORMATTER h0 n0 v U'.heap L ∧ FrameEnd U o U' L ({ frames := 1, cells := 0, slots := 0, locals := 14 } : Room).cells ({ frames := 1, cells := 0, slots := 0, locals := 14 } : Room).slots) := by
  refine MetFree.of_bodySF (plainFor_of_name own_pn1) hisR ?_
  intro p e s m args below meth c s₁ Bd hml0 hP hK
  obtain ⟨rfl, hZ, hh⟩ := hP
  have hx := Bd.exec
  have hby := Bd.bytes
  have hml : c.maxLocals = 2 := hml0
  have hown : s.vm.findClass "java/lang/String" = some m.cls := findClass_of_methodNamed Bd.named
  have hnm := (name_of_methodNamed Bd.named Bd.method).1
  have X0 : Stand p l e ({ frames := 1, cells := 0, slots := 0, locals := 14 } : Room) s m #[(.int (0 : Int32)), (.int (1 : Int32))] below meth c s₁ [] 0 0 := Stand.of_body Bd
  have e0 : s₁.heap = h0 := by rw [← hh, Bd.state]; rfl
  have N0 := Fr.nil n0
  have K0 := Keep.refl h0 []
  refine own_go (fun t k => castTop (own_ef36 m ) k) ?_
  show OwnG p.tables e below _ (s₁.setTop (mkF m 0 #[.val (.int (0 : Int32)), .val (.int (1 : Int32))] []))
  refine own_go (fun t k => XS.iloadN X0.here hx rfl (hb hby own_d37) rfl  k) ?_
  show OwnG p.tables e below _ (s₁.setTop (mkF m 1 #[.val (.int (0 : Int32)), .val (.int (1 : Int32))] [(.int (0 : Int32))]))
  refine own_go (fun t k => XS.iloadN X0.here hx rfl (hb hby own_d38) rfl  k) ?_
  show OwnG p.tables e below _ (s₁.setTop (mkF m 2 #[.val (.int (0 : Int32)), .val (.int (1 : Int32))] [(.int (1 : Int32)), (.int (0 : Int32))]))
  obtain ⟨T1, X1, e1, st1⟩ := getS2 X0 hx hZ hown (host := "") (Or.inl (hw _ (List.mem_of_getElem? (i := 64) rfl))) Via.refl e0 (S_SIOOBE_FORMATTER.ext O0.2) (g := (mkF m 2 #[.val (.int (0 : Int32)), .val (.int (1 : Int32))] [(.int (1 : Int32)), (.int (0 : Int32))])) rfl (hb hby own_d39)
  refine own_go (fun t k => st1 t k) ?_
  show OwnG p.tables e below _ (T1.setTop (mkF m 5 #[.val (.int (0 : Int32)), .val (.int (1 : Int32))] [v_SIOOBE_FORMATTER, (.int (1 : Int32)), (.int (0 : Int32))]))
  rcases ref_cases ir_v_SIOOBE_FORMATTER with hv | ⟨fa, hv⟩
  · rw [hv]
    show OwnG p.tables e below _ (T1.setTop (mkF m 5 #[.val (.int (0 : Int32)), .val (.int (1 : Int32))] [.null, (.int (1 : Int32)), (.int (0 : Int32))]))
    obtain ⟨_, _, ⟨T2, L2, k2, n2⟩, -, X2, ⟨Lc2, hQ2, l2, y2, z2⟩, st2⟩ := Jvm.LawKit.callS X1 hx (y := (⟨"jdk/internal/util/Preconditions", "checkIndex", "(IILjava/util/function/BiFunction;)I"⟩ : MethodName)) hown (mvT hZ (hw _ (List.mem_of_getElem? (i := 66) rfl))) (mvT hZ (hw _ (List.mem_of_getElem? (i := 67) rfl))) (mvT hZ (hw _ (List.mem_of_getElem? (i := 65) rfl))) (mvT hZ (hw _ (List.mem_of_getElem? (i := 68) rfl))) (by decide) (backOf (W := 0) (own_pc0 l Z a0 hw []  h0 n0 Z0) hZ (hw _ (List.mem_of_getElem? (i := 68) rfl)) (hw _ (List.mem_of_getElem? (i := 65) rfl)) (by decide) (by decide)) (g := (mkF m 5 #[.val (.int (0 : Int32)), .val (.int (1 : Int32))] [.null, (.int (1 : Int32)), (.int (0 : Int32))])) rfl (by rw [hml]; rfl) (argsL := [(.int (0 : Int32)), (.int (1 : Int32)), .null]) (rest := []) (lenOf own_pd41 rfl) rfl (by show 2 * 0 + _ ≤ _; exact Nat.le_of_eq rfl) (hb hby own_d40) (fun _ _ => ⟨rfl, e1, (by decide : 0 + 0 ≤ _), (by decide : 0 + 0 ≤ _)⟩)
    dsimp only [Pt.U, Pt.locs, Pt.cells, Pt.slots] at X2 l2 y2 z2 st2 hQ2
    subst l2 y2 z2
    obtain ⟨rfl, Nq2, eq2⟩ := hQ2
    have N2 := Fr.app N0 Nq2
    have e2 : T2.heap = h0 := eq2
    refine own_go (fun t k => st2 t k) ?_
    show OwnG p.tables e below _ (T2.setTop (mkF m 8 #[.val (.int (0 : Int32)), .val (.int (1 : Int32))] [(.int (0 : Int32))]))
    refine own_go (fun t k => XS.pop X2.here hx rfl (hb hby own_d42) rfl rfl k) ?_
    show OwnG p.tables e below _ (T2.setTop (mkF m 9 #[.val (.int (0 : Int32)), .val (.int (1 : Int32))] []))
    obtain ⟨fs, hr, hrun, hended, hW, hsame⟩ := X2.leave (v := none) (fun _ => rfl)
    refine ⟨_, _, X2.returnOut hx Bd.returns (hb hby own_d43) hr, hrun, hended, _, _, rfl, ?_, ⟨_, rfl⟩, hW, hsame.mono (by decide) (by decide)⟩
    show Q_own_ci Z v_SIOOBE_FORMATTER h0 n0 _ T2.heap _
    rw [e2]
    exact ⟨rfl, N2, rfl⟩
  · rw [hv]
    show OwnG p.tables e below _ (T1.setTop (mkF m 5 #[.val (.int (0 : Int32)), .val (.int (1 : Int32))] [(.ref fa), (.int (1 : Int32)), (.int (0 : Int32))]))
    obtain ⟨_, _, ⟨T3, L3, k3, n3⟩, -, X3, ⟨Lc3, hQ3, l3, y3, z3⟩, st3⟩ := Jvm.LawKit.callS X1 hx (y := (⟨"jdk/internal/util/Preconditions", "checkIndex", "(IILjava/util/function/BiFunction;)I"⟩ : MethodName)) hown (mvT hZ (hw _ (List.mem_of_getElem? (i := 66) rfl))) (mvT hZ (hw _ (List.mem_of_getElem? (i := 67) rfl))) (mvT hZ (hw _ (List.mem_of_getElem? (i := 65) rfl))) (mvT hZ (hw _ (List.mem_of_getElem? (i := 68) rfl))) (by decide) (backOf (W := 0) (own_pc1 l Z a0 hw [] fa h0 n0 Z0) hZ (hw _ (List.mem_of_getElem? (i := 68) rfl)) (hw _ (List.mem_of_getElem? (i := 65) rfl)) (by decide) (by decide)) (g := (mkF m 5 #[.val (.int (0 : Int32)), .val (.int (1 : Int32))] [(.ref fa), (.int (1 : Int32)), (.int (0 : Int32))])) rfl (by rw [hml]; rfl) (argsL := [(.int (0 : Int32)), (.int (1 : Int32)), (.ref fa)]) (rest := []) (lenOf own_pd41 rfl) rfl (by show 2 * 0 + _ ≤ _; exact Nat.le_of_eq rfl) (hb hby own_d40) (fun _ _ => ⟨rfl, e1, (by decide : 0 + 0 ≤ _), (by decide : 0 + 0 ≤ _)⟩)
    dsimp only [Pt.U, Pt.locs, Pt.cells, Pt.slots] at X3 l3 y3 z3 st3 hQ3
    subst l3 y3 z3
    obtain ⟨rfl, Nq3, eq3⟩ := hQ3
    have N3 := Fr.app N0 Nq3
    have e3 : T3.heap = h0 := eq3
    refine own_go (fun t k => st3 t k) ?_
    show OwnG p.tables e below _ (T3.setTop (mkF m 8 #[.val (.int (0 : Int32)), .val (.int (1 : Int32))] [(.int (0 : Int32))]))
    refine own_go (fun t k => XS.pop X3.here hx rfl (hb hby own_d42) rfl rfl k) ?_
    show OwnG p.tables e below _ (T3.setTop (mkF m 9 #[.val (.int (0 : Int32)), .val (.int (1 : Int32))] []))
    obtain ⟨fs, hr, hrun, hended, hW, hsame⟩ := X3.leave (v := none) (fun _ => rfl)
    refine ⟨_, _, X3.returnOut hx Bd.returns (hb hby own_d43) hr, hrun, hended, _, _, rfl, ?_, ⟨_, rfl⟩, hW, hsame.mono (by decide) (by decide)⟩
    show Q_own_ci Z v_SIOOBE_FORMATTER h0 n0 _ T3.heap _
    rw [e3]
    exact ⟨rfl, N3, rfl⟩
theorem own_ef44 (m : MethodId) (a2 : Addr) : entryFrame m #[(.ref a2), (.int (0 : Int32))] 2 = mkF m 0 #[.val (.ref a2), .val (.int (0 : Int32))] [] := by first | (simp [entryFrame, mkF, argsToLocals, Value.category]; done) | rfl
theorem own_pn45 : plainName "java/lang/StringLatin1" = true := by first | (simp [plainName, overriddenIn]; done) | decide +kernel
theorem own_d46 : decode jdk_43_method_2_code 0 = .ok (.iload_n 1, 1) := by decide +kernel
theorem own_d47 : decode jdk_43_method_2_code 1 = .ok (.aload_n 0, 1) := by decide +kernel
theorem own_d48 : decode jdk_43_method_2_code 2 = .ok (.arraylength, 1) := by decide +kernel
theorem own_d49 : decode jdk_43_method_2_code 3 = .ok (.invokestatic 9, 3) := by decide +kernel
theorem own_pd50 : parseMethodDescriptor "(II)V" = some ⟨[.int, .int], none⟩ := by decide +kernel
theorem own_d51 : decode jdk_43_method_2_code 6 = .ok (.aload_n 0, 1) := by decide +kernel
theorem own_d52 : decode jdk_43_method_2_code 7 = .ok (.iload_n 1, 1) := by decide +kernel
theorem own_d53 : decode jdk_43_method_2_code 8 = .ok (.baload, 1) := by decide +kernel
theorem own_d54 : decode jdk_43_method_2_code 9 = .ok (.sipush 255, 3) := by decide +kernel
theorem own_d55 : decode jdk_43_method_2_code 12 = .ok (.iand, 1) := by decide +kernel
theorem own_d56 : decode jdk_43_method_2_code 13 = .ok (.i2c, 1) := by decide +kernel
theorem own_d57 : decode jdk_43_method_2_code 14 = .ok (.ireturn, 1) := by decide +kernel
def Q_own_lcharAt (Z : State) (a2 : Addr) (ka : ClassId) (ch : Int32) (v_SIOOBE_FORMATTER : Value) (h0 : Heap) (n0 : Nat) (v : Option Value) (h : Heap) (L : List Loc) : Prop := v = some (.int ch) ∧ Fr n0 L ∧ h = h0
set_option maxRecDepth 65536 in
set_option maxHeartbeats 40000000 in
theorem own_lcharAt (l : Launch) (Z : State) (a0 : Array Value) (hw : ∀ d ∈ tables_1, d.before a0 Z = true) (ws : List Jvm.Cond) (a2 : Addr) (ka : ClassId) (ch : Int32) (v_SIOOBE_FORMATTER : Value) (h0 : Heap) (n0 : Nat) (Z0 : n0 ≤ h0.size) (O0 : Old Z n0 h0) (S_SIOOBE_FORMATTER : Sta Z Z.heap "jdk/internal/util/Preconditions" "SIOOBE_FORMATTER" "Ljava/util/function/BiFunction;" v_SIOOBE_FORMATTER) (ir_v_SIOOBE_FORMATTER : v_SIOOBE_FORMATTER.isRef = true) (f0_0 : Arv Z h0 a2 ka .byte (1 : Int32) [(.int ch)] (.int (0 : Int32))) (hb1 : nar .char ((ch &&& (255 : Int32)).toUInt32.toUInt16.toUInt32.toInt32) = ch) :
    MetFree l (⟨"java/lang/StringLatin1", "charAt", "([BI)C"⟩ : MethodName) (head1 (Jvm.Cond.code (⟨"java/lang/StringLatin1", "charAt", "([BI)C"⟩ : MethodName) jdk_43_method_2_code 2 (some .char) :: ws) ({ frames := 2, cells := 0, slots := 0, locals := 27 } : Room)) (fun a U => a = #[(.ref a2), (.int (0 : Int32))] ∧ Z.Warmed39 U.vm ∧ U.heap = h0) (fun _ _ _ _ _ => True) (fun _ U o U' => ∃ v L, o = .returned v ∧ Q_own_lcharAt Z a2 ka ch v_SIOOBE_FORMATTER h0 n0 v U'.heap L ∧ FrameEnd U o U' L ({ frames := 2, cells := 0, slots := 0, locals := 27 } : Room).cells ({ frames := 2, cells := 0, slots := 0, locals := 27 } : Room).slots) := by
  refine MetFree.of_bodySF (plainFor_of_name own_pn45) hisR ?_
  intro p e s m args below meth c s₁ Bd hml0 hP hK
  obtain ⟨rfl, hZ, hh⟩ := hP
  have hx := Bd.exec
  have hby := Bd.bytes
  have hml : c.maxLocals = 2 := hml0
  have hown : s.vm.findClass "java/lang/StringLatin1" = some m.cls := findClass_of_methodNamed Bd.named
  have hnm := (name_of_methodNamed Bd.named Bd.method).1
  have X0 : Stand p l e ({ frames := 2, cells := 0, slots := 0, locals := 27 } : Room) s m #[(.ref a2), (.int (0 : Int32))] below meth c s₁ [] 0 0 := Stand.of_body Bd
  have e0 : s₁.heap = h0 := by rw [← hh, Bd.state]; rfl
  have N0 := Fr.nil n0
  have K0 := Keep.refl h0 []
  refine own_go (fun t k => castTop (own_ef44 m a2) k) ?_
  show OwnG p.tables e below _ (s₁.setTop (mkF m 0 #[.val (.ref a2), .val (.int (0 : Int32))] []))
  refine own_go (fun t k => XS.iloadN X0.here hx rfl (hb hby own_d46) rfl  k) ?_
  show OwnG p.tables e below _ (s₁.setTop (mkF m 1 #[.val (.ref a2), .val (.int (0 : Int32))] [(.int (0 : Int32))]))
  refine own_go (fun t k => XS.aloadN X0.here hx rfl (hb hby own_d47) rfl rfl k) ?_
  show OwnG p.tables e below _ (s₁.setTop (mkF m 2 #[.val (.ref a2), .val (.int (0 : Int32))] [(.ref a2), (.int (0 : Int32))]))
  have vv1 := f0_0
  obtain ⟨cl1, Ar1, qk1, Sz1, Nn1, Hs1, Gs1⟩ := vv1
  have st1 : ∀ t, Steps p.tables e below (s₁.setTop (mkF m 3 #[.val (.ref a2), .val (.int (0 : Int32))] [(.int (1 : Int32)), (.int (0 : Int32))])) t → Steps p.tables e below (s₁.setTop (mkF m 2 #[.val (.ref a2), .val (.int (0 : Int32))] [(.ref a2), (.int (0 : Int32))])) t := fun t k => by
    refine X0.arraylength hx (by rw [e0]; exact Ar1.1) (State.isArrayOf_alike hZ.alike Ar1.2.1) (g := (mkF m 2 #[.val (.ref a2), .val (.int (0 : Int32))] [(.ref a2), (.int (0 : Int32))])) rfl rfl (hb hby own_d48) _ ?_
    rw [len_of Sz1 Nn1]
    exact k
  refine own_go (fun t k => st1 t k) ?_
  show OwnG p.tables e below _ (s₁.setTop (mkF m 3 #[.val (.ref a2), .val (.int (0 : Int32))] [(.int (1 : Int32)), (.int (0 : Int32))]))
  obtain ⟨_, _, ⟨T2, L2, k2, n2⟩, -, X2, ⟨Lc2, hQ2, l2, y2, z2⟩, st2⟩ := Jvm.LawKit.callS X0 hx (y := (⟨"java/lang/String", "checkIndex", "(II)V"⟩ : MethodName)) hown (mvT hZ (hw _ (List.mem_of_getElem? (i := 61) rfl))) (mvT hZ (hw _ (List.mem_of_getElem? (i := 62) rfl))) (mvT hZ (hw _ (List.mem_of_getElem? (i := 35) rfl))) (mvT hZ (hw _ (List.mem_of_getElem? (i := 63) rfl))) (by decide) (backOf (W := 0) (own_ci l Z a0 hw [] v_SIOOBE_FORMATTER h0 n0 Z0 O0 S_SIOOBE_FORMATTER ir_v_SIOOBE_FORMATTER) hZ (hw _ (List.mem_of_getElem? (i := 63) rfl)) (hw _ (List.mem_of_getElem? (i := 35) rfl)) (by decide) (by decide)) (g := (mkF m 3 #[.val (.ref a2), .val (.int (0 : Int32))] [(.int (1 : Int32)), (.int (0 : Int32))])) rfl (by rw [hml]; rfl) (argsL := [(.int (0 : Int32)), (.int (1 : Int32))]) (rest := []) (lenOf own_pd50 rfl) rfl (by show 2 * 0 + _ ≤ _; exact Nat.le_of_eq rfl) (hb hby own_d49) (fun _ _ => ⟨rfl, e0, (by decide : 0 + 0 ≤ _), (by decide : 0 + 0 ≤ _)⟩)
  dsimp only [Pt.U, Pt.locs, Pt.cells, Pt.slots] at X2 l2 y2 z2 st2 hQ2
  subst l2 y2 z2
  obtain ⟨rfl, Nq2, eq2⟩ := hQ2
  have N2 := Fr.app N0 Nq2
  have e2 : T2.heap = h0 := eq2
  refine own_go (fun t k => st2 t k) ?_
  show OwnG p.tables e below _ (T2.setTop (mkF m 6 #[.val (.ref a2), .val (.int (0 : Int32))] []))
  refine own_go (fun t k => XS.aloadN X2.here hx rfl (hb hby own_d51) rfl rfl k) ?_
  show OwnG p.tables e below _ (T2.setTop (mkF m 7 #[.val (.ref a2), .val (.int (0 : Int32))] [(.ref a2)]))
  refine own_go (fun t k => XS.iloadN X2.here hx rfl (hb hby own_d52) rfl  k) ?_
  show OwnG p.tables e below _ (T2.setTop (mkF m 8 #[.val (.ref a2), .val (.int (0 : Int32))] [(.int (0 : Int32)), (.ref a2)]))
  have vv3 := f0_0
  obtain ⟨cl3, Ar3, qk3, Sz3, Nn3, Hs3, Gs3⟩ := vv3
  have hin3 : ¬ ((0 : Int32) < 0 ∨ cl3.slots.size ≤ ((0 : Int32)).toNatClampNeg) := inb_of Sz3 ⟨by decide, by decide⟩
  have hat3 : cl3.slots[((0 : Int32)).toNatClampNeg]? = some (.int ch) := Hs3.at hin3 rfl
  refine own_go (fun t k => (X2.baloadBytes hx (j := (0 : Int32)) (v := (.int ch)) (by rw [e2]; exact Ar3.1) (State.isArrayOf_alike hZ.alike Ar3.2.1) Ar3.2.2 hin3 hat3 (g := (mkF m 8 #[.val (.ref a2), .val (.int (0 : Int32))] [(.int (0 : Int32)), (.ref a2)])) rfl rfl (hb hby own_d53)) t k) ?_
  show OwnG p.tables e below _ (T2.setTop (mkF m 9 #[.val (.ref a2), .val (.int (0 : Int32))] [(.int ch)]))
  refine own_go (fun t k => XS.sipush X2.here hx rfl (hb hby own_d54) k) ?_
  show OwnG p.tables e below _ (T2.setTop (mkF m 12 #[.val (.ref a2), .val (.int (0 : Int32))] [(.int (255 : Int32)), (.int ch)]))
  refine own_go (fun t k => XS.iand X2.here hx rfl (hb hby own_d55) rfl k) ?_
  show OwnG p.tables e below _ (T2.setTop (mkF m 13 #[.val (.ref a2), .val (.int (0 : Int32))] [(.int (ch &&& (255 : Int32)))]))
  refine own_go (fun t k => XS.i2c X2.here hx rfl (hb hby own_d56) rfl k) ?_
  show OwnG p.tables e below _ (T2.setTop (mkF m 14 #[.val (.ref a2), .val (.int (0 : Int32))] [(.int ((ch &&& (255 : Int32)).toUInt32.toUInt16.toUInt32.toInt32))]))
  obtain ⟨fs, hr, hrun, hended, hW, hsame⟩ := X2.leave (v := some (.int (nar .char ((ch &&& (255 : Int32)).toUInt32.toUInt16.toUInt32.toInt32)))) (fun h => by rw [Bd.returns] at h; cases h)
  refine ⟨_, _, retN X2 hx (t := .char) Bd.returns (by simp) (hb hby own_d57) hr, hrun, hended, _, _, rfl, ?_, ⟨_, rfl⟩, hW, hsame.mono (by decide) (by decide)⟩
  show Q_own_lcharAt Z a2 ka ch v_SIOOBE_FORMATTER h0 n0 _ T2.heap _
  rw [e2]
  exact ⟨congrArg (fun z => some (Value.int z)) hb1, N2, rfl⟩
theorem own_ef58 (m : MethodId) (a1 : Addr) : entryFrame m #[(.ref a1), (.int (0 : Int32))] 2 = mkF m 0 #[.val (.ref a1), .val (.int (0 : Int32))] [] := by first | (simp [entryFrame, mkF, argsToLocals, Value.category]; done) | rfl
theorem own_d59 : decode jdk_42_method_56_code 0 = .ok (.aload_n 0, 1) := by decide +kernel
theorem own_d60 : decode jdk_42_method_56_code 1 = .ok (.invokevirtual 492, 3) := by decide +kernel
theorem own_pd61 : parseMethodDescriptor "()Z" = some ⟨[], some .boolean⟩ := by decide +kernel
theorem own_d62 : decode jdk_42_method_56_code 4 = .ok (.ifCond .eq 12, 3) := by decide +kernel
theorem own_d63 : decode jdk_42_method_56_code 7 = .ok (.aload_n 0, 1) := by decide +kernel
theorem own_d64 : decode jdk_42_method_56_code 8 = .ok (.getfield 9, 3) := by decide +kernel
theorem own_d65 : decode jdk_42_method_56_code 11 = .ok (.iload_n 1, 1) := by decide +kernel
theorem own_d66 : decode jdk_42_method_56_code 12 = .ok (.invokestatic 495, 3) := by decide +kernel
theorem own_pd67 : parseMethodDescriptor "([BI)C" = some ⟨[(.array .byte), .int], some .char⟩ := by decide +kernel
theorem own_d68 : decode jdk_42_method_56_code 15 = .ok (.ireturn, 1) := by decide +kernel
def Q_own_charAt (Z : State) (a1 : Addr) (a2 : Addr) (ka : ClassId) (ch : Int32) (i_COMPACT_STRINGS : Int32) (v_SIOOBE_FORMATTER : Value) (h0 : Heap) (n0 : Nat) (v : Option Value) (h : Heap) (L : List Loc) : Prop := v = some (.int ch) ∧ Fr n0 L ∧ h = h0
set_option maxRecDepth 65536 in
set_option maxHeartbeats 40000000 in
theorem own_charAt (l : Launch) (Z : State) (a0 : Array Value) (hw : ∀ d ∈ tables_1, d.before a0 Z = true) (ws : List Jvm.Cond) (a1 : Addr) (a2 : Addr) (ka : ClassId) (ch : Int32) (i_COMPACT_STRINGS : Int32) (v_SIOOBE_FORMATTER : Value) (h0 : Heap) (n0 : Nat) (Z0 : n0 ≤ h0.size) (O0 : Old Z n0 h0) (S_COMPACT_STRINGS : Sta Z Z.heap "java/lang/String" "COMPACT_STRINGS" "Z" (.int i_COMPACT_STRINGS)) (nz_i_COMPACT_STRINGS : i_COMPACT_STRINGS ≠ (0 : Int32)) (S_SIOOBE_FORMATTER : Sta Z Z.heap "jdk/internal/util/Preconditions" "SIOOBE_FORMATTER" "Ljava/util/function/BiFunction;" v_SIOOBE_FORMATTER) (ir_v_SIOOBE_FORMATTER : v_SIOOBE_FORMATTER.isRef = true) (f0_0 : Exa Z h0 a1 "java/lang/String") (f0_1 : Fld Z h0 a1 "java/lang/String" "value" "[B" (.ref a2)) (f0_2 : Fld Z h0 a1 "java/lang/String" "coder" "B" (.int (0 : Int32))) (f0_3 : Arv Z h0 a2 ka .byte (1 : Int32) [(.int ch)] (.int (0 : Int32))) (hb1 : nar .char ((ch &&& (255 : Int32)).toUInt32.toUInt16.toUInt32.toInt32) = ch) (hb2 : nar .char ch = ch) :
    MetFree l (⟨"java/lang/String", "charAt", "(I)C"⟩ : MethodName) (head1 (Jvm.Cond.code (⟨"java/lang/String", "charAt", "(I)C"⟩ : MethodName) jdk_42_method_56_code 2 (some .char) :: ws) ({ frames := 3, cells := 0, slots := 0, locals := 40 } : Room)) (fun a U => a = #[(.ref a1), (.int (0 : Int32))] ∧ Z.Warmed39 U.vm ∧ U.heap = h0) (fun _ _ _ _ _ => True) (fun _ U o U' => ∃ v L, o = .returned v ∧ Q_own_charAt Z a1 a2 ka ch i_COMPACT_STRINGS v_SIOOBE_FORMATTER h0 n0 v U'.heap L ∧ FrameEnd U o U' L ({ frames := 3, cells := 0, slots := 0, locals := 40 } : Room).cells ({ frames := 3, cells := 0, slots := 0, locals := 40 } : Room).slots) := by
  refine MetFree.of_bodySF (plainFor_of_name own_pn1) hisR ?_
  intro p e s m args below meth c s₁ Bd hml0 hP hK
  obtain ⟨rfl, hZ, hh⟩ := hP
  have hx := Bd.exec
  have hby := Bd.bytes
  have hml : c.maxLocals = 2 := hml0
  have hown : s.vm.findClass "java/lang/String" = some m.cls := findClass_of_methodNamed Bd.named
  have hnm := (name_of_methodNamed Bd.named Bd.method).1
  have X0 : Stand p l e ({ frames := 3, cells := 0, slots := 0, locals := 40 } : Room) s m #[(.ref a1), (.int (0 : Int32))] below meth c s₁ [] 0 0 := Stand.of_body Bd
  have e0 : s₁.heap = h0 := by rw [← hh, Bd.state]; rfl
  have N0 := Fr.nil n0
  have K0 := Keep.refl h0 []
  refine own_go (fun t k => castTop (own_ef58 m a1) k) ?_
  show OwnG p.tables e below _ (s₁.setTop (mkF m 0 #[.val (.ref a1), .val (.int (0 : Int32))] []))
  refine own_go (fun t k => XS.aloadN X0.here hx rfl (hb hby own_d59) rfl rfl k) ?_
  show OwnG p.tables e below _ (s₁.setTop (mkF m 1 #[.val (.ref a1), .val (.int (0 : Int32))] [(.ref a1)]))
  obtain ⟨cq1, kq1, q1a, q1b, q1c⟩ := isOf hZ e0 f0_0
  obtain ⟨_, _, ⟨T1, L1, k1, n1⟩, -, X1, ⟨Lc1, hQ1, l1, y1, z1⟩, st1⟩ := X0.virtualBack hx (y := (⟨"java/lang/String", "isLatin1", "()Z"⟩ : MethodName)) (z := (⟨"java/lang/String", "isLatin1", "()Z"⟩ : MethodName)) hown (mvT hZ (hw _ (List.mem_of_getElem? (i := 52) rfl))) (mvT hZ (hw _ (List.mem_of_getElem? (i := 53) rfl))) (notFace_of_selects (args := #[]) (mvT hZ (hw _ (List.mem_of_getElem? (i := 55) rfl)))) (mvT hZ (hw _ (List.mem_of_getElem? (i := 55) rfl))) (mvT hZ (hw _ (List.mem_of_getElem? (i := 54) rfl))) (by decide) (backOf (W := 0) (own_latin l Z a0 hw [] a1 i_COMPACT_STRINGS h0 n0 Z0 O0 S_COMPACT_STRINGS nz_i_COMPACT_STRINGS f0_2) hZ (hw _ (List.mem_of_getElem? (i := 56) rfl)) (hw _ (List.mem_of_getElem? (i := 35) rfl)) (by decide) (by decide)) q1a q1c (g := (mkF m 1 #[.val (.ref a1), .val (.int (0 : Int32))] [(.ref a1)])) rfl (by rw [hml]; rfl) (Steps.refl _) (argsL := []) (rest := []) (lenOf own_pd61 rfl) rfl (by show 2 * 0 + _ ≤ _; exact Nat.le_of_eq rfl) (hb hby own_d60) (fun _ _ => ⟨rfl, e0, (by decide : 0 + 0 ≤ _), (by decide : 0 + 0 ≤ _)⟩)
  dsimp only [Pt.U, Pt.locs, Pt.cells, Pt.slots] at X1 l1 y1 z1 st1 hQ1
  subst l1 y1 z1
  obtain ⟨rfl, Nq1, eq1⟩ := hQ1
  have N1 := Fr.app N0 Nq1
  have e1 : T1.heap = h0 := eq1
  refine own_go (fun t k => st1.trans k) ?_
  show OwnG p.tables e below _ (T1.setTop (mkF m 4 #[.val (.ref a1), .val (.int (0 : Int32))] [(.int (1 : Int32))]))
  refine own_go (fun t k => XS.ifNo X1.here hx rfl (hb hby own_d62) rfl ((if0 _ _).trans (feq (by decide : ¬ ((1 : Int32) = (0 : Int32)))).1) k) ?_
  show OwnG p.tables e below _ (T1.setTop (mkF m 7 #[.val (.ref a1), .val (.int (0 : Int32))] []))
  refine own_go (fun t k => XS.aloadN X1.here hx rfl (hb hby own_d63) rfl rfl k) ?_
  show OwnG p.tables e below _ (T1.setTop (mkF m 8 #[.val (.ref a1), .val (.int (0 : Int32))] [(.ref a1)]))
  obtain ⟨T2, X2, e2, st2⟩ := getF X1 hx hZ hown (host := "") (Or.inl (hw _ (List.mem_of_getElem? (i := 37) rfl))) Via.refl e1 f0_1 (g := (mkF m 8 #[.val (.ref a1), .val (.int (0 : Int32))] [(.ref a1)])) rfl rfl (hb hby own_d64)
  refine own_go (fun t k => st2 t k) ?_
  show OwnG p.tables e below _ (T2.setTop (mkF m 11 #[.val (.ref a1), .val (.int (0 : Int32))] [(.ref a2)]))
  refine own_go (fun t k => XS.iloadN X2.here hx rfl (hb hby own_d65) rfl  k) ?_
  show OwnG p.tables e below _ (T2.setTop (mkF m 12 #[.val (.ref a1), .val (.int (0 : Int32))] [(.int (0 : Int32)), (.ref a2)]))
  obtain ⟨_, _, ⟨T3, L3, k3, n3⟩, -, X3, ⟨Lc3, hQ3, l3, y3, z3⟩, st3⟩ := Jvm.LawKit.callS X2 hx (y := (⟨"java/lang/StringLatin1", "charAt", "([BI)C"⟩ : MethodName)) hown (mvT hZ (hw _ (List.mem_of_getElem? (i := 57) rfl))) (mvT hZ (hw _ (List.mem_of_getElem? (i := 58) rfl))) (mvT hZ (hw _ (List.mem_of_getElem? (i := 59) rfl))) (mvT hZ (hw _ (List.mem_of_getElem? (i := 60) rfl))) (by decide) (backOf (W := 0) (own_lcharAt l Z a0 hw [] a2 ka ch v_SIOOBE_FORMATTER h0 n0 Z0 O0 S_SIOOBE_FORMATTER ir_v_SIOOBE_FORMATTER f0_3 hb1) hZ (hw _ (List.mem_of_getElem? (i := 60) rfl)) (hw _ (List.mem_of_getElem? (i := 59) rfl)) (by decide) (by decide)) (g := (mkF m 12 #[.val (.ref a1), .val (.int (0 : Int32))] [(.int (0 : Int32)), (.ref a2)])) rfl (by rw [hml]; rfl) (argsL := [(.ref a2), (.int (0 : Int32))]) (rest := []) (lenOf own_pd67 rfl) rfl (by show 2 * 0 + _ ≤ _; exact Nat.le_of_eq rfl) (hb hby own_d66) (fun _ _ => ⟨rfl, e2, (by decide : 0 + 0 ≤ _), (by decide : 0 + 0 ≤ _)⟩)
  dsimp only [Pt.U, Pt.locs, Pt.cells, Pt.slots] at X3 l3 y3 z3 st3 hQ3
  subst l3 y3 z3
  obtain ⟨rfl, Nq3, eq3⟩ := hQ3
  have N3 := Fr.app N1 Nq3
  have e3 : T3.heap = h0 := eq3
  refine own_go (fun t k => st3 t k) ?_
  show OwnG p.tables e below _ (T3.setTop (mkF m 15 #[.val (.ref a1), .val (.int (0 : Int32))] [(.int ch)]))
  obtain ⟨fs, hr, hrun, hended, hW, hsame⟩ := X3.leave (v := some (.int (nar .char ch))) (fun h => by rw [Bd.returns] at h; cases h)
  refine ⟨_, _, retN X3 hx (t := .char) Bd.returns (by simp) (hb hby own_d68) hr, hrun, hended, _, _, rfl, ?_, ⟨_, rfl⟩, hW, hsame.mono (by decide) (by decide)⟩
  show Q_own_charAt Z a1 a2 ka ch i_COMPACT_STRINGS v_SIOOBE_FORMATTER h0 n0 _ T3.heap _
  rw [e3]
  exact ⟨congrArg (fun z => some (Value.int z)) hb2, N3, rfl⟩
theorem own_ef69 (m : MethodId) (p1 : Int32) : entryFrame m #[(.int p1)] 5 = mkF m 0 #[.val (.int p1), .unset, .unset, .unset, .unset] [] := by first | (simp [entryFrame, mkF, argsToLocals, Value.category]; done) | rfl
theorem own_pn70 : plainName "com/example/vigilant_grammar/vigilantgrammar/ContentToken$Occurrence" = true := by first | (simp [plainName, overriddenIn]; done) | decide +kernel
theorem own_d71 : decode prog_39_method_4_code 0 = .ok (.getstatic 53, 3) := by decide +kernel
theorem own_d72 : decode prog_39_method_4_code 3 = .ok (.astore_n 1, 1) := by decide +kernel
theorem own_d73 : decode prog_39_method_4_code 4 = .ok (.aload_n 1, 1) := by decide +kernel
theorem own_d74 : decode prog_39_method_4_code 5 = .ok (.arraylength, 1) := by decide +kernel
theorem own_d75 : decode prog_39_method_4_code 6 = .ok (.istore_n 2, 1) := by decide +kernel
theorem own_d76 : decode prog_39_method_4_code 7 = .ok (.iconst 0, 1) := by decide +kernel
theorem own_d77 : decode prog_39_method_4_code 8 = .ok (.istore_n 3, 1) := by decide +kernel
theorem own_d78 : decode prog_39_method_4_code 9 = .ok (.iload_n 3, 1) := by decide +kernel
theorem own_d79 : decode prog_39_method_4_code 10 = .ok (.iload_n 2, 1) := by decide +kernel
theorem own_d80 : decode prog_39_method_4_code 11 = .ok (.if_icmp .ge 26, 3) := by decide +kernel
theorem own_d81 : decode prog_39_method_4_code 14 = .ok (.aload_n 1, 1) := by decide +kernel
theorem own_d82 : decode prog_39_method_4_code 15 = .ok (.iload_n 3, 1) := by decide +kernel
theorem own_d83 : decode prog_39_method_4_code 16 = .ok (.aaload, 1) := by decide +kernel
theorem own_d84 : decode prog_39_method_4_code 17 = .ok (.astore 4, 2) := by decide +kernel
theorem own_d85 : decode prog_39_method_4_code 19 = .ok (.aload 4, 2) := by decide +kernel
theorem own_d86 : decode prog_39_method_4_code 21 = .ok (.getfield 49, 3) := by decide +kernel
theorem own_d87 : decode prog_39_method_4_code 24 = .ok (.iload_n 0, 1) := by decide +kernel
theorem own_d88 : decode prog_39_method_4_code 25 = .ok (.if_icmp .ne 6, 3) := by decide +kernel
theorem own_d89 : decode prog_39_method_4_code 28 = .ok (.aload 4, 2) := by decide +kernel
theorem own_d90 : decode prog_39_method_4_code 30 = .ok (.areturn, 1) := by decide +kernel
theorem own_d91 : decode prog_39_method_4_code 31 = .ok (.iinc 3 1, 3) := by decide +kernel
theorem own_d92 : decode prog_39_method_4_code 34 = .ok (.goto (-25), 3) := by decide +kernel
theorem own_d93 : decode prog_39_method_4_code 37 = .ok (.aconst_null, 1) := by decide +kernel
theorem own_d94 : decode prog_39_method_4_code 38 = .ok (.areturn, 1) := by decide +kernel
def Q_own_indicated (Z : State) (p1 : Int32) (o_INDICATED : Addr) (o_OPTIONAL : Addr) (o_ZERO_OR_MORE : Addr) (o_ONE_OR_MORE : Addr) (o_ZERO_OR_MORE_symbol : Addr) (o_ZERO_OR_MORE_symbol_value : Addr) (o_OPTIONAL_symbol : Addr) (o_OPTIONAL_symbol_value : Addr) (o_ONE_OR_MORE_symbol : Addr) (o_ONE_OR_MORE_symbol_value : Addr) (i_COMPACT_STRINGS : Int32) (v_SIOOBE_FORMATTER : Value) (kc_o_INDICATED : ClassId) (kc_o_ZERO_OR_MORE_symbol_value : ClassId) (kc_o_OPTIONAL_symbol_value : ClassId) (kc_o_ONE_OR_MORE_symbol_value : ClassId) (h0 : Heap) (n0 : Nat) (v : Option Value) (h : Heap) (L : List Loc) : Prop := v = some (own_val p1 o_OPTIONAL o_ZERO_OR_MORE o_ONE_OR_MORE) ∧ Fr n0 L ∧ h = h0
set_option maxRecDepth 65536 in
set_option maxHeartbeats 40000000 in
theorem own_indicated (l : Launch) (Z : State) (a0 : Array Value) (hw : ∀ d ∈ tables_1, d.before a0 Z = true) (ws : List Jvm.Cond) (p1 : Int32) (o_INDICATED : Addr) (o_OPTIONAL : Addr) (o_ZERO_OR_MORE : Addr) (o_ONE_OR_MORE : Addr) (o_ZERO_OR_MORE_symbol : Addr) (o_ZERO_OR_MORE_symbol_value : Addr) (o_OPTIONAL_symbol : Addr) (o_OPTIONAL_symbol_value : Addr) (o_ONE_OR_MORE_symbol : Addr) (o_ONE_OR_MORE_symbol_value : Addr) (i_COMPACT_STRINGS : Int32) (v_SIOOBE_FORMATTER : Value) (kc_o_INDICATED : ClassId) (kc_o_ZERO_OR_MORE_symbol_value : ClassId) (kc_o_OPTIONAL_symbol_value : ClassId) (kc_o_ONE_OR_MORE_symbol_value : ClassId) (h0 : Heap) (n0 : Nat) (Z0 : n0 ≤ h0.size) (O0 : Old Z n0 h0) (S_INDICATED : Sta Z Z.heap "com/example/vigilant_grammar/vigilantgrammar/ContentToken$Occurrence" "INDICATED" "[Lcom/example/vigilant_grammar/vigilantgrammar/ContentToken$Occurrence;" (.ref o_INDICATED)) (S_OPTIONAL : Sta Z Z.heap "com/example/vigilant_grammar/vigilantgrammar/ContentToken$Occurrence" "OPTIONAL" "Lcom/example/vigilant_grammar/vigilantgrammar/ContentToken$Occurrence;" (.ref o_OPTIONAL)) (E_o_OPTIONAL : Exa Z Z.heap o_OPTIONAL "com/example/vigilant_grammar/vigilantgrammar/ContentToken$Occurrence") (F_o_OPTIONAL_mark : Fld Z Z.heap o_OPTIONAL "com/example/vigilant_grammar/vigilantgrammar/ContentToken$Occurrence" "mark" "I" (.int (63 : Int32))) (S_ZERO_OR_MORE : Sta Z Z.heap "com/example/vigilant_grammar/vigilantgrammar/ContentToken$Occurrence" "ZERO_OR_MORE" "Lcom/example/vigilant_grammar/vigilantgrammar/ContentToken$Occurrence;" (.ref o_ZERO_OR_MORE)) (E_o_ZERO_OR_MORE : Exa Z Z.heap o_ZERO_OR_MORE "com/example/vigilant_grammar/vigilantgrammar/ContentToken$Occurrence") (F_o_ZERO_OR_MORE_mark : Fld Z Z.heap o_ZERO_OR_MORE "com/example/vigilant_grammar/vigilantgrammar/ContentToken$Occurrence" "mark" "I" (.int (42 : Int32))) (S_ONE_OR_MORE : Sta Z Z.heap "com/example/vigilant_grammar/vigilantgrammar/ContentToken$Occurrence" "ONE_OR_MORE" "Lcom/example/vigilant_grammar/vigilantgrammar/ContentToken$Occurrence;" (.ref o_ONE_OR_MORE)) (E_o_ONE_OR_MORE : Exa Z Z.heap o_ONE_OR_MORE "com/example/vigilant_grammar/vigilantgrammar/ContentToken$Occurrence") (F_o_ONE_OR_MORE_mark : Fld Z Z.heap o_ONE_OR_MORE "com/example/vigilant_grammar/vigilantgrammar/ContentToken$Occurrence" "mark" "I" (.int (43 : Int32))) (F_o_ZERO_OR_MORE_symbol : Fld Z Z.heap o_ZERO_OR_MORE "com/example/vigilant_grammar/vigilantgrammar/ContentToken$Occurrence" "symbol" "Ljava/lang/String;" (.ref o_ZERO_OR_MORE_symbol)) (E_o_ZERO_OR_MORE_symbol : Exa Z Z.heap o_ZERO_OR_MORE_symbol "java/lang/String") (F_o_ZERO_OR_MORE_symbol_value : Fld Z Z.heap o_ZERO_OR_MORE_symbol "java/lang/String" "value" "[B" (.ref o_ZERO_OR_MORE_symbol_value)) (F_o_ZERO_OR_MORE_symbol_coder : Fld Z Z.heap o_ZERO_OR_MORE_symbol "java/lang/String" "coder" "B" (.int (0 : Int32))) (F_o_OPTIONAL_symbol : Fld Z Z.heap o_OPTIONAL "com/example/vigilant_grammar/vigilantgrammar/ContentToken$Occurrence" "symbol" "Ljava/lang/String;" (.ref o_OPTIONAL_symbol)) (E_o_OPTIONAL_symbol : Exa Z Z.heap o_OPTIONAL_symbol "java/lang/String") (F_o_OPTIONAL_symbol_value : Fld Z Z.heap o_OPTIONAL_symbol "java/lang/String" "value" "[B" (.ref o_OPTIONAL_symbol_value)) (F_o_OPTIONAL_symbol_coder : Fld Z Z.heap o_OPTIONAL_symbol "java/lang/String" "coder" "B" (.int (0 : Int32))) (F_o_ONE_OR_MORE_symbol : Fld Z Z.heap o_ONE_OR_MORE "com/example/vigilant_grammar/vigilantgrammar/ContentToken$Occurrence" "symbol" "Ljava/lang/String;" (.ref o_ONE_OR_MORE_symbol)) (E_o_ONE_OR_MORE_symbol : Exa Z Z.heap o_ONE_OR_MORE_symbol "java/lang/String") (F_o_ONE_OR_MORE_symbol_value : Fld Z Z.heap o_ONE_OR_MORE_symbol "java/lang/String" "value" "[B" (.ref o_ONE_OR_MORE_symbol_value)) (F_o_ONE_OR_MORE_symbol_coder : Fld Z Z.heap o_ONE_OR_MORE_symbol "java/lang/String" "coder" "B" (.int (0 : Int32))) (S_COMPACT_STRINGS : Sta Z Z.heap "java/lang/String" "COMPACT_STRINGS" "Z" (.int i_COMPACT_STRINGS)) (nz_i_COMPACT_STRINGS : i_COMPACT_STRINGS ≠ (0 : Int32)) (S_SIOOBE_FORMATTER : Sta Z Z.heap "jdk/internal/util/Preconditions" "SIOOBE_FORMATTER" "Ljava/util/function/BiFunction;" v_SIOOBE_FORMATTER) (ir_v_SIOOBE_FORMATTER : v_SIOOBE_FORMATTER.isRef = true) (V_o_INDICATED : Arv Z Z.heap o_INDICATED kc_o_INDICATED (.object "com/example/vigilant_grammar/vigilantgrammar/ContentToken$Occurrence") (3 : Int32) [(.ref o_OPTIONAL), (.ref o_ZERO_OR_MORE), (.ref o_ONE_OR_MORE)] .null) (V_o_ZERO_OR_MORE_symbol_value : Arv Z Z.heap o_ZERO_OR_MORE_symbol_value kc_o_ZERO_OR_MORE_symbol_value .byte (1 : Int32) [(.int (42 : Int32))] (.int (0 : Int32))) (V_o_OPTIONAL_symbol_value : Arv Z Z.heap o_OPTIONAL_symbol_value kc_o_OPTIONAL_symbol_value .byte (1 : Int32) [(.int (63 : Int32))] (.int (0 : Int32))) (V_o_ONE_OR_MORE_symbol_value : Arv Z Z.heap o_ONE_OR_MORE_symbol_value kc_o_ONE_OR_MORE_symbol_value .byte (1 : Int32) [(.int (43 : Int32))] (.int (0 : Int32))) :
    MetFree l (⟨"com/example/vigilant_grammar/vigilantgrammar/ContentToken$Occurrence", "indicatedBy", "(I)Lcom/example/vigilant_grammar/vigilantgrammar/ContentToken$Occurrence;"⟩ : MethodName) (head1 (Jvm.Cond.code (⟨"com/example/vigilant_grammar/vigilantgrammar/ContentToken$Occurrence", "indicatedBy", "(I)Lcom/example/vigilant_grammar/vigilantgrammar/ContentToken$Occurrence;"⟩ : MethodName) prog_39_method_4_code 5 (some (.object "com/example/vigilant_grammar/vigilantgrammar/ContentToken$Occurrence")) :: ws) ({ frames := 0, cells := 0, slots := 0, locals := 0 } : Room)) (fun a U => a = #[(.int p1)] ∧ Z.Warmed39 U.vm ∧ U.heap = h0) (fun _ _ _ _ _ => True) (fun _ U o U' => ∃ v L, o = .returned v ∧ Q_own_indicated Z p1 o_INDICATED o_OPTIONAL o_ZERO_OR_MORE o_ONE_OR_MORE o_ZERO_OR_MORE_symbol o_ZERO_OR_MORE_symbol_value o_OPTIONAL_symbol o_OPTIONAL_symbol_value o_ONE_OR_MORE_symbol o_ONE_OR_MORE_symbol_value i_COMPACT_STRINGS v_SIOOBE_FORMATTER kc_o_INDICATED kc_o_ZERO_OR_MORE_symbol_value kc_o_OPTIONAL_symbol_value kc_o_ONE_OR_MORE_symbol_value h0 n0 v U'.heap L ∧ FrameEnd U o U' L ({ frames := 0, cells := 0, slots := 0, locals := 0 } : Room).cells ({ frames := 0, cells := 0, slots := 0, locals := 0 } : Room).slots) := by
  refine MetFree.of_bodySF (plainFor_of_name own_pn70) hisR ?_
  intro p e s m args below meth c s₁ Bd hml0 hP hK
  obtain ⟨rfl, hZ, hh⟩ := hP
  have hx := Bd.exec
  have hby := Bd.bytes
  have hml : c.maxLocals = 5 := hml0
  have hown : s.vm.findClass "com/example/vigilant_grammar/vigilantgrammar/ContentToken$Occurrence" = some m.cls := findClass_of_methodNamed Bd.named
  have hnm := (name_of_methodNamed Bd.named Bd.method).1
  have X0 : Stand p l e ({ frames := 0, cells := 0, slots := 0, locals := 0 } : Room) s m #[(.int p1)] below meth c s₁ [] 0 0 := Stand.of_body Bd
  have e0 : s₁.heap = h0 := by rw [← hh, Bd.state]; rfl
  have N0 := Fr.nil n0
  have K0 := Keep.refl h0 []
  refine own_go (fun t k => castTop (own_ef69 m p1) k) ?_
  show OwnG p.tables e below _ (s₁.setTop (mkF m 0 #[.val (.int p1), .unset, .unset, .unset, .unset] []))
  obtain ⟨T1, X1, e1, st1⟩ := getS2 X0 hx hZ hown (host := "") (Or.inl (hw _ (List.mem_of_getElem? (i := 13) rfl))) Via.refl e0 (S_INDICATED.ext O0.2) (g := (mkF m 0 #[.val (.int p1), .unset, .unset, .unset, .unset] [])) rfl (hb hby own_d71)
  refine own_go (fun t k => st1 t k) ?_
  show OwnG p.tables e below _ (T1.setTop (mkF m 3 #[.val (.int p1), .unset, .unset, .unset, .unset] [(.ref o_INDICATED)]))
  refine own_go (fun t k => XS.astoreN X1.here hx rfl (hb hby own_d72) rfl rfl (l' := #[.val (.int p1), .val (.ref o_INDICATED), .unset, .unset, .unset]) rfl k) ?_
  show OwnG p.tables e below _ (T1.setTop (mkF m 4 #[.val (.int p1), .val (.ref o_INDICATED), .unset, .unset, .unset] []))
  refine own_go (fun t k => XS.aloadN X1.here hx rfl (hb hby own_d73) rfl rfl k) ?_
  show OwnG p.tables e below _ (T1.setTop (mkF m 5 #[.val (.int p1), .val (.ref o_INDICATED), .unset, .unset, .unset] [(.ref o_INDICATED)]))
  have vv2 := (V_o_INDICATED.ext O0.2)
  obtain ⟨cl2, Ar2, qk2, Sz2, Nn2, Hs2, Gs2⟩ := vv2
  have st2 : ∀ t, Steps p.tables e below (T1.setTop (mkF m 6 #[.val (.int p1), .val (.ref o_INDICATED), .unset, .unset, .unset] [(.int (3 : Int32))])) t → Steps p.tables e below (T1.setTop (mkF m 5 #[.val (.int p1), .val (.ref o_INDICATED), .unset, .unset, .unset] [(.ref o_INDICATED)])) t := fun t k => by
    refine X1.arraylength hx (by rw [e1]; exact Ar2.1) (State.isArrayOf_alike hZ.alike Ar2.2.1) (g := (mkF m 5 #[.val (.int p1), .val (.ref o_INDICATED), .unset, .unset, .unset] [(.ref o_INDICATED)])) rfl rfl (hb hby own_d74) _ ?_
    rw [len_of Sz2 Nn2]
    exact k
  refine own_go (fun t k => st2 t k) ?_
  show OwnG p.tables e below _ (T1.setTop (mkF m 6 #[.val (.int p1), .val (.ref o_INDICATED), .unset, .unset, .unset] [(.int (3 : Int32))]))
  refine own_go (fun t k => XS.istoreN X1.here hx rfl (hb hby own_d75) rfl (l' := #[.val (.int p1), .val (.ref o_INDICATED), .val (.int (3 : Int32)), .unset, .unset]) rfl k) ?_
  show OwnG p.tables e below _ (T1.setTop (mkF m 7 #[.val (.int p1), .val (.ref o_INDICATED), .val (.int (3 : Int32)), .unset, .unset] []))
  refine own_go (fun t k => XS.iconst X1.here hx rfl (hb hby own_d76) k) ?_
  show OwnG p.tables e below _ (T1.setTop (mkF m 8 #[.val (.int p1), .val (.ref o_INDICATED), .val (.int (3 : Int32)), .unset, .unset] [(.int (0 : Int32))]))
  refine own_go (fun t k => XS.istoreN X1.here hx rfl (hb hby own_d77) rfl (l' := #[.val (.int p1), .val (.ref o_INDICATED), .val (.int (3 : Int32)), .val (.int (0 : Int32)), .unset]) rfl k) ?_
  show OwnG p.tables e below _ (T1.setTop (mkF m 9 #[.val (.int p1), .val (.ref o_INDICATED), .val (.int (3 : Int32)), .val (.int (0 : Int32)), .unset] []))
  refine own_go (fun t k => XS.iloadN X1.here hx rfl (hb hby own_d78) rfl  k) ?_
  show OwnG p.tables e below _ (T1.setTop (mkF m 10 #[.val (.int p1), .val (.ref o_INDICATED), .val (.int (3 : Int32)), .val (.int (0 : Int32)), .unset] [(.int (0 : Int32))]))
  refine own_go (fun t k => XS.iloadN X1.here hx rfl (hb hby own_d79) rfl  k) ?_
  show OwnG p.tables e below _ (T1.setTop (mkF m 11 #[.val (.int p1), .val (.ref o_INDICATED), .val (.int (3 : Int32)), .val (.int (0 : Int32)), .unset] [(.int (3 : Int32)), (.int (0 : Int32))]))
  refine own_go (fun t k => XS.icmpNo X1.here hx rfl (hb hby own_d80) rfl (tlt (by decide : (0 : Int32) < (3 : Int32))).2.1 k) ?_
  show OwnG p.tables e below _ (T1.setTop (mkF m 14 #[.val (.int p1), .val (.ref o_INDICATED), .val (.int (3 : Int32)), .val (.int (0 : Int32)), .unset] []))
  refine own_go (fun t k => XS.aloadN X1.here hx rfl (hb hby own_d81) rfl rfl k) ?_
  show OwnG p.tables e below _ (T1.setTop (mkF m 15 #[.val (.int p1), .val (.ref o_INDICATED), .val (.int (3 : Int32)), .val (.int (0 : Int32)), .unset] [(.ref o_INDICATED)]))
  refine own_go (fun t k => XS.iloadN X1.here hx rfl (hb hby own_d82) rfl  k) ?_
  show OwnG p.tables e below _ (T1.setTop (mkF m 16 #[.val (.int p1), .val (.ref o_INDICATED), .val (.int (3 : Int32)), .val (.int (0 : Int32)), .unset] [(.int (0 : Int32)), (.ref o_INDICATED)]))
  have vv3 := (V_o_INDICATED.ext O0.2)
  obtain ⟨cl3, Ar3, qk3, Sz3, Nn3, Hs3, Gs3⟩ := vv3
  have hin3 : ¬ ((0 : Int32) < 0 ∨ cl3.slots.size ≤ ((0 : Int32)).toNatClampNeg) := inb_of Sz3 ⟨by decide, by decide⟩
  have hat3 : cl3.slots[((0 : Int32)).toNatClampNeg]? = some (.ref o_OPTIONAL) := Hs3.at hin3 rfl
  refine own_go (fun t k => (X1.aaload hx (j := (0 : Int32)) (v := (.ref o_OPTIONAL)) (by rw [e1]; exact Ar3.1) (State.isArrayOf_alike hZ.alike Ar3.2.1) rfl Ar3.2.2 hin3 hat3 (g := (mkF m 16 #[.val (.int p1), .val (.ref o_INDICATED), .val (.int (3 : Int32)), .val (.int (0 : Int32)), .unset] [(.int (0 : Int32)), (.ref o_INDICATED)])) rfl rfl (hb hby own_d83)) t k) ?_
  show OwnG p.tables e below _ (T1.setTop (mkF m 17 #[.val (.int p1), .val (.ref o_INDICATED), .val (.int (3 : Int32)), .val (.int (0 : Int32)), .unset] [(.ref o_OPTIONAL)]))
  refine own_go (fun t k => XS.astore X1.here hx rfl (hb hby own_d84) rfl rfl (l' := #[.val (.int p1), .val (.ref o_INDICATED), .val (.int (3 : Int32)), .val (.int (0 : Int32)), .val (.ref o_OPTIONAL)]) rfl k) ?_
  show OwnG p.tables e below _ (T1.setTop (mkF m 19 #[.val (.int p1), .val (.ref o_INDICATED), .val (.int (3 : Int32)), .val (.int (0 : Int32)), .val (.ref o_OPTIONAL)] []))
  refine own_go (fun t k => XS.aload X1.here hx rfl (hb hby own_d85) rfl rfl k) ?_
  show OwnG p.tables e below _ (T1.setTop (mkF m 21 #[.val (.int p1), .val (.ref o_INDICATED), .val (.int (3 : Int32)), .val (.int (0 : Int32)), .val (.ref o_OPTIONAL)] [(.ref o_OPTIONAL)]))
  obtain ⟨T4, X4, e4, st4⟩ := getF X1 hx hZ hown (host := "") (Or.inl (hw _ (List.mem_of_getElem? (i := 16) rfl))) Via.refl e1 (F_o_OPTIONAL_mark.ext O0.2) (g := (mkF m 21 #[.val (.int p1), .val (.ref o_INDICATED), .val (.int (3 : Int32)), .val (.int (0 : Int32)), .val (.ref o_OPTIONAL)] [(.ref o_OPTIONAL)])) rfl rfl (hb hby own_d86)
  refine own_go (fun t k => st4 t k) ?_
  show OwnG p.tables e below _ (T4.setTop (mkF m 24 #[.val (.int p1), .val (.ref o_INDICATED), .val (.int (3 : Int32)), .val (.int (0 : Int32)), .val (.ref o_OPTIONAL)] [(.int (63 : Int32))]))
  refine own_go (fun t k => XS.iloadN X4.here hx rfl (hb hby own_d87) rfl  k) ?_
  show OwnG p.tables e below _ (T4.setTop (mkF m 25 #[.val (.int p1), .val (.ref o_INDICATED), .val (.int (3 : Int32)), .val (.int (0 : Int32)), .val (.ref o_OPTIONAL)] [(.int p1), (.int (63 : Int32))]))
  by_cases hc5 : (63 : Int32) = p1
  · refine own_go (fun t k => XS.icmpNo X4.here hx rfl (hb hby own_d88) rfl (teq hc5).2 k) ?_
    show OwnG p.tables e below _ (T4.setTop (mkF m 28 #[.val (.int p1), .val (.ref o_INDICATED), .val (.int (3 : Int32)), .val (.int (0 : Int32)), .val (.ref o_OPTIONAL)] []))
    refine own_go (fun t k => XS.aload X4.here hx rfl (hb hby own_d89) rfl rfl k) ?_
    show OwnG p.tables e below _ (T4.setTop (mkF m 30 #[.val (.int p1), .val (.ref o_INDICATED), .val (.int (3 : Int32)), .val (.int (0 : Int32)), .val (.ref o_OPTIONAL)] [(.ref o_OPTIONAL)]))
    obtain ⟨fs, hr, hrun, hended, hW, hsame⟩ := X4.leave (v := some (.ref o_OPTIONAL)) (fun h => by rw [Bd.returns] at h; cases h)
    have hlast : Steps p.tables e below (T4.setTop (mkF m 30 #[.val (.int p1), .val (.ref o_INDICATED), .val (.int (3 : Int32)), .val (.int (0 : Int32)), .val (.ref o_OPTIONAL)] [(.ref o_OPTIONAL)])) (T4.setFrames fs) := by
      exact retOut X4 hx (t := (.object "com/example/vigilant_grammar/vigilantgrammar/ContentToken$Occurrence")) Bd.returns rfl (Or.inr (Or.inr (Or.inr (Or.inr ⟨rfl, rfl, rfl⟩)))) (hb hby own_d90) hr
    refine ⟨_, _, hlast, hrun, hended, _, _, rfl, ?_, ⟨_, rfl⟩, hW, hsame.mono (by decide) (by decide)⟩
    show Q_own_indicated Z p1 o_INDICATED o_OPTIONAL o_ZERO_OR_MORE o_ONE_OR_MORE o_ZERO_OR_MORE_symbol o_ZERO_OR_MORE_symbol_value o_OPTIONAL_symbol o_OPTIONAL_symbol_value o_ONE_OR_MORE_symbol o_ONE_OR_MORE_symbol_value i_COMPACT_STRINGS v_SIOOBE_FORMATTER kc_o_INDICATED kc_o_ZERO_OR_MORE_symbol_value kc_o_OPTIONAL_symbol_value kc_o_ONE_OR_MORE_symbol_value h0 n0 _ T4.heap _
    rw [e4]
    exact ⟨by simp [own_val, hc5.symm], N0, rfl⟩
  · refine own_go (fun t k => XS.icmpYes X4.here hx rfl (pc0 := 25) (pc' := 31) rfl (hb hby own_d88) rfl (feq hc5).2 (by decide) (by decide) k) ?_
    show OwnG p.tables e below _ (T4.setTop (mkF m 31 #[.val (.int p1), .val (.ref o_INDICATED), .val (.int (3 : Int32)), .val (.int (0 : Int32)), .val (.ref o_OPTIONAL)] []))
    refine own_go (fun t k => XS.iinc X4.here hx rfl (hb hby own_d91) rfl (l' := #[.val (.int p1), .val (.ref o_INDICATED), .val (.int (3 : Int32)), .val (.int ((0 : Int32) + (1 : Int32))), .val (.ref o_OPTIONAL)]) rfl k) ?_
    show OwnG p.tables e below _ (T4.setTop (mkF m 34 #[.val (.int p1), .val (.ref o_INDICATED), .val (.int (3 : Int32)), .val (.int ((0 : Int32) + (1 : Int32))), .val (.ref o_OPTIONAL)] []))
    rw [show ((0 : Int32) + (1 : Int32)) = (1 : Int32) from by decide]
    show OwnG p.tables e below _ (T4.setTop (mkF m 34 #[.val (.int p1), .val (.ref o_INDICATED), .val (.int (3 : Int32)), .val (.int (1 : Int32)), .val (.ref o_OPTIONAL)] []))
    refine own_go (fun t k => XS.goto X4.here hx rfl (pc0 := 34) (pc' := 9) rfl (hb hby own_d92) (by decide) (by decide) k) ?_
    show OwnG p.tables e below _ (T4.setTop (mkF m 9 #[.val (.int p1), .val (.ref o_INDICATED), .val (.int (3 : Int32)), .val (.int (1 : Int32)), .val (.ref o_OPTIONAL)] []))
    refine own_go (fun t k => XS.iloadN X4.here hx rfl (hb hby own_d78) rfl  k) ?_
    show OwnG p.tables e below _ (T4.setTop (mkF m 10 #[.val (.int p1), .val (.ref o_INDICATED), .val (.int (3 : Int32)), .val (.int (1 : Int32)), .val (.ref o_OPTIONAL)] [(.int (1 : Int32))]))
    refine own_go (fun t k => XS.iloadN X4.here hx rfl (hb hby own_d79) rfl  k) ?_
    show OwnG p.tables e below _ (T4.setTop (mkF m 11 #[.val (.int p1), .val (.ref o_INDICATED), .val (.int (3 : Int32)), .val (.int (1 : Int32)), .val (.ref o_OPTIONAL)] [(.int (3 : Int32)), (.int (1 : Int32))]))
    refine own_go (fun t k => XS.icmpNo X4.here hx rfl (hb hby own_d80) rfl (tlt (by decide : (1 : Int32) < (3 : Int32))).2.1 k) ?_
    show OwnG p.tables e below _ (T4.setTop (mkF m 14 #[.val (.int p1), .val (.ref o_INDICATED), .val (.int (3 : Int32)), .val (.int (1 : Int32)), .val (.ref o_OPTIONAL)] []))
    refine own_go (fun t k => XS.aloadN X4.here hx rfl (hb hby own_d81) rfl rfl k) ?_
    show OwnG p.tables e below _ (T4.setTop (mkF m 15 #[.val (.int p1), .val (.ref o_INDICATED), .val (.int (3 : Int32)), .val (.int (1 : Int32)), .val (.ref o_OPTIONAL)] [(.ref o_INDICATED)]))
    refine own_go (fun t k => XS.iloadN X4.here hx rfl (hb hby own_d82) rfl  k) ?_
    show OwnG p.tables e below _ (T4.setTop (mkF m 16 #[.val (.int p1), .val (.ref o_INDICATED), .val (.int (3 : Int32)), .val (.int (1 : Int32)), .val (.ref o_OPTIONAL)] [(.int (1 : Int32)), (.ref o_INDICATED)]))
    have vv6 := (V_o_INDICATED.ext O0.2)
    obtain ⟨cl6, Ar6, qk6, Sz6, Nn6, Hs6, Gs6⟩ := vv6
    have hin6 : ¬ ((1 : Int32) < 0 ∨ cl6.slots.size ≤ ((1 : Int32)).toNatClampNeg) := inb_of Sz6 ⟨by decide, by decide⟩
    have hat6 : cl6.slots[((1 : Int32)).toNatClampNeg]? = some (.ref o_ZERO_OR_MORE) := Hs6.at hin6 rfl
    refine own_go (fun t k => (X4.aaload hx (j := (1 : Int32)) (v := (.ref o_ZERO_OR_MORE)) (by rw [e4]; exact Ar6.1) (State.isArrayOf_alike hZ.alike Ar6.2.1) rfl Ar6.2.2 hin6 hat6 (g := (mkF m 16 #[.val (.int p1), .val (.ref o_INDICATED), .val (.int (3 : Int32)), .val (.int (1 : Int32)), .val (.ref o_OPTIONAL)] [(.int (1 : Int32)), (.ref o_INDICATED)])) rfl rfl (hb hby own_d83)) t k) ?_
    show OwnG p.tables e below _ (T4.setTop (mkF m 17 #[.val (.int p1), .val (.ref o_INDICATED), .val (.int (3 : Int32)), .val (.int (1 : Int32)), .val (.ref o_OPTIONAL)] [(.ref o_ZERO_OR_MORE)]))
    refine own_go (fun t k => XS.astore X4.here hx rfl (hb hby own_d84) rfl rfl (l' := #[.val (.int p1), .val (.ref o_INDICATED), .val (.int (3 : Int32)), .val (.int (1 : Int32)), .val (.ref o_ZERO_OR_MORE)]) rfl k) ?_
    show OwnG p.tables e below _ (T4.setTop (mkF m 19 #[.val (.int p1), .val (.ref o_INDICATED), .val (.int (3 : Int32)), .val (.int (1 : Int32)), .val (.ref o_ZERO_OR_MORE)] []))
    refine own_go (fun t k => XS.aload X4.here hx rfl (hb hby own_d85) rfl rfl k) ?_
    show OwnG p.tables e below _ (T4.setTop (mkF m 21 #[.val (.int p1), .val (.ref o_INDICATED), .val (.int (3 : Int32)), .val (.int (1 : Int32)), .val (.ref o_ZERO_OR_MORE)] [(.ref o_ZERO_OR_MORE)]))
    obtain ⟨T7, X7, e7, st7⟩ := getF X4 hx hZ hown (host := "") (Or.inl (hw _ (List.mem_of_getElem? (i := 16) rfl))) Via.refl e4 (F_o_ZERO_OR_MORE_mark.ext O0.2) (g := (mkF m 21 #[.val (.int p1), .val (.ref o_INDICATED), .val (.int (3 : Int32)), .val (.int (1 : Int32)), .val (.ref o_ZERO_OR_MORE)] [(.ref o_ZERO_OR_MORE)])) rfl rfl (hb hby own_d86)
    refine own_go (fun t k => st7 t k) ?_
    show OwnG p.tables e below _ (T7.setTop (mkF m 24 #[.val (.int p1), .val (.ref o_INDICATED), .val (.int (3 : Int32)), .val (.int (1 : Int32)), .val (.ref o_ZERO_OR_MORE)] [(.int (42 : Int32))]))
    refine own_go (fun t k => XS.iloadN X7.here hx rfl (hb hby own_d87) rfl  k) ?_
    show OwnG p.tables e below _ (T7.setTop (mkF m 25 #[.val (.int p1), .val (.ref o_INDICATED), .val (.int (3 : Int32)), .val (.int (1 : Int32)), .val (.ref o_ZERO_OR_MORE)] [(.int p1), (.int (42 : Int32))]))
    by_cases hc8 : (42 : Int32) = p1
    · refine own_go (fun t k => XS.icmpNo X7.here hx rfl (hb hby own_d88) rfl (teq hc8).2 k) ?_
      show OwnG p.tables e below _ (T7.setTop (mkF m 28 #[.val (.int p1), .val (.ref o_INDICATED), .val (.int (3 : Int32)), .val (.int (1 : Int32)), .val (.ref o_ZERO_OR_MORE)] []))
      refine own_go (fun t k => XS.aload X7.here hx rfl (hb hby own_d89) rfl rfl k) ?_
      show OwnG p.tables e below _ (T7.setTop (mkF m 30 #[.val (.int p1), .val (.ref o_INDICATED), .val (.int (3 : Int32)), .val (.int (1 : Int32)), .val (.ref o_ZERO_OR_MORE)] [(.ref o_ZERO_OR_MORE)]))
      obtain ⟨fs, hr, hrun, hended, hW, hsame⟩ := X7.leave (v := some (.ref o_ZERO_OR_MORE)) (fun h => by rw [Bd.returns] at h; cases h)
      have hlast : Steps p.tables e below (T7.setTop (mkF m 30 #[.val (.int p1), .val (.ref o_INDICATED), .val (.int (3 : Int32)), .val (.int (1 : Int32)), .val (.ref o_ZERO_OR_MORE)] [(.ref o_ZERO_OR_MORE)])) (T7.setFrames fs) := by
        exact retOut X7 hx (t := (.object "com/example/vigilant_grammar/vigilantgrammar/ContentToken$Occurrence")) Bd.returns rfl (Or.inr (Or.inr (Or.inr (Or.inr ⟨rfl, rfl, rfl⟩)))) (hb hby own_d90) hr
      refine ⟨_, _, hlast, hrun, hended, _, _, rfl, ?_, ⟨_, rfl⟩, hW, hsame.mono (by decide) (by decide)⟩
      show Q_own_indicated Z p1 o_INDICATED o_OPTIONAL o_ZERO_OR_MORE o_ONE_OR_MORE o_ZERO_OR_MORE_symbol o_ZERO_OR_MORE_symbol_value o_OPTIONAL_symbol o_OPTIONAL_symbol_value o_ONE_OR_MORE_symbol o_ONE_OR_MORE_symbol_value i_COMPACT_STRINGS v_SIOOBE_FORMATTER kc_o_INDICATED kc_o_ZERO_OR_MORE_symbol_value kc_o_OPTIONAL_symbol_value kc_o_ONE_OR_MORE_symbol_value h0 n0 _ T7.heap _
      rw [e7]
      exact ⟨by simp [own_val, Ne.symm hc5, hc8.symm], N0, rfl⟩
    · refine own_go (fun t k => XS.icmpYes X7.here hx rfl (pc0 := 25) (pc' := 31) rfl (hb hby own_d88) rfl (feq hc8).2 (by decide) (by decide) k) ?_
      show OwnG p.tables e below _ (T7.setTop (mkF m 31 #[.val (.int p1), .val (.ref o_INDICATED), .val (.int (3 : Int32)), .val (.int (1 : Int32)), .val (.ref o_ZERO_OR_MORE)] []))
      refine own_go (fun t k => XS.iinc X7.here hx rfl (hb hby own_d91) rfl (l' := #[.val (.int p1), .val (.ref o_INDICATED), .val (.int (3 : Int32)), .val (.int ((1 : Int32) + (1 : Int32))), .val (.ref o_ZERO_OR_MORE)]) rfl k) ?_
      show OwnG p.tables e below _ (T7.setTop (mkF m 34 #[.val (.int p1), .val (.ref o_INDICATED), .val (.int (3 : Int32)), .val (.int ((1 : Int32) + (1 : Int32))), .val (.ref o_ZERO_OR_MORE)] []))
      rw [show ((1 : Int32) + (1 : Int32)) = (2 : Int32) from by decide]
      show OwnG p.tables e below _ (T7.setTop (mkF m 34 #[.val (.int p1), .val (.ref o_INDICATED), .val (.int (3 : Int32)), .val (.int (2 : Int32)), .val (.ref o_ZERO_OR_MORE)] []))
      refine own_go (fun t k => XS.goto X7.here hx rfl (pc0 := 34) (pc' := 9) rfl (hb hby own_d92) (by decide) (by decide) k) ?_
      show OwnG p.tables e below _ (T7.setTop (mkF m 9 #[.val (.int p1), .val (.ref o_INDICATED), .val (.int (3 : Int32)), .val (.int (2 : Int32)), .val (.ref o_ZERO_OR_MORE)] []))
      refine own_go (fun t k => XS.iloadN X7.here hx rfl (hb hby own_d78) rfl  k) ?_
      show OwnG p.tables e below _ (T7.setTop (mkF m 10 #[.val (.int p1), .val (.ref o_INDICATED), .val (.int (3 : Int32)), .val (.int (2 : Int32)), .val (.ref o_ZERO_OR_MORE)] [(.int (2 : Int32))]))
      refine own_go (fun t k => XS.iloadN X7.here hx rfl (hb hby own_d79) rfl  k) ?_
      show OwnG p.tables e below _ (T7.setTop (mkF m 11 #[.val (.int p1), .val (.ref o_INDICATED), .val (.int (3 : Int32)), .val (.int (2 : Int32)), .val (.ref o_ZERO_OR_MORE)] [(.int (3 : Int32)), (.int (2 : Int32))]))
      refine own_go (fun t k => XS.icmpNo X7.here hx rfl (hb hby own_d80) rfl (tlt (by decide : (2 : Int32) < (3 : Int32))).2.1 k) ?_
      show OwnG p.tables e below _ (T7.setTop (mkF m 14 #[.val (.int p1), .val (.ref o_INDICATED), .val (.int (3 : Int32)), .val (.int (2 : Int32)), .val (.ref o_ZERO_OR_MORE)] []))
      refine own_go (fun t k => XS.aloadN X7.here hx rfl (hb hby own_d81) rfl rfl k) ?_
      show OwnG p.tables e below _ (T7.setTop (mkF m 15 #[.val (.int p1), .val (.ref o_INDICATED), .val (.int (3 : Int32)), .val (.int (2 : Int32)), .val (.ref o_ZERO_OR_MORE)] [(.ref o_INDICATED)]))
      refine own_go (fun t k => XS.iloadN X7.here hx rfl (hb hby own_d82) rfl  k) ?_
      show OwnG p.tables e below _ (T7.setTop (mkF m 16 #[.val (.int p1), .val (.ref o_INDICATED), .val (.int (3 : Int32)), .val (.int (2 : Int32)), .val (.ref o_ZERO_OR_MORE)] [(.int (2 : Int32)), (.ref o_INDICATED)]))
      have vv9 := (V_o_INDICATED.ext O0.2)
      obtain ⟨cl9, Ar9, qk9, Sz9, Nn9, Hs9, Gs9⟩ := vv9
      have hin9 : ¬ ((2 : Int32) < 0 ∨ cl9.slots.size ≤ ((2 : Int32)).toNatClampNeg) := inb_of Sz9 ⟨by decide, by decide⟩
      have hat9 : cl9.slots[((2 : Int32)).toNatClampNeg]? = some (.ref o_ONE_OR_MORE) := Hs9.at hin9 rfl
      refine own_go (fun t k => (X7.aaload hx (j := (2 : Int32)) (v := (.ref o_ONE_OR_MORE)) (by rw [e7]; exact Ar9.1) (State.isArrayOf_alike hZ.alike Ar9.2.1) rfl Ar9.2.2 hin9 hat9 (g := (mkF m 16 #[.val (.int p1), .val (.ref o_INDICATED), .val (.int (3 : Int32)), .val (.int (2 : Int32)), .val (.ref o_ZERO_OR_MORE)] [(.int (2 : Int32)), (.ref o_INDICATED)])) rfl rfl (hb hby own_d83)) t k) ?_
      show OwnG p.tables e below _ (T7.setTop (mkF m 17 #[.val (.int p1), .val (.ref o_INDICATED), .val (.int (3 : Int32)), .val (.int (2 : Int32)), .val (.ref o_ZERO_OR_MORE)] [(.ref o_ONE_OR_MORE)]))
      refine own_go (fun t k => XS.astore X7.here hx rfl (hb hby own_d84) rfl rfl (l' := #[.val (.int p1), .val (.ref o_INDICATED), .val (.int (3 : Int32)), .val (.int (2 : Int32)), .val (.ref o_ONE_OR_MORE)]) rfl k) ?_
      show OwnG p.tables e below _ (T7.setTop (mkF m 19 #[.val (.int p1), .val (.ref o_INDICATED), .val (.int (3 : Int32)), .val (.int (2 : Int32)), .val (.ref o_ONE_OR_MORE)] []))
      refine own_go (fun t k => XS.aload X7.here hx rfl (hb hby own_d85) rfl rfl k) ?_
      show OwnG p.tables e below _ (T7.setTop (mkF m 21 #[.val (.int p1), .val (.ref o_INDICATED), .val (.int (3 : Int32)), .val (.int (2 : Int32)), .val (.ref o_ONE_OR_MORE)] [(.ref o_ONE_OR_MORE)]))
      obtain ⟨T10, X10, e10, st10⟩ := getF X7 hx hZ hown (host := "") (Or.inl (hw _ (List.mem_of_getElem? (i := 16) rfl))) Via.refl e7 (F_o_ONE_OR_MORE_mark.ext O0.2) (g := (mkF m 21 #[.val (.int p1), .val (.ref o_INDICATED), .val (.int (3 : Int32)), .val (.int (2 : Int32)), .val (.ref o_ONE_OR_MORE)] [(.ref o_ONE_OR_MORE)])) rfl rfl (hb hby own_d86)
      refine own_go (fun t k => st10 t k) ?_
      show OwnG p.tables e below _ (T10.setTop (mkF m 24 #[.val (.int p1), .val (.ref o_INDICATED), .val (.int (3 : Int32)), .val (.int (2 : Int32)), .val (.ref o_ONE_OR_MORE)] [(.int (43 : Int32))]))
      refine own_go (fun t k => XS.iloadN X10.here hx rfl (hb hby own_d87) rfl  k) ?_
      show OwnG p.tables e below _ (T10.setTop (mkF m 25 #[.val (.int p1), .val (.ref o_INDICATED), .val (.int (3 : Int32)), .val (.int (2 : Int32)), .val (.ref o_ONE_OR_MORE)] [(.int p1), (.int (43 : Int32))]))
      by_cases hc11 : (43 : Int32) = p1
      · refine own_go (fun t k => XS.icmpNo X10.here hx rfl (hb hby own_d88) rfl (teq hc11).2 k) ?_
        show OwnG p.tables e below _ (T10.setTop (mkF m 28 #[.val (.int p1), .val (.ref o_INDICATED), .val (.int (3 : Int32)), .val (.int (2 : Int32)), .val (.ref o_ONE_OR_MORE)] []))
        refine own_go (fun t k => XS.aload X10.here hx rfl (hb hby own_d89) rfl rfl k) ?_
        show OwnG p.tables e below _ (T10.setTop (mkF m 30 #[.val (.int p1), .val (.ref o_INDICATED), .val (.int (3 : Int32)), .val (.int (2 : Int32)), .val (.ref o_ONE_OR_MORE)] [(.ref o_ONE_OR_MORE)]))
        obtain ⟨fs, hr, hrun, hended, hW, hsame⟩ := X10.leave (v := some (.ref o_ONE_OR_MORE)) (fun h => by rw [Bd.returns] at h; cases h)
        have hlast : Steps p.tables e below (T10.setTop (mkF m 30 #[.val (.int p1), .val (.ref o_INDICATED), .val (.int (3 : Int32)), .val (.int (2 : Int32)), .val (.ref o_ONE_OR_MORE)] [(.ref o_ONE_OR_MORE)])) (T10.setFrames fs) := by
          exact retOut X10 hx (t := (.object "com/example/vigilant_grammar/vigilantgrammar/ContentToken$Occurrence")) Bd.returns rfl (Or.inr (Or.inr (Or.inr (Or.inr ⟨rfl, rfl, rfl⟩)))) (hb hby own_d90) hr
        refine ⟨_, _, hlast, hrun, hended, _, _, rfl, ?_, ⟨_, rfl⟩, hW, hsame.mono (by decide) (by decide)⟩
        show Q_own_indicated Z p1 o_INDICATED o_OPTIONAL o_ZERO_OR_MORE o_ONE_OR_MORE o_ZERO_OR_MORE_symbol o_ZERO_OR_MORE_symbol_value o_OPTIONAL_symbol o_OPTIONAL_symbol_value o_ONE_OR_MORE_symbol o_ONE_OR_MORE_symbol_value i_COMPACT_STRINGS v_SIOOBE_FORMATTER kc_o_INDICATED kc_o_ZERO_OR_MORE_symbol_value kc_o_OPTIONAL_symbol_value kc_o_ONE_OR_MORE_symbol_value h0 n0 _ T10.heap _
        rw [e10]
        exact ⟨by simp [own_val, Ne.symm hc5, Ne.symm hc8, hc11.symm], N0, rfl⟩
      · refine own_go (fun t k => XS.icmpYes X10.here hx rfl (pc0 := 25) (pc' := 31) rfl (hb hby own_d88) rfl (feq hc11).2 (by decide) (by decide) k) ?_
        show OwnG p.tables e below _ (T10.setTop (mkF m 31 #[.val (.int p1), .val (.ref o_INDICATED), .val (.int (3 : Int32)), .val (.int (2 : Int32)), .val (.ref o_ONE_OR_MORE)] []))
        refine own_go (fun t k => XS.iinc X10.here hx rfl (hb hby own_d91) rfl (l' := #[.val (.int p1), .val (.ref o_INDICATED), .val (.int (3 : Int32)), .val (.int ((2 : Int32) + (1 : Int32))), .val (.ref o_ONE_OR_MORE)]) rfl k) ?_
        show OwnG p.tables e below _ (T10.setTop (mkF m 34 #[.val (.int p1), .val (.ref o_INDICATED), .val (.int (3 : Int32)), .val (.int ((2 : Int32) + (1 : Int32))), .val (.ref o_ONE_OR_MORE)] []))
        rw [show ((2 : Int32) + (1 : Int32)) = (3 : Int32) from by decide]
        show OwnG p.tables e below _ (T10.setTop (mkF m 34 #[.val (.int p1), .val (.ref o_INDICATED), .val (.int (3 : Int32)), .val (.int (3 : Int32)), .val (.ref o_ONE_OR_MORE)] []))
        refine own_go (fun t k => XS.goto X10.here hx rfl (pc0 := 34) (pc' := 9) rfl (hb hby own_d92) (by decide) (by decide) k) ?_
        show OwnG p.tables e below _ (T10.setTop (mkF m 9 #[.val (.int p1), .val (.ref o_INDICATED), .val (.int (3 : Int32)), .val (.int (3 : Int32)), .val (.ref o_ONE_OR_MORE)] []))
        refine own_go (fun t k => XS.iloadN X10.here hx rfl (hb hby own_d78) rfl  k) ?_
        show OwnG p.tables e below _ (T10.setTop (mkF m 10 #[.val (.int p1), .val (.ref o_INDICATED), .val (.int (3 : Int32)), .val (.int (3 : Int32)), .val (.ref o_ONE_OR_MORE)] [(.int (3 : Int32))]))
        refine own_go (fun t k => XS.iloadN X10.here hx rfl (hb hby own_d79) rfl  k) ?_
        show OwnG p.tables e below _ (T10.setTop (mkF m 11 #[.val (.int p1), .val (.ref o_INDICATED), .val (.int (3 : Int32)), .val (.int (3 : Int32)), .val (.ref o_ONE_OR_MORE)] [(.int (3 : Int32)), (.int (3 : Int32))]))
        refine own_go (fun t k => XS.icmpYes X10.here hx rfl (pc0 := 11) (pc' := 37) rfl (hb hby own_d80) rfl (flt (by decide : ¬ ((3 : Int32) < (3 : Int32)))).2.1 (by decide) (by decide) k) ?_
        show OwnG p.tables e below _ (T10.setTop (mkF m 37 #[.val (.int p1), .val (.ref o_INDICATED), .val (.int (3 : Int32)), .val (.int (3 : Int32)), .val (.ref o_ONE_OR_MORE)] []))
        refine own_go (fun t k => XS.aconstNull X10.here hx rfl (hb hby own_d93) k) ?_
        show OwnG p.tables e below _ (T10.setTop (mkF m 38 #[.val (.int p1), .val (.ref o_INDICATED), .val (.int (3 : Int32)), .val (.int (3 : Int32)), .val (.ref o_ONE_OR_MORE)] [.null]))
        obtain ⟨fs, hr, hrun, hended, hW, hsame⟩ := X10.leave (v := some .null) (fun h => by rw [Bd.returns] at h; cases h)
        have hlast : Steps p.tables e below (T10.setTop (mkF m 38 #[.val (.int p1), .val (.ref o_INDICATED), .val (.int (3 : Int32)), .val (.int (3 : Int32)), .val (.ref o_ONE_OR_MORE)] [.null])) (T10.setFrames fs) := by
          exact retOut X10 hx (t := (.object "com/example/vigilant_grammar/vigilantgrammar/ContentToken$Occurrence")) Bd.returns rfl (Or.inr (Or.inr (Or.inr (Or.inr ⟨rfl, rfl, rfl⟩)))) (hb hby own_d94) hr
        refine ⟨_, _, hlast, hrun, hended, _, _, rfl, ?_, ⟨_, rfl⟩, hW, hsame.mono (by decide) (by decide)⟩
        show Q_own_indicated Z p1 o_INDICATED o_OPTIONAL o_ZERO_OR_MORE o_ONE_OR_MORE o_ZERO_OR_MORE_symbol o_ZERO_OR_MORE_symbol_value o_OPTIONAL_symbol o_OPTIONAL_symbol_value o_ONE_OR_MORE_symbol o_ONE_OR_MORE_symbol_value i_COMPACT_STRINGS v_SIOOBE_FORMATTER kc_o_INDICATED kc_o_ZERO_OR_MORE_symbol_value kc_o_OPTIONAL_symbol_value kc_o_ONE_OR_MORE_symbol_value h0 n0 _ T10.heap _
        rw [e10]
        exact ⟨by simp [own_val, Ne.symm hc5, Ne.symm hc8, Ne.symm hc11], N0, rfl⟩
theorem own_ef95 (m : MethodId) (p1 : Int32) : entryFrame m #[(.int p1)] 1 = mkF m 0 #[.val (.int p1)] [] := by first | (simp [entryFrame, mkF, argsToLocals, Value.category]; done) | rfl
theorem own_pn96 : plainName "com/example/vigilant_grammar/vigilantgrammar/OccurrenceIndicatedByPinLaw" = true := by first | (simp [plainName, overriddenIn]; done) | decide +kernel
theorem own_d97 : decode method_3_code 0 = .ok (.iload_n 0, 1) := by decide +kernel
theorem own_d98 : decode method_3_code 1 = .ok (.bipush 63, 2) := by decide +kernel
theorem own_d99 : decode method_3_code 3 = .ok (.if_icmp .ne 7, 3) := by decide +kernel
theorem own_d100 : decode method_3_code 6 = .ok (.getstatic 19, 3) := by decide +kernel
theorem own_d101 : decode method_3_code 9 = .ok (.areturn, 1) := by decide +kernel
theorem own_d102 : decode method_3_code 10 = .ok (.iload_n 0, 1) := by decide +kernel
theorem own_d103 : decode method_3_code 11 = .ok (.bipush 42, 2) := by decide +kernel
theorem own_d104 : decode method_3_code 13 = .ok (.if_icmp .ne 7, 3) := by decide +kernel
theorem own_d105 : decode method_3_code 16 = .ok (.getstatic 25, 3) := by decide +kernel
theorem own_d106 : decode method_3_code 19 = .ok (.areturn, 1) := by decide +kernel
theorem own_d107 : decode method_3_code 20 = .ok (.iload_n 0, 1) := by decide +kernel
theorem own_d108 : decode method_3_code 21 = .ok (.bipush 43, 2) := by decide +kernel
theorem own_d109 : decode method_3_code 23 = .ok (.if_icmp .ne 7, 3) := by decide +kernel
theorem own_d110 : decode method_3_code 26 = .ok (.getstatic 28, 3) := by decide +kernel
theorem own_d111 : decode method_3_code 29 = .ok (.areturn, 1) := by decide +kernel
theorem own_d112 : decode method_3_code 30 = .ok (.aconst_null, 1) := by decide +kernel
theorem own_d113 : decode method_3_code 31 = .ok (.areturn, 1) := by decide +kernel
def Q_own_expected (Z : State) (p1 : Int32) (o_INDICATED : Addr) (o_OPTIONAL : Addr) (o_ZERO_OR_MORE : Addr) (o_ONE_OR_MORE : Addr) (o_ZERO_OR_MORE_symbol : Addr) (o_ZERO_OR_MORE_symbol_value : Addr) (o_OPTIONAL_symbol : Addr) (o_OPTIONAL_symbol_value : Addr) (o_ONE_OR_MORE_symbol : Addr) (o_ONE_OR_MORE_symbol_value : Addr) (i_COMPACT_STRINGS : Int32) (v_SIOOBE_FORMATTER : Value) (kc_o_INDICATED : ClassId) (kc_o_ZERO_OR_MORE_symbol_value : ClassId) (kc_o_OPTIONAL_symbol_value : ClassId) (kc_o_ONE_OR_MORE_symbol_value : ClassId) (h0 : Heap) (n0 : Nat) (v : Option Value) (h : Heap) (L : List Loc) : Prop := v = some (own_val p1 o_OPTIONAL o_ZERO_OR_MORE o_ONE_OR_MORE) ∧ Fr n0 L ∧ h = h0
set_option maxRecDepth 65536 in
set_option maxHeartbeats 40000000 in
theorem own_expected (l : Launch) (Z : State) (a0 : Array Value) (hw : ∀ d ∈ tables_1, d.before a0 Z = true) (ws : List Jvm.Cond) (p1 : Int32) (o_INDICATED : Addr) (o_OPTIONAL : Addr) (o_ZERO_OR_MORE : Addr) (o_ONE_OR_MORE : Addr) (o_ZERO_OR_MORE_symbol : Addr) (o_ZERO_OR_MORE_symbol_value : Addr) (o_OPTIONAL_symbol : Addr) (o_OPTIONAL_symbol_value : Addr) (o_ONE_OR_MORE_symbol : Addr) (o_ONE_OR_MORE_symbol_value : Addr) (i_COMPACT_STRINGS : Int32) (v_SIOOBE_FORMATTER : Value) (kc_o_INDICATED : ClassId) (kc_o_ZERO_OR_MORE_symbol_value : ClassId) (kc_o_OPTIONAL_symbol_value : ClassId) (kc_o_ONE_OR_MORE_symbol_value : ClassId) (h0 : Heap) (n0 : Nat) (Z0 : n0 ≤ h0.size) (O0 : Old Z n0 h0) (S_INDICATED : Sta Z Z.heap "com/example/vigilant_grammar/vigilantgrammar/ContentToken$Occurrence" "INDICATED" "[Lcom/example/vigilant_grammar/vigilantgrammar/ContentToken$Occurrence;" (.ref o_INDICATED)) (S_OPTIONAL : Sta Z Z.heap "com/example/vigilant_grammar/vigilantgrammar/ContentToken$Occurrence" "OPTIONAL" "Lcom/example/vigilant_grammar/vigilantgrammar/ContentToken$Occurrence;" (.ref o_OPTIONAL)) (E_o_OPTIONAL : Exa Z Z.heap o_OPTIONAL "com/example/vigilant_grammar/vigilantgrammar/ContentToken$Occurrence") (F_o_OPTIONAL_mark : Fld Z Z.heap o_OPTIONAL "com/example/vigilant_grammar/vigilantgrammar/ContentToken$Occurrence" "mark" "I" (.int (63 : Int32))) (S_ZERO_OR_MORE : Sta Z Z.heap "com/example/vigilant_grammar/vigilantgrammar/ContentToken$Occurrence" "ZERO_OR_MORE" "Lcom/example/vigilant_grammar/vigilantgrammar/ContentToken$Occurrence;" (.ref o_ZERO_OR_MORE)) (E_o_ZERO_OR_MORE : Exa Z Z.heap o_ZERO_OR_MORE "com/example/vigilant_grammar/vigilantgrammar/ContentToken$Occurrence") (F_o_ZERO_OR_MORE_mark : Fld Z Z.heap o_ZERO_OR_MORE "com/example/vigilant_grammar/vigilantgrammar/ContentToken$Occurrence" "mark" "I" (.int (42 : Int32))) (S_ONE_OR_MORE : Sta Z Z.heap "com/example/vigilant_grammar/vigilantgrammar/ContentToken$Occurrence" "ONE_OR_MORE" "Lcom/example/vigilant_grammar/vigilantgrammar/ContentToken$Occurrence;" (.ref o_ONE_OR_MORE)) (E_o_ONE_OR_MORE : Exa Z Z.heap o_ONE_OR_MORE "com/example/vigilant_grammar/vigilantgrammar/ContentToken$Occurrence") (F_o_ONE_OR_MORE_mark : Fld Z Z.heap o_ONE_OR_MORE "com/example/vigilant_grammar/vigilantgrammar/ContentToken$Occurrence" "mark" "I" (.int (43 : Int32))) (F_o_ZERO_OR_MORE_symbol : Fld Z Z.heap o_ZERO_OR_MORE "com/example/vigilant_grammar/vigilantgrammar/ContentToken$Occurrence" "symbol" "Ljava/lang/String;" (.ref o_ZERO_OR_MORE_symbol)) (E_o_ZERO_OR_MORE_symbol : Exa Z Z.heap o_ZERO_OR_MORE_symbol "java/lang/String") (F_o_ZERO_OR_MORE_symbol_value : Fld Z Z.heap o_ZERO_OR_MORE_symbol "java/lang/String" "value" "[B" (.ref o_ZERO_OR_MORE_symbol_value)) (F_o_ZERO_OR_MORE_symbol_coder : Fld Z Z.heap o_ZERO_OR_MORE_symbol "java/lang/String" "coder" "B" (.int (0 : Int32))) (F_o_OPTIONAL_symbol : Fld Z Z.heap o_OPTIONAL "com/example/vigilant_grammar/vigilantgrammar/ContentToken$Occurrence" "symbol" "Ljava/lang/String;" (.ref o_OPTIONAL_symbol)) (E_o_OPTIONAL_symbol : Exa Z Z.heap o_OPTIONAL_symbol "java/lang/String") (F_o_OPTIONAL_symbol_value : Fld Z Z.heap o_OPTIONAL_symbol "java/lang/String" "value" "[B" (.ref o_OPTIONAL_symbol_value)) (F_o_OPTIONAL_symbol_coder : Fld Z Z.heap o_OPTIONAL_symbol "java/lang/String" "coder" "B" (.int (0 : Int32))) (F_o_ONE_OR_MORE_symbol : Fld Z Z.heap o_ONE_OR_MORE "com/example/vigilant_grammar/vigilantgrammar/ContentToken$Occurrence" "symbol" "Ljava/lang/String;" (.ref o_ONE_OR_MORE_symbol)) (E_o_ONE_OR_MORE_symbol : Exa Z Z.heap o_ONE_OR_MORE_symbol "java/lang/String") (F_o_ONE_OR_MORE_symbol_value : Fld Z Z.heap o_ONE_OR_MORE_symbol "java/lang/String" "value" "[B" (.ref o_ONE_OR_MORE_symbol_value)) (F_o_ONE_OR_MORE_symbol_coder : Fld Z Z.heap o_ONE_OR_MORE_symbol "java/lang/String" "coder" "B" (.int (0 : Int32))) (S_COMPACT_STRINGS : Sta Z Z.heap "java/lang/String" "COMPACT_STRINGS" "Z" (.int i_COMPACT_STRINGS)) (nz_i_COMPACT_STRINGS : i_COMPACT_STRINGS ≠ (0 : Int32)) (S_SIOOBE_FORMATTER : Sta Z Z.heap "jdk/internal/util/Preconditions" "SIOOBE_FORMATTER" "Ljava/util/function/BiFunction;" v_SIOOBE_FORMATTER) (ir_v_SIOOBE_FORMATTER : v_SIOOBE_FORMATTER.isRef = true) (V_o_INDICATED : Arv Z Z.heap o_INDICATED kc_o_INDICATED (.object "com/example/vigilant_grammar/vigilantgrammar/ContentToken$Occurrence") (3 : Int32) [(.ref o_OPTIONAL), (.ref o_ZERO_OR_MORE), (.ref o_ONE_OR_MORE)] .null) (V_o_ZERO_OR_MORE_symbol_value : Arv Z Z.heap o_ZERO_OR_MORE_symbol_value kc_o_ZERO_OR_MORE_symbol_value .byte (1 : Int32) [(.int (42 : Int32))] (.int (0 : Int32))) (V_o_OPTIONAL_symbol_value : Arv Z Z.heap o_OPTIONAL_symbol_value kc_o_OPTIONAL_symbol_value .byte (1 : Int32) [(.int (63 : Int32))] (.int (0 : Int32))) (V_o_ONE_OR_MORE_symbol_value : Arv Z Z.heap o_ONE_OR_MORE_symbol_value kc_o_ONE_OR_MORE_symbol_value .byte (1 : Int32) [(.int (43 : Int32))] (.int (0 : Int32))) :
    MetFree l (⟨"com/example/vigilant_grammar/vigilantgrammar/OccurrenceIndicatedByPinLaw", "expected", "(I)Lcom/example/vigilant_grammar/vigilantgrammar/ContentToken$Occurrence;"⟩ : MethodName) (head1 (Jvm.Cond.code (⟨"com/example/vigilant_grammar/vigilantgrammar/OccurrenceIndicatedByPinLaw", "expected", "(I)Lcom/example/vigilant_grammar/vigilantgrammar/ContentToken$Occurrence;"⟩ : MethodName) method_3_code 1 (some (.object "com/example/vigilant_grammar/vigilantgrammar/ContentToken$Occurrence")) :: ws) ({ frames := 0, cells := 0, slots := 0, locals := 0 } : Room)) (fun a U => a = #[(.int p1)] ∧ Z.Warmed39 U.vm ∧ U.heap = h0) (fun _ _ _ _ _ => True) (fun _ U o U' => ∃ v L, o = .returned v ∧ Q_own_expected Z p1 o_INDICATED o_OPTIONAL o_ZERO_OR_MORE o_ONE_OR_MORE o_ZERO_OR_MORE_symbol o_ZERO_OR_MORE_symbol_value o_OPTIONAL_symbol o_OPTIONAL_symbol_value o_ONE_OR_MORE_symbol o_ONE_OR_MORE_symbol_value i_COMPACT_STRINGS v_SIOOBE_FORMATTER kc_o_INDICATED kc_o_ZERO_OR_MORE_symbol_value kc_o_OPTIONAL_symbol_value kc_o_ONE_OR_MORE_symbol_value h0 n0 v U'.heap L ∧ FrameEnd U o U' L ({ frames := 0, cells := 0, slots := 0, locals := 0 } : Room).cells ({ frames := 0, cells := 0, slots := 0, locals := 0 } : Room).slots) := by
  refine MetFree.of_bodySF (plainFor_of_name own_pn96) hisR ?_
  intro p e s m args below meth c s₁ Bd hml0 hP hK
  obtain ⟨rfl, hZ, hh⟩ := hP
  have hx := Bd.exec
  have hby := Bd.bytes
  have hml : c.maxLocals = 1 := hml0
  have hown : s.vm.findClass "com/example/vigilant_grammar/vigilantgrammar/OccurrenceIndicatedByPinLaw" = some m.cls := findClass_of_methodNamed Bd.named
  have hnm := (name_of_methodNamed Bd.named Bd.method).1
  have X0 : Stand p l e ({ frames := 0, cells := 0, slots := 0, locals := 0 } : Room) s m #[(.int p1)] below meth c s₁ [] 0 0 := Stand.of_body Bd
  have e0 : s₁.heap = h0 := by rw [← hh, Bd.state]; rfl
  have N0 := Fr.nil n0
  have K0 := Keep.refl h0 []
  refine own_go (fun t k => castTop (own_ef95 m p1) k) ?_
  show OwnG p.tables e below _ (s₁.setTop (mkF m 0 #[.val (.int p1)] []))
  refine own_go (fun t k => XS.iloadN X0.here hx rfl (hb hby own_d97) rfl  k) ?_
  show OwnG p.tables e below _ (s₁.setTop (mkF m 1 #[.val (.int p1)] [(.int p1)]))
  refine own_go (fun t k => XS.bipush X0.here hx rfl (hb hby own_d98) k) ?_
  show OwnG p.tables e below _ (s₁.setTop (mkF m 3 #[.val (.int p1)] [(.int (63 : Int32)), (.int p1)]))
  by_cases hc1 : p1 = (63 : Int32)
  · refine own_go (fun t k => XS.icmpNo X0.here hx rfl (hb hby own_d99) rfl (teq hc1).2 k) ?_
    show OwnG p.tables e below _ (s₁.setTop (mkF m 6 #[.val (.int p1)] []))
    obtain ⟨T2, X2, e2, st2⟩ := getS2 X0 hx hZ hown (host := "") (Or.inl (hw _ (List.mem_of_getElem? (i := 69) rfl))) Via.refl e0 (S_OPTIONAL.ext O0.2) (g := (mkF m 6 #[.val (.int p1)] [])) rfl (hb hby own_d100)
    refine own_go (fun t k => st2 t k) ?_
    show OwnG p.tables e below _ (T2.setTop (mkF m 9 #[.val (.int p1)] [(.ref o_OPTIONAL)]))
    obtain ⟨fs, hr, hrun, hended, hW, hsame⟩ := X2.leave (v := some (.ref o_OPTIONAL)) (fun h => by rw [Bd.returns] at h; cases h)
    have hlast : Steps p.tables e below (T2.setTop (mkF m 9 #[.val (.int p1)] [(.ref o_OPTIONAL)])) (T2.setFrames fs) := by
      exact retOut X2 hx (t := (.object "com/example/vigilant_grammar/vigilantgrammar/ContentToken$Occurrence")) Bd.returns rfl (Or.inr (Or.inr (Or.inr (Or.inr ⟨rfl, rfl, rfl⟩)))) (hb hby own_d101) hr
    refine ⟨_, _, hlast, hrun, hended, _, _, rfl, ?_, ⟨_, rfl⟩, hW, hsame.mono (by decide) (by decide)⟩
    show Q_own_expected Z p1 o_INDICATED o_OPTIONAL o_ZERO_OR_MORE o_ONE_OR_MORE o_ZERO_OR_MORE_symbol o_ZERO_OR_MORE_symbol_value o_OPTIONAL_symbol o_OPTIONAL_symbol_value o_ONE_OR_MORE_symbol o_ONE_OR_MORE_symbol_value i_COMPACT_STRINGS v_SIOOBE_FORMATTER kc_o_INDICATED kc_o_ZERO_OR_MORE_symbol_value kc_o_OPTIONAL_symbol_value kc_o_ONE_OR_MORE_symbol_value h0 n0 _ T2.heap _
    rw [e2]
    exact ⟨by simp [own_val, hc1], N0, rfl⟩
  · refine own_go (fun t k => XS.icmpYes X0.here hx rfl (pc0 := 3) (pc' := 10) rfl (hb hby own_d99) rfl (feq hc1).2 (by decide) (by decide) k) ?_
    show OwnG p.tables e below _ (s₁.setTop (mkF m 10 #[.val (.int p1)] []))
    refine own_go (fun t k => XS.iloadN X0.here hx rfl (hb hby own_d102) rfl  k) ?_
    show OwnG p.tables e below _ (s₁.setTop (mkF m 11 #[.val (.int p1)] [(.int p1)]))
    refine own_go (fun t k => XS.bipush X0.here hx rfl (hb hby own_d103) k) ?_
    show OwnG p.tables e below _ (s₁.setTop (mkF m 13 #[.val (.int p1)] [(.int (42 : Int32)), (.int p1)]))
    by_cases hc3 : p1 = (42 : Int32)
    · refine own_go (fun t k => XS.icmpNo X0.here hx rfl (hb hby own_d104) rfl (teq hc3).2 k) ?_
      show OwnG p.tables e below _ (s₁.setTop (mkF m 16 #[.val (.int p1)] []))
      obtain ⟨T4, X4, e4, st4⟩ := getS2 X0 hx hZ hown (host := "") (Or.inl (hw _ (List.mem_of_getElem? (i := 23) rfl))) Via.refl e0 (S_ZERO_OR_MORE.ext O0.2) (g := (mkF m 16 #[.val (.int p1)] [])) rfl (hb hby own_d105)
      refine own_go (fun t k => st4 t k) ?_
      show OwnG p.tables e below _ (T4.setTop (mkF m 19 #[.val (.int p1)] [(.ref o_ZERO_OR_MORE)]))
      obtain ⟨fs, hr, hrun, hended, hW, hsame⟩ := X4.leave (v := some (.ref o_ZERO_OR_MORE)) (fun h => by rw [Bd.returns] at h; cases h)
      have hlast : Steps p.tables e below (T4.setTop (mkF m 19 #[.val (.int p1)] [(.ref o_ZERO_OR_MORE)])) (T4.setFrames fs) := by
        exact retOut X4 hx (t := (.object "com/example/vigilant_grammar/vigilantgrammar/ContentToken$Occurrence")) Bd.returns rfl (Or.inr (Or.inr (Or.inr (Or.inr ⟨rfl, rfl, rfl⟩)))) (hb hby own_d106) hr
      refine ⟨_, _, hlast, hrun, hended, _, _, rfl, ?_, ⟨_, rfl⟩, hW, hsame.mono (by decide) (by decide)⟩
      show Q_own_expected Z p1 o_INDICATED o_OPTIONAL o_ZERO_OR_MORE o_ONE_OR_MORE o_ZERO_OR_MORE_symbol o_ZERO_OR_MORE_symbol_value o_OPTIONAL_symbol o_OPTIONAL_symbol_value o_ONE_OR_MORE_symbol o_ONE_OR_MORE_symbol_value i_COMPACT_STRINGS v_SIOOBE_FORMATTER kc_o_INDICATED kc_o_ZERO_OR_MORE_symbol_value kc_o_OPTIONAL_symbol_value kc_o_ONE_OR_MORE_symbol_value h0 n0 _ T4.heap _
      rw [e4]
      exact ⟨by simp [own_val, hc1, hc3], N0, rfl⟩
    · refine own_go (fun t k => XS.icmpYes X0.here hx rfl (pc0 := 13) (pc' := 20) rfl (hb hby own_d104) rfl (feq hc3).2 (by decide) (by decide) k) ?_
      show OwnG p.tables e below _ (s₁.setTop (mkF m 20 #[.val (.int p1)] []))
      refine own_go (fun t k => XS.iloadN X0.here hx rfl (hb hby own_d107) rfl  k) ?_
      show OwnG p.tables e below _ (s₁.setTop (mkF m 21 #[.val (.int p1)] [(.int p1)]))
      refine own_go (fun t k => XS.bipush X0.here hx rfl (hb hby own_d108) k) ?_
      show OwnG p.tables e below _ (s₁.setTop (mkF m 23 #[.val (.int p1)] [(.int (43 : Int32)), (.int p1)]))
      by_cases hc5 : p1 = (43 : Int32)
      · refine own_go (fun t k => XS.icmpNo X0.here hx rfl (hb hby own_d109) rfl (teq hc5).2 k) ?_
        show OwnG p.tables e below _ (s₁.setTop (mkF m 26 #[.val (.int p1)] []))
        obtain ⟨T6, X6, e6, st6⟩ := getS2 X0 hx hZ hown (host := "") (Or.inl (hw _ (List.mem_of_getElem? (i := 70) rfl))) Via.refl e0 (S_ONE_OR_MORE.ext O0.2) (g := (mkF m 26 #[.val (.int p1)] [])) rfl (hb hby own_d110)
        refine own_go (fun t k => st6 t k) ?_
        show OwnG p.tables e below _ (T6.setTop (mkF m 29 #[.val (.int p1)] [(.ref o_ONE_OR_MORE)]))
        obtain ⟨fs, hr, hrun, hended, hW, hsame⟩ := X6.leave (v := some (.ref o_ONE_OR_MORE)) (fun h => by rw [Bd.returns] at h; cases h)
        have hlast : Steps p.tables e below (T6.setTop (mkF m 29 #[.val (.int p1)] [(.ref o_ONE_OR_MORE)])) (T6.setFrames fs) := by
          exact retOut X6 hx (t := (.object "com/example/vigilant_grammar/vigilantgrammar/ContentToken$Occurrence")) Bd.returns rfl (Or.inr (Or.inr (Or.inr (Or.inr ⟨rfl, rfl, rfl⟩)))) (hb hby own_d111) hr
        refine ⟨_, _, hlast, hrun, hended, _, _, rfl, ?_, ⟨_, rfl⟩, hW, hsame.mono (by decide) (by decide)⟩
        show Q_own_expected Z p1 o_INDICATED o_OPTIONAL o_ZERO_OR_MORE o_ONE_OR_MORE o_ZERO_OR_MORE_symbol o_ZERO_OR_MORE_symbol_value o_OPTIONAL_symbol o_OPTIONAL_symbol_value o_ONE_OR_MORE_symbol o_ONE_OR_MORE_symbol_value i_COMPACT_STRINGS v_SIOOBE_FORMATTER kc_o_INDICATED kc_o_ZERO_OR_MORE_symbol_value kc_o_OPTIONAL_symbol_value kc_o_ONE_OR_MORE_symbol_value h0 n0 _ T6.heap _
        rw [e6]
        exact ⟨by simp [own_val, hc1, hc3, hc5], N0, rfl⟩
      · refine own_go (fun t k => XS.icmpYes X0.here hx rfl (pc0 := 23) (pc' := 30) rfl (hb hby own_d109) rfl (feq hc5).2 (by decide) (by decide) k) ?_
        show OwnG p.tables e below _ (s₁.setTop (mkF m 30 #[.val (.int p1)] []))
        refine own_go (fun t k => XS.aconstNull X0.here hx rfl (hb hby own_d112) k) ?_
        show OwnG p.tables e below _ (s₁.setTop (mkF m 31 #[.val (.int p1)] [.null]))
        obtain ⟨fs, hr, hrun, hended, hW, hsame⟩ := X0.leave (v := some .null) (fun h => by rw [Bd.returns] at h; cases h)
        have hlast : Steps p.tables e below (s₁.setTop (mkF m 31 #[.val (.int p1)] [.null])) (s₁.setFrames fs) := by
          exact retOut X0 hx (t := (.object "com/example/vigilant_grammar/vigilantgrammar/ContentToken$Occurrence")) Bd.returns rfl (Or.inr (Or.inr (Or.inr (Or.inr ⟨rfl, rfl, rfl⟩)))) (hb hby own_d113) hr
        refine ⟨_, _, hlast, hrun, hended, _, _, rfl, ?_, ⟨_, rfl⟩, hW, hsame.mono (by decide) (by decide)⟩
        show Q_own_expected Z p1 o_INDICATED o_OPTIONAL o_ZERO_OR_MORE o_ONE_OR_MORE o_ZERO_OR_MORE_symbol o_ZERO_OR_MORE_symbol_value o_OPTIONAL_symbol o_OPTIONAL_symbol_value o_ONE_OR_MORE_symbol o_ONE_OR_MORE_symbol_value i_COMPACT_STRINGS v_SIOOBE_FORMATTER kc_o_INDICATED kc_o_ZERO_OR_MORE_symbol_value kc_o_OPTIONAL_symbol_value kc_o_ONE_OR_MORE_symbol_value h0 n0 _ s₁.heap _
        rw [e0]
        exact ⟨by simp [own_val, hc1, hc3, hc5], N0, rfl⟩
theorem own_ef114 (m : MethodId) (a1 : Addr) : entryFrame m #[(.ref a1)] 1 = mkF m 0 #[.val (.ref a1)] [] := by first | (simp [entryFrame, mkF, argsToLocals, Value.category]; done) | rfl
theorem own_d115 : decode prog_39_method_5_code 0 = .ok (.aload_n 0, 1) := by decide +kernel
theorem own_d116 : decode prog_39_method_5_code 1 = .ok (.getfield 35, 3) := by decide +kernel
theorem own_d117 : decode prog_39_method_5_code 4 = .ok (.areturn, 1) := by decide +kernel
def Q_own_symbol (Z : State) (a1 : Addr) (a2 : Addr) (h0 : Heap) (n0 : Nat) (v : Option Value) (h : Heap) (L : List Loc) : Prop := v = some (.ref a2) ∧ Fr n0 L ∧ h = h0
set_option maxRecDepth 65536 in
set_option maxHeartbeats 40000000 in
theorem own_symbol (l : Launch) (Z : State) (a0 : Array Value) (hw : ∀ d ∈ tables_1, d.before a0 Z = true) (ws : List Jvm.Cond) (a1 : Addr) (a2 : Addr) (h0 : Heap) (n0 : Nat) (Z0 : n0 ≤ h0.size) (f0_0 : Fld Z h0 a1 "com/example/vigilant_grammar/vigilantgrammar/ContentToken$Occurrence" "symbol" "Ljava/lang/String;" (.ref a2)) :
    MetFree l (⟨"com/example/vigilant_grammar/vigilantgrammar/ContentToken$Occurrence", "symbol", "()Ljava/lang/String;"⟩ : MethodName) (head1 (Jvm.Cond.code (⟨"com/example/vigilant_grammar/vigilantgrammar/ContentToken$Occurrence", "symbol", "()Ljava/lang/String;"⟩ : MethodName) prog_39_method_5_code 1 (some (.object "java/lang/String")) :: ws) ({ frames := 0, cells := 0, slots := 0, locals := 0 } : Room)) (fun a U => a = #[(.ref a1)] ∧ Z.Warmed39 U.vm ∧ U.heap = h0) (fun _ _ _ _ _ => True) (fun _ U o U' => ∃ v L, o = .returned v ∧ Q_own_symbol Z a1 a2 h0 n0 v U'.heap L ∧ FrameEnd U o U' L ({ frames := 0, cells := 0, slots := 0, locals := 0 } : Room).cells ({ frames := 0, cells := 0, slots := 0, locals := 0 } : Room).slots) := by
  refine MetFree.of_bodySF (plainFor_of_name own_pn70) hisR ?_
  intro p e s m args below meth c s₁ Bd hml0 hP hK
  obtain ⟨rfl, hZ, hh⟩ := hP
  have hx := Bd.exec
  have hby := Bd.bytes
  have hml : c.maxLocals = 1 := hml0
  have hown : s.vm.findClass "com/example/vigilant_grammar/vigilantgrammar/ContentToken$Occurrence" = some m.cls := findClass_of_methodNamed Bd.named
  have hnm := (name_of_methodNamed Bd.named Bd.method).1
  have X0 : Stand p l e ({ frames := 0, cells := 0, slots := 0, locals := 0 } : Room) s m #[(.ref a1)] below meth c s₁ [] 0 0 := Stand.of_body Bd
  have e0 : s₁.heap = h0 := by rw [← hh, Bd.state]; rfl
  have N0 := Fr.nil n0
  have K0 := Keep.refl h0 []
  refine own_go (fun t k => castTop (own_ef114 m a1) k) ?_
  show OwnG p.tables e below _ (s₁.setTop (mkF m 0 #[.val (.ref a1)] []))
  refine own_go (fun t k => XS.aloadN X0.here hx rfl (hb hby own_d115) rfl rfl k) ?_
  show OwnG p.tables e below _ (s₁.setTop (mkF m 1 #[.val (.ref a1)] [(.ref a1)]))
  obtain ⟨T1, X1, e1, st1⟩ := getF X0 hx hZ hown (host := "") (Or.inl (hw _ (List.mem_of_getElem? (i := 29) rfl))) Via.refl e0 f0_0 (g := (mkF m 1 #[.val (.ref a1)] [(.ref a1)])) rfl rfl (hb hby own_d116)
  refine own_go (fun t k => st1 t k) ?_
  show OwnG p.tables e below _ (T1.setTop (mkF m 4 #[.val (.ref a1)] [(.ref a2)]))
  obtain ⟨fs, hr, hrun, hended, hW, hsame⟩ := X1.leave (v := some (.ref a2)) (fun h => by rw [Bd.returns] at h; cases h)
  have hlast : Steps p.tables e below (T1.setTop (mkF m 4 #[.val (.ref a1)] [(.ref a2)])) (T1.setFrames fs) := by
    exact retOut X1 hx (t := (.object "java/lang/String")) Bd.returns rfl (Or.inr (Or.inr (Or.inr (Or.inr ⟨rfl, rfl, rfl⟩)))) (hb hby own_d117) hr
  refine ⟨_, _, hlast, hrun, hended, _, _, rfl, ?_, ⟨_, rfl⟩, hW, hsame.mono (by decide) (by decide)⟩
  show Q_own_symbol Z a1 a2 h0 n0 _ T1.heap _
  rw [e1]
  exact ⟨rfl, N0, rfl⟩
theorem own_ef118 (m : MethodId) (p1 : Int32) : entryFrame m #[(.int p1)] 4 = mkF m 0 #[.val (.int p1), .unset, .unset, .unset] [] := by first | (simp [entryFrame, mkF, argsToLocals, Value.category]; done) | rfl
theorem own_d119 : decode method_4_code 0 = .ok (.iload_n 0, 1) := by decide +kernel
theorem own_d120 : decode method_4_code 1 = .ok (.invokestatic 31, 3) := by decide +kernel
theorem own_pd121 : parseMethodDescriptor "(I)Lcom/example/vigilant_grammar/vigilantgrammar/ContentToken$Occurrence;" = some ⟨[.int], some (.object "com/example/vigilant_grammar/vigilantgrammar/ContentToken$Occurrence")⟩ := by decide +kernel
theorem own_d122 : decode method_4_code 4 = .ok (.astore_n 1, 1) := by decide +kernel
theorem own_d123 : decode method_4_code 5 = .ok (.iload_n 0, 1) := by decide +kernel
theorem own_d124 : decode method_4_code 6 = .ok (.invokestatic 35, 3) := by decide +kernel
theorem own_d125 : decode method_4_code 9 = .ok (.astore_n 2, 1) := by decide +kernel
theorem own_d126 : decode method_4_code 10 = .ok (.aload_n 1, 1) := by decide +kernel
theorem own_d127 : decode method_4_code 11 = .ok (.aload_n 2, 1) := by decide +kernel
theorem own_d128 : decode method_4_code 12 = .ok (.if_acmp .eq 5, 3) := by decide +kernel
theorem own_d129 : decode method_4_code 17 = .ok (.aload_n 1, 1) := by decide +kernel
theorem own_d130 : decode method_4_code 18 = .ok (.ifnonnull 5, 3) := by decide +kernel
theorem own_d131 : decode method_4_code 23 = .ok (.aload_n 1, 1) := by decide +kernel
theorem own_d132 : decode method_4_code 24 = .ok (.invokevirtual 38, 3) := by decide +kernel
theorem own_pd133 : parseMethodDescriptor "()Ljava/lang/String;" = some ⟨[], some (.object "java/lang/String")⟩ := by decide +kernel
theorem own_d134 : decode method_4_code 27 = .ok (.astore_n 3, 1) := by decide +kernel
theorem own_d135 : decode method_4_code 28 = .ok (.aload_n 3, 1) := by decide +kernel
theorem own_d136 : decode method_4_code 29 = .ok (.invokevirtual 42, 3) := by decide +kernel
theorem own_pd137 : parseMethodDescriptor "()I" = some ⟨[], some .int⟩ := by decide +kernel
theorem own_d138 : decode method_4_code 32 = .ok (.iconst 1, 1) := by decide +kernel
theorem own_d139 : decode method_4_code 33 = .ok (.if_icmp .ne 16, 3) := by decide +kernel
theorem own_d140 : decode method_4_code 36 = .ok (.aload_n 3, 1) := by decide +kernel
theorem own_d141 : decode method_4_code 37 = .ok (.iconst 0, 1) := by decide +kernel
theorem own_d142 : decode method_4_code 38 = .ok (.invokevirtual 48, 3) := by decide +kernel
theorem own_pd143 : parseMethodDescriptor "(I)C" = some ⟨[.int], some .char⟩ := by decide +kernel
theorem own_d144 : decode method_4_code 41 = .ok (.iload_n 0, 1) := by decide +kernel
theorem own_d145 : decode method_4_code 42 = .ok (.if_icmp .ne 7, 3) := by decide +kernel
theorem own_d146 : decode method_4_code 45 = .ok (.iconst 1, 1) := by decide +kernel
theorem own_d147 : decode method_4_code 46 = .ok (.goto 4, 3) := by decide +kernel
theorem own_d148 : decode method_4_code 50 = .ok (.ireturn, 1) := by decide +kernel
theorem own_d149 : decode method_4_code 21 = .ok (.iconst 1, 1) := by decide +kernel
theorem own_d150 : decode method_4_code 22 = .ok (.ireturn, 1) := by decide +kernel
def Q_own_agrees (Z : State) (p1 : Int32) (o_INDICATED : Addr) (o_OPTIONAL : Addr) (o_ZERO_OR_MORE : Addr) (o_ONE_OR_MORE : Addr) (o_ZERO_OR_MORE_symbol : Addr) (o_ZERO_OR_MORE_symbol_value : Addr) (o_OPTIONAL_symbol : Addr) (o_OPTIONAL_symbol_value : Addr) (o_ONE_OR_MORE_symbol : Addr) (o_ONE_OR_MORE_symbol_value : Addr) (i_COMPACT_STRINGS : Int32) (v_SIOOBE_FORMATTER : Value) (kc_o_INDICATED : ClassId) (kc_o_ZERO_OR_MORE_symbol_value : ClassId) (kc_o_OPTIONAL_symbol_value : ClassId) (kc_o_ONE_OR_MORE_symbol_value : ClassId) (h0 : Heap) (n0 : Nat) (v : Option Value) (h : Heap) (L : List Loc) : Prop := v = some (.int (1 : Int32)) ∧ Fr n0 L ∧ h = h0
set_option maxRecDepth 65536 in
set_option maxHeartbeats 40000000 in
theorem own_agrees (l : Launch) (Z : State) (a0 : Array Value) (hw : ∀ d ∈ tables_1, d.before a0 Z = true) (ws : List Jvm.Cond) (p1 : Int32) (o_INDICATED : Addr) (o_OPTIONAL : Addr) (o_ZERO_OR_MORE : Addr) (o_ONE_OR_MORE : Addr) (o_ZERO_OR_MORE_symbol : Addr) (o_ZERO_OR_MORE_symbol_value : Addr) (o_OPTIONAL_symbol : Addr) (o_OPTIONAL_symbol_value : Addr) (o_ONE_OR_MORE_symbol : Addr) (o_ONE_OR_MORE_symbol_value : Addr) (i_COMPACT_STRINGS : Int32) (v_SIOOBE_FORMATTER : Value) (kc_o_INDICATED : ClassId) (kc_o_ZERO_OR_MORE_symbol_value : ClassId) (kc_o_OPTIONAL_symbol_value : ClassId) (kc_o_ONE_OR_MORE_symbol_value : ClassId) (h0 : Heap) (n0 : Nat) (Z0 : n0 ≤ h0.size) (O0 : Old Z n0 h0) (S_INDICATED : Sta Z Z.heap "com/example/vigilant_grammar/vigilantgrammar/ContentToken$Occurrence" "INDICATED" "[Lcom/example/vigilant_grammar/vigilantgrammar/ContentToken$Occurrence;" (.ref o_INDICATED)) (S_OPTIONAL : Sta Z Z.heap "com/example/vigilant_grammar/vigilantgrammar/ContentToken$Occurrence" "OPTIONAL" "Lcom/example/vigilant_grammar/vigilantgrammar/ContentToken$Occurrence;" (.ref o_OPTIONAL)) (E_o_OPTIONAL : Exa Z Z.heap o_OPTIONAL "com/example/vigilant_grammar/vigilantgrammar/ContentToken$Occurrence") (F_o_OPTIONAL_mark : Fld Z Z.heap o_OPTIONAL "com/example/vigilant_grammar/vigilantgrammar/ContentToken$Occurrence" "mark" "I" (.int (63 : Int32))) (S_ZERO_OR_MORE : Sta Z Z.heap "com/example/vigilant_grammar/vigilantgrammar/ContentToken$Occurrence" "ZERO_OR_MORE" "Lcom/example/vigilant_grammar/vigilantgrammar/ContentToken$Occurrence;" (.ref o_ZERO_OR_MORE)) (E_o_ZERO_OR_MORE : Exa Z Z.heap o_ZERO_OR_MORE "com/example/vigilant_grammar/vigilantgrammar/ContentToken$Occurrence") (F_o_ZERO_OR_MORE_mark : Fld Z Z.heap o_ZERO_OR_MORE "com/example/vigilant_grammar/vigilantgrammar/ContentToken$Occurrence" "mark" "I" (.int (42 : Int32))) (S_ONE_OR_MORE : Sta Z Z.heap "com/example/vigilant_grammar/vigilantgrammar/ContentToken$Occurrence" "ONE_OR_MORE" "Lcom/example/vigilant_grammar/vigilantgrammar/ContentToken$Occurrence;" (.ref o_ONE_OR_MORE)) (E_o_ONE_OR_MORE : Exa Z Z.heap o_ONE_OR_MORE "com/example/vigilant_grammar/vigilantgrammar/ContentToken$Occurrence") (F_o_ONE_OR_MORE_mark : Fld Z Z.heap o_ONE_OR_MORE "com/example/vigilant_grammar/vigilantgrammar/ContentToken$Occurrence" "mark" "I" (.int (43 : Int32))) (F_o_ZERO_OR_MORE_symbol : Fld Z Z.heap o_ZERO_OR_MORE "com/example/vigilant_grammar/vigilantgrammar/ContentToken$Occurrence" "symbol" "Ljava/lang/String;" (.ref o_ZERO_OR_MORE_symbol)) (E_o_ZERO_OR_MORE_symbol : Exa Z Z.heap o_ZERO_OR_MORE_symbol "java/lang/String") (F_o_ZERO_OR_MORE_symbol_value : Fld Z Z.heap o_ZERO_OR_MORE_symbol "java/lang/String" "value" "[B" (.ref o_ZERO_OR_MORE_symbol_value)) (F_o_ZERO_OR_MORE_symbol_coder : Fld Z Z.heap o_ZERO_OR_MORE_symbol "java/lang/String" "coder" "B" (.int (0 : Int32))) (F_o_OPTIONAL_symbol : Fld Z Z.heap o_OPTIONAL "com/example/vigilant_grammar/vigilantgrammar/ContentToken$Occurrence" "symbol" "Ljava/lang/String;" (.ref o_OPTIONAL_symbol)) (E_o_OPTIONAL_symbol : Exa Z Z.heap o_OPTIONAL_symbol "java/lang/String") (F_o_OPTIONAL_symbol_value : Fld Z Z.heap o_OPTIONAL_symbol "java/lang/String" "value" "[B" (.ref o_OPTIONAL_symbol_value)) (F_o_OPTIONAL_symbol_coder : Fld Z Z.heap o_OPTIONAL_symbol "java/lang/String" "coder" "B" (.int (0 : Int32))) (F_o_ONE_OR_MORE_symbol : Fld Z Z.heap o_ONE_OR_MORE "com/example/vigilant_grammar/vigilantgrammar/ContentToken$Occurrence" "symbol" "Ljava/lang/String;" (.ref o_ONE_OR_MORE_symbol)) (E_o_ONE_OR_MORE_symbol : Exa Z Z.heap o_ONE_OR_MORE_symbol "java/lang/String") (F_o_ONE_OR_MORE_symbol_value : Fld Z Z.heap o_ONE_OR_MORE_symbol "java/lang/String" "value" "[B" (.ref o_ONE_OR_MORE_symbol_value)) (F_o_ONE_OR_MORE_symbol_coder : Fld Z Z.heap o_ONE_OR_MORE_symbol "java/lang/String" "coder" "B" (.int (0 : Int32))) (S_COMPACT_STRINGS : Sta Z Z.heap "java/lang/String" "COMPACT_STRINGS" "Z" (.int i_COMPACT_STRINGS)) (nz_i_COMPACT_STRINGS : i_COMPACT_STRINGS ≠ (0 : Int32)) (S_SIOOBE_FORMATTER : Sta Z Z.heap "jdk/internal/util/Preconditions" "SIOOBE_FORMATTER" "Ljava/util/function/BiFunction;" v_SIOOBE_FORMATTER) (ir_v_SIOOBE_FORMATTER : v_SIOOBE_FORMATTER.isRef = true) (V_o_INDICATED : Arv Z Z.heap o_INDICATED kc_o_INDICATED (.object "com/example/vigilant_grammar/vigilantgrammar/ContentToken$Occurrence") (3 : Int32) [(.ref o_OPTIONAL), (.ref o_ZERO_OR_MORE), (.ref o_ONE_OR_MORE)] .null) (V_o_ZERO_OR_MORE_symbol_value : Arv Z Z.heap o_ZERO_OR_MORE_symbol_value kc_o_ZERO_OR_MORE_symbol_value .byte (1 : Int32) [(.int (42 : Int32))] (.int (0 : Int32))) (V_o_OPTIONAL_symbol_value : Arv Z Z.heap o_OPTIONAL_symbol_value kc_o_OPTIONAL_symbol_value .byte (1 : Int32) [(.int (63 : Int32))] (.int (0 : Int32))) (V_o_ONE_OR_MORE_symbol_value : Arv Z Z.heap o_ONE_OR_MORE_symbol_value kc_o_ONE_OR_MORE_symbol_value .byte (1 : Int32) [(.int (43 : Int32))] (.int (0 : Int32))) :
    MetFree l (⟨"com/example/vigilant_grammar/vigilantgrammar/OccurrenceIndicatedByPinLaw", "agrees", "(I)Z"⟩ : MethodName) (head1 (Jvm.Cond.code (⟨"com/example/vigilant_grammar/vigilantgrammar/OccurrenceIndicatedByPinLaw", "agrees", "(I)Z"⟩ : MethodName) method_4_code 4 (some .boolean) :: ws) ({ frames := 4, cells := 0, slots := 0, locals := 53 } : Room)) (fun a U => a = #[(.int p1)] ∧ Z.Warmed39 U.vm ∧ U.heap = h0) (fun _ _ _ _ _ => True) (fun _ U o U' => ∃ v L, o = .returned v ∧ Q_own_agrees Z p1 o_INDICATED o_OPTIONAL o_ZERO_OR_MORE o_ONE_OR_MORE o_ZERO_OR_MORE_symbol o_ZERO_OR_MORE_symbol_value o_OPTIONAL_symbol o_OPTIONAL_symbol_value o_ONE_OR_MORE_symbol o_ONE_OR_MORE_symbol_value i_COMPACT_STRINGS v_SIOOBE_FORMATTER kc_o_INDICATED kc_o_ZERO_OR_MORE_symbol_value kc_o_OPTIONAL_symbol_value kc_o_ONE_OR_MORE_symbol_value h0 n0 v U'.heap L ∧ FrameEnd U o U' L ({ frames := 4, cells := 0, slots := 0, locals := 53 } : Room).cells ({ frames := 4, cells := 0, slots := 0, locals := 53 } : Room).slots) := by
  refine MetFree.of_bodySF (plainFor_of_name own_pn96) hisR ?_
  intro p e s m args below meth c s₁ Bd hml0 hP hK
  obtain ⟨rfl, hZ, hh⟩ := hP
  have hx := Bd.exec
  have hby := Bd.bytes
  have hml : c.maxLocals = 4 := hml0
  have hown : s.vm.findClass "com/example/vigilant_grammar/vigilantgrammar/OccurrenceIndicatedByPinLaw" = some m.cls := findClass_of_methodNamed Bd.named
  have hnm := (name_of_methodNamed Bd.named Bd.method).1
  have X0 : Stand p l e ({ frames := 4, cells := 0, slots := 0, locals := 53 } : Room) s m #[(.int p1)] below meth c s₁ [] 0 0 := Stand.of_body Bd
  have e0 : s₁.heap = h0 := by rw [← hh, Bd.state]; rfl
  have N0 := Fr.nil n0
  have K0 := Keep.refl h0 []
  refine own_go (fun t k => castTop (own_ef118 m p1) k) ?_
  show OwnG p.tables e below _ (s₁.setTop (mkF m 0 #[.val (.int p1), .unset, .unset, .unset] []))
  refine own_go (fun t k => XS.iloadN X0.here hx rfl (hb hby own_d119) rfl  k) ?_
  show OwnG p.tables e below _ (s₁.setTop (mkF m 1 #[.val (.int p1), .unset, .unset, .unset] [(.int p1)]))
  obtain ⟨_, _, ⟨T1, L1, k1, n1⟩, -, X1, ⟨Lc1, hQ1, l1, y1, z1⟩, st1⟩ := Jvm.LawKit.callS X0 hx (y := (⟨"com/example/vigilant_grammar/vigilantgrammar/ContentToken$Occurrence", "indicatedBy", "(I)Lcom/example/vigilant_grammar/vigilantgrammar/ContentToken$Occurrence;"⟩ : MethodName)) hown (mvT hZ (hw _ (List.mem_of_getElem? (i := 9) rfl))) (mvT hZ (hw _ (List.mem_of_getElem? (i := 10) rfl))) (mvT hZ (hw _ (List.mem_of_getElem? (i := 11) rfl))) (mvT hZ (hw _ (List.mem_of_getElem? (i := 12) rfl))) (by decide) (backOf (W := 0) (own_indicated l Z a0 hw [] p1 o_INDICATED o_OPTIONAL o_ZERO_OR_MORE o_ONE_OR_MORE o_ZERO_OR_MORE_symbol o_ZERO_OR_MORE_symbol_value o_OPTIONAL_symbol o_OPTIONAL_symbol_value o_ONE_OR_MORE_symbol o_ONE_OR_MORE_symbol_value i_COMPACT_STRINGS v_SIOOBE_FORMATTER kc_o_INDICATED kc_o_ZERO_OR_MORE_symbol_value kc_o_OPTIONAL_symbol_value kc_o_ONE_OR_MORE_symbol_value h0 n0 Z0 O0 S_INDICATED S_OPTIONAL E_o_OPTIONAL F_o_OPTIONAL_mark S_ZERO_OR_MORE E_o_ZERO_OR_MORE F_o_ZERO_OR_MORE_mark S_ONE_OR_MORE E_o_ONE_OR_MORE F_o_ONE_OR_MORE_mark F_o_ZERO_OR_MORE_symbol E_o_ZERO_OR_MORE_symbol F_o_ZERO_OR_MORE_symbol_value F_o_ZERO_OR_MORE_symbol_coder F_o_OPTIONAL_symbol E_o_OPTIONAL_symbol F_o_OPTIONAL_symbol_value F_o_OPTIONAL_symbol_coder F_o_ONE_OR_MORE_symbol E_o_ONE_OR_MORE_symbol F_o_ONE_OR_MORE_symbol_value F_o_ONE_OR_MORE_symbol_coder S_COMPACT_STRINGS nz_i_COMPACT_STRINGS S_SIOOBE_FORMATTER ir_v_SIOOBE_FORMATTER V_o_INDICATED V_o_ZERO_OR_MORE_symbol_value V_o_OPTIONAL_symbol_value V_o_ONE_OR_MORE_symbol_value) hZ (hw _ (List.mem_of_getElem? (i := 12) rfl)) (hw _ (List.mem_of_getElem? (i := 11) rfl)) (by decide) (by decide)) (g := (mkF m 1 #[.val (.int p1), .unset, .unset, .unset] [(.int p1)])) rfl (by rw [hml]; rfl) (argsL := [(.int p1)]) (rest := []) (lenOf own_pd121 rfl) rfl (by show 2 * 0 + _ ≤ _; exact Nat.le_of_eq rfl) (hb hby own_d120) (fun _ _ => ⟨rfl, e0, (by decide : 0 + 0 ≤ _), (by decide : 0 + 0 ≤ _)⟩)
  dsimp only [Pt.U, Pt.locs, Pt.cells, Pt.slots] at X1 l1 y1 z1 st1 hQ1
  subst l1 y1 z1
  obtain ⟨rfl, Nq1, eq1⟩ := hQ1
  have N1 := Fr.app N0 Nq1
  have e1 : T1.heap = h0 := eq1
  refine own_go (fun t k => st1 t k) ?_
  show OwnG p.tables e below _ (T1.setTop (mkF m 4 #[.val (.int p1), .unset, .unset, .unset] [(own_val p1 o_OPTIONAL o_ZERO_OR_MORE o_ONE_OR_MORE)]))
  rcases own_val_or p1 o_OPTIONAL o_ZERO_OR_MORE o_ONE_OR_MORE with ⟨al2, ax2⟩ | ⟨al2, ax2⟩ | ⟨al2, ax2⟩ | ⟨al2, ax2⟩
  · rw [al2]
    show OwnG p.tables e below _ (T1.setTop (mkF m 4 #[.val (.int p1), .unset, .unset, .unset] [(.ref o_OPTIONAL)]))
    refine own_go (fun t k => XS.astoreN X1.here hx rfl (hb hby own_d122) rfl rfl (l' := #[.val (.int p1), .val (.ref o_OPTIONAL), .unset, .unset]) rfl k) ?_
    show OwnG p.tables e below _ (T1.setTop (mkF m 5 #[.val (.int p1), .val (.ref o_OPTIONAL), .unset, .unset] []))
    refine own_go (fun t k => XS.iloadN X1.here hx rfl (hb hby own_d123) rfl  k) ?_
    show OwnG p.tables e below _ (T1.setTop (mkF m 6 #[.val (.int p1), .val (.ref o_OPTIONAL), .unset, .unset] [(.int p1)]))
    obtain ⟨_, _, ⟨T3, L3, k3, n3⟩, -, X3, ⟨Lc3, hQ3, l3, y3, z3⟩, st3⟩ := Jvm.LawKit.callS X1 hx (y := (⟨"com/example/vigilant_grammar/vigilantgrammar/OccurrenceIndicatedByPinLaw", "expected", "(I)Lcom/example/vigilant_grammar/vigilantgrammar/ContentToken$Occurrence;"⟩ : MethodName)) hown (mvT hZ (hw _ (List.mem_of_getElem? (i := 20) rfl))) (mvT hZ (hw _ (List.mem_of_getElem? (i := 21) rfl))) (mvT hZ (hw _ (List.mem_of_getElem? (i := 7) rfl))) (mvT hZ (hw _ (List.mem_of_getElem? (i := 22) rfl))) (by decide) (backOf (W := 0) (own_expected l Z a0 hw [] p1 o_INDICATED o_OPTIONAL o_ZERO_OR_MORE o_ONE_OR_MORE o_ZERO_OR_MORE_symbol o_ZERO_OR_MORE_symbol_value o_OPTIONAL_symbol o_OPTIONAL_symbol_value o_ONE_OR_MORE_symbol o_ONE_OR_MORE_symbol_value i_COMPACT_STRINGS v_SIOOBE_FORMATTER kc_o_INDICATED kc_o_ZERO_OR_MORE_symbol_value kc_o_OPTIONAL_symbol_value kc_o_ONE_OR_MORE_symbol_value h0 n0 Z0 O0 S_INDICATED S_OPTIONAL E_o_OPTIONAL F_o_OPTIONAL_mark S_ZERO_OR_MORE E_o_ZERO_OR_MORE F_o_ZERO_OR_MORE_mark S_ONE_OR_MORE E_o_ONE_OR_MORE F_o_ONE_OR_MORE_mark F_o_ZERO_OR_MORE_symbol E_o_ZERO_OR_MORE_symbol F_o_ZERO_OR_MORE_symbol_value F_o_ZERO_OR_MORE_symbol_coder F_o_OPTIONAL_symbol E_o_OPTIONAL_symbol F_o_OPTIONAL_symbol_value F_o_OPTIONAL_symbol_coder F_o_ONE_OR_MORE_symbol E_o_ONE_OR_MORE_symbol F_o_ONE_OR_MORE_symbol_value F_o_ONE_OR_MORE_symbol_coder S_COMPACT_STRINGS nz_i_COMPACT_STRINGS S_SIOOBE_FORMATTER ir_v_SIOOBE_FORMATTER V_o_INDICATED V_o_ZERO_OR_MORE_symbol_value V_o_OPTIONAL_symbol_value V_o_ONE_OR_MORE_symbol_value) hZ (hw _ (List.mem_of_getElem? (i := 22) rfl)) (hw _ (List.mem_of_getElem? (i := 7) rfl)) (by decide) (by decide)) (g := (mkF m 6 #[.val (.int p1), .val (.ref o_OPTIONAL), .unset, .unset] [(.int p1)])) rfl (by rw [hml]; rfl) (argsL := [(.int p1)]) (rest := []) (lenOf own_pd121 rfl) rfl (by show 2 * 0 + _ ≤ _; exact Nat.le_of_eq rfl) (hb hby own_d124) (fun _ _ => ⟨rfl, e1, (by decide : 0 + 0 ≤ _), (by decide : 0 + 0 ≤ _)⟩)
    dsimp only [Pt.U, Pt.locs, Pt.cells, Pt.slots] at X3 l3 y3 z3 st3 hQ3
    subst l3 y3 z3
    obtain ⟨rfl, Nq3, eq3⟩ := hQ3
    have N3 := Fr.app N1 Nq3
    have e3 : T3.heap = h0 := eq3
    refine own_go (fun t k => st3 t k) ?_
    show OwnG p.tables e below _ (T3.setTop (mkF m 9 #[.val (.int p1), .val (.ref o_OPTIONAL), .unset, .unset] [(own_val p1 o_OPTIONAL o_ZERO_OR_MORE o_ONE_OR_MORE)]))
    rw [al2]
    show OwnG p.tables e below _ (T3.setTop (mkF m 9 #[.val (.int p1), .val (.ref o_OPTIONAL), .unset, .unset] [(.ref o_OPTIONAL)]))
    refine own_go (fun t k => XS.astoreN X3.here hx rfl (hb hby own_d125) rfl rfl (l' := #[.val (.int p1), .val (.ref o_OPTIONAL), .val (.ref o_OPTIONAL), .unset]) rfl k) ?_
    show OwnG p.tables e below _ (T3.setTop (mkF m 10 #[.val (.int p1), .val (.ref o_OPTIONAL), .val (.ref o_OPTIONAL), .unset] []))
    refine own_go (fun t k => XS.aloadN X3.here hx rfl (hb hby own_d126) rfl rfl k) ?_
    show OwnG p.tables e below _ (T3.setTop (mkF m 11 #[.val (.int p1), .val (.ref o_OPTIONAL), .val (.ref o_OPTIONAL), .unset] [(.ref o_OPTIONAL)]))
    refine own_go (fun t k => XS.aloadN X3.here hx rfl (hb hby own_d127) rfl rfl k) ?_
    show OwnG p.tables e below _ (T3.setTop (mkF m 12 #[.val (.int p1), .val (.ref o_OPTIONAL), .val (.ref o_OPTIONAL), .unset] [(.ref o_OPTIONAL), (.ref o_OPTIONAL)]))
    refine own_go (fun t k => Jvm.RoadKit.acmp (g := (mkF m 12 #[.val (.int p1), .val (.ref o_OPTIONAL), .val (.ref o_OPTIONAL), .unset] [(.ref o_OPTIONAL), (.ref o_OPTIONAL)])) X3 hx rfl rfl rfl (pc0 := 12) (pc' := 17) (same := true) rfl (hb hby own_d128) rfl (decide_eq_true rfl) (by decide) (by decide) k) ?_
    show OwnG p.tables e below _ (T3.setTop (mkF m 17 #[.val (.int p1), .val (.ref o_OPTIONAL), .val (.ref o_OPTIONAL), .unset] []))
    refine own_go (fun t k => XS.aloadN X3.here hx rfl (hb hby own_d129) rfl rfl k) ?_
    show OwnG p.tables e below _ (T3.setTop (mkF m 18 #[.val (.int p1), .val (.ref o_OPTIONAL), .val (.ref o_OPTIONAL), .unset] [(.ref o_OPTIONAL)]))
    refine own_go (fun t k => XS.ifnonnullYes X3.here hx rfl (pc0 := 18) (pc' := 23) rfl (hb hby own_d130) rfl (by decide) (by decide) k) ?_
    show OwnG p.tables e below _ (T3.setTop (mkF m 23 #[.val (.int p1), .val (.ref o_OPTIONAL), .val (.ref o_OPTIONAL), .unset] []))
    refine own_go (fun t k => XS.aloadN X3.here hx rfl (hb hby own_d131) rfl rfl k) ?_
    show OwnG p.tables e below _ (T3.setTop (mkF m 24 #[.val (.int p1), .val (.ref o_OPTIONAL), .val (.ref o_OPTIONAL), .unset] [(.ref o_OPTIONAL)]))
    obtain ⟨cq4, kq4, q4a, q4b, q4c⟩ := isOf hZ e3 (E_o_OPTIONAL.ext O0.2)
    obtain ⟨_, _, ⟨T4, L4, k4, n4⟩, -, X4, ⟨Lc4, hQ4, l4, y4, z4⟩, st4⟩ := X3.virtualBack hx (y := (⟨"com/example/vigilant_grammar/vigilantgrammar/ContentToken$Occurrence", "symbol", "()Ljava/lang/String;"⟩ : MethodName)) (z := (⟨"com/example/vigilant_grammar/vigilantgrammar/ContentToken$Occurrence", "symbol", "()Ljava/lang/String;"⟩ : MethodName)) hown (mvT hZ (hw _ (List.mem_of_getElem? (i := 24) rfl))) (mvT hZ (hw _ (List.mem_of_getElem? (i := 25) rfl))) (notFace_of_selects (args := #[]) (mvT hZ (hw _ (List.mem_of_getElem? (i := 27) rfl)))) (mvT hZ (hw _ (List.mem_of_getElem? (i := 27) rfl))) (mvT hZ (hw _ (List.mem_of_getElem? (i := 26) rfl))) (by decide) (backOf (W := 0) (own_symbol l Z a0 hw [] o_OPTIONAL o_OPTIONAL_symbol h0 n0 Z0 (F_o_OPTIONAL_symbol.ext O0.2)) hZ (hw _ (List.mem_of_getElem? (i := 28) rfl)) (hw _ (List.mem_of_getElem? (i := 11) rfl)) (by decide) (by decide)) q4a q4c (g := (mkF m 24 #[.val (.int p1), .val (.ref o_OPTIONAL), .val (.ref o_OPTIONAL), .unset] [(.ref o_OPTIONAL)])) rfl (by rw [hml]; rfl) (Steps.refl _) (argsL := []) (rest := []) (lenOf own_pd133 rfl) rfl (by show 2 * 0 + _ ≤ _; exact Nat.le_of_eq rfl) (hb hby own_d132) (fun _ _ => ⟨rfl, e3, (by decide : 0 + 0 ≤ _), (by decide : 0 + 0 ≤ _)⟩)
    dsimp only [Pt.U, Pt.locs, Pt.cells, Pt.slots] at X4 l4 y4 z4 st4 hQ4
    subst l4 y4 z4
    obtain ⟨rfl, Nq4, eq4⟩ := hQ4
    have N4 := Fr.app N3 Nq4
    have e4 : T4.heap = h0 := eq4
    refine own_go (fun t k => st4.trans k) ?_
    show OwnG p.tables e below _ (T4.setTop (mkF m 27 #[.val (.int p1), .val (.ref o_OPTIONAL), .val (.ref o_OPTIONAL), .unset] [(.ref o_OPTIONAL_symbol)]))
    refine own_go (fun t k => XS.astoreN X4.here hx rfl (hb hby own_d134) rfl rfl (l' := #[.val (.int p1), .val (.ref o_OPTIONAL), .val (.ref o_OPTIONAL), .val (.ref o_OPTIONAL_symbol)]) rfl k) ?_
    show OwnG p.tables e below _ (T4.setTop (mkF m 28 #[.val (.int p1), .val (.ref o_OPTIONAL), .val (.ref o_OPTIONAL), .val (.ref o_OPTIONAL_symbol)] []))
    refine own_go (fun t k => XS.aloadN X4.here hx rfl (hb hby own_d135) rfl rfl k) ?_
    show OwnG p.tables e below _ (T4.setTop (mkF m 29 #[.val (.int p1), .val (.ref o_OPTIONAL), .val (.ref o_OPTIONAL), .val (.ref o_OPTIONAL_symbol)] [(.ref o_OPTIONAL_symbol)]))
    obtain ⟨cq5, kq5, q5a, q5b, q5c⟩ := isOf hZ e4 (E_o_OPTIONAL_symbol.ext O0.2)
    obtain ⟨_, _, ⟨T5, L5, k5, n5⟩, -, X5, ⟨Lc5, hQ5, l5, y5, z5⟩, st5⟩ := X4.virtualBack hx (y := (⟨"java/lang/String", "length", "()I"⟩ : MethodName)) (z := (⟨"java/lang/String", "length", "()I"⟩ : MethodName)) hown (mvT hZ (hw _ (List.mem_of_getElem? (i := 31) rfl))) (mvT hZ (hw _ (List.mem_of_getElem? (i := 32) rfl))) (notFace_of_selects (args := #[]) (mvT hZ (hw _ (List.mem_of_getElem? (i := 34) rfl)))) (mvT hZ (hw _ (List.mem_of_getElem? (i := 34) rfl))) (mvT hZ (hw _ (List.mem_of_getElem? (i := 33) rfl))) (by decide) (backOf (W := 0) (own_length l Z a0 hw [] o_OPTIONAL_symbol o_OPTIONAL_symbol_value kc_o_OPTIONAL_symbol_value (63 : Int32) i_COMPACT_STRINGS h0 n0 Z0 O0 S_COMPACT_STRINGS nz_i_COMPACT_STRINGS (E_o_OPTIONAL_symbol.ext O0.2) (F_o_OPTIONAL_symbol_value.ext O0.2) (F_o_OPTIONAL_symbol_coder.ext O0.2) (V_o_OPTIONAL_symbol_value.ext O0.2)) hZ (hw _ (List.mem_of_getElem? (i := 36) rfl)) (hw _ (List.mem_of_getElem? (i := 35) rfl)) (by decide) (by decide)) q5a q5c (g := (mkF m 29 #[.val (.int p1), .val (.ref o_OPTIONAL), .val (.ref o_OPTIONAL), .val (.ref o_OPTIONAL_symbol)] [(.ref o_OPTIONAL_symbol)])) rfl (by rw [hml]; rfl) (Steps.refl _) (argsL := []) (rest := []) (lenOf own_pd137 rfl) rfl (by show 2 * 0 + _ ≤ _; exact Nat.le_of_eq rfl) (hb hby own_d136) (fun _ _ => ⟨rfl, e4, (by decide : 0 + 0 ≤ _), (by decide : 0 + 0 ≤ _)⟩)
    dsimp only [Pt.U, Pt.locs, Pt.cells, Pt.slots] at X5 l5 y5 z5 st5 hQ5
    subst l5 y5 z5
    obtain ⟨rfl, Nq5, eq5⟩ := hQ5
    have N5 := Fr.app N4 Nq5
    have e5 : T5.heap = h0 := eq5
    refine own_go (fun t k => st5.trans k) ?_
    show OwnG p.tables e below _ (T5.setTop (mkF m 32 #[.val (.int p1), .val (.ref o_OPTIONAL), .val (.ref o_OPTIONAL), .val (.ref o_OPTIONAL_symbol)] [(.int (1 : Int32))]))
    refine own_go (fun t k => XS.iconst X5.here hx rfl (hb hby own_d138) k) ?_
    show OwnG p.tables e below _ (T5.setTop (mkF m 33 #[.val (.int p1), .val (.ref o_OPTIONAL), .val (.ref o_OPTIONAL), .val (.ref o_OPTIONAL_symbol)] [(.int (1 : Int32)), (.int (1 : Int32))]))
    refine own_go (fun t k => XS.icmpNo X5.here hx rfl (hb hby own_d139) rfl (teq (by decide : (1 : Int32) = (1 : Int32))).2 k) ?_
    show OwnG p.tables e below _ (T5.setTop (mkF m 36 #[.val (.int p1), .val (.ref o_OPTIONAL), .val (.ref o_OPTIONAL), .val (.ref o_OPTIONAL_symbol)] []))
    refine own_go (fun t k => XS.aloadN X5.here hx rfl (hb hby own_d140) rfl rfl k) ?_
    show OwnG p.tables e below _ (T5.setTop (mkF m 37 #[.val (.int p1), .val (.ref o_OPTIONAL), .val (.ref o_OPTIONAL), .val (.ref o_OPTIONAL_symbol)] [(.ref o_OPTIONAL_symbol)]))
    refine own_go (fun t k => XS.iconst X5.here hx rfl (hb hby own_d141) k) ?_
    show OwnG p.tables e below _ (T5.setTop (mkF m 38 #[.val (.int p1), .val (.ref o_OPTIONAL), .val (.ref o_OPTIONAL), .val (.ref o_OPTIONAL_symbol)] [(.int (0 : Int32)), (.ref o_OPTIONAL_symbol)]))
    obtain ⟨cq6, kq6, q6a, q6b, q6c⟩ := isOf hZ e5 (E_o_OPTIONAL_symbol.ext O0.2)
    obtain ⟨_, _, ⟨T6, L6, k6, n6⟩, -, X6, ⟨Lc6, hQ6, l6, y6, z6⟩, st6⟩ := X5.virtualBack hx (y := (⟨"java/lang/String", "charAt", "(I)C"⟩ : MethodName)) (z := (⟨"java/lang/String", "charAt", "(I)C"⟩ : MethodName)) hown (mvT hZ (hw _ (List.mem_of_getElem? (i := 47) rfl))) (mvT hZ (hw _ (List.mem_of_getElem? (i := 48) rfl))) (notFace_of_selects (args := #[]) (mvT hZ (hw _ (List.mem_of_getElem? (i := 50) rfl)))) (mvT hZ (hw _ (List.mem_of_getElem? (i := 50) rfl))) (mvT hZ (hw _ (List.mem_of_getElem? (i := 49) rfl))) (by decide) (backOf (W := 0) (own_charAt l Z a0 hw [] o_OPTIONAL_symbol o_OPTIONAL_symbol_value kc_o_OPTIONAL_symbol_value (63 : Int32) i_COMPACT_STRINGS v_SIOOBE_FORMATTER h0 n0 Z0 O0 S_COMPACT_STRINGS nz_i_COMPACT_STRINGS S_SIOOBE_FORMATTER ir_v_SIOOBE_FORMATTER (E_o_OPTIONAL_symbol.ext O0.2) (F_o_OPTIONAL_symbol_value.ext O0.2) (F_o_OPTIONAL_symbol_coder.ext O0.2) (V_o_OPTIONAL_symbol_value.ext O0.2) rfl rfl) hZ (hw _ (List.mem_of_getElem? (i := 51) rfl)) (hw _ (List.mem_of_getElem? (i := 35) rfl)) (by decide) (by decide)) q6a q6c (g := (mkF m 38 #[.val (.int p1), .val (.ref o_OPTIONAL), .val (.ref o_OPTIONAL), .val (.ref o_OPTIONAL_symbol)] [(.int (0 : Int32)), (.ref o_OPTIONAL_symbol)])) rfl (by rw [hml]; rfl) (Steps.refl _) (argsL := [(.int (0 : Int32))]) (rest := []) (lenOf own_pd143 rfl) rfl (by show 2 * 0 + _ ≤ _; exact Nat.le_of_eq rfl) (hb hby own_d142) (fun _ _ => ⟨rfl, e5, (by decide : 0 + 0 ≤ _), (by decide : 0 + 0 ≤ _)⟩)
    dsimp only [Pt.U, Pt.locs, Pt.cells, Pt.slots] at X6 l6 y6 z6 st6 hQ6
    subst l6 y6 z6
    obtain ⟨rfl, Nq6, eq6⟩ := hQ6
    have N6 := Fr.app N5 Nq6
    have e6 : T6.heap = h0 := eq6
    refine own_go (fun t k => st6.trans k) ?_
    show OwnG p.tables e below _ (T6.setTop (mkF m 41 #[.val (.int p1), .val (.ref o_OPTIONAL), .val (.ref o_OPTIONAL), .val (.ref o_OPTIONAL_symbol)] [(.int (63 : Int32))]))
    refine own_go (fun t k => XS.iloadN X6.here hx rfl (hb hby own_d144) rfl  k) ?_
    show OwnG p.tables e below _ (T6.setTop (mkF m 42 #[.val (.int p1), .val (.ref o_OPTIONAL), .val (.ref o_OPTIONAL), .val (.ref o_OPTIONAL_symbol)] [(.int p1), (.int (63 : Int32))]))
    refine own_go (fun t k => XS.icmpNo X6.here hx rfl (hb hby own_d145) rfl (teq ax2.symm).2 k) ?_
    show OwnG p.tables e below _ (T6.setTop (mkF m 45 #[.val (.int p1), .val (.ref o_OPTIONAL), .val (.ref o_OPTIONAL), .val (.ref o_OPTIONAL_symbol)] []))
    refine own_go (fun t k => XS.iconst X6.here hx rfl (hb hby own_d146) k) ?_
    show OwnG p.tables e below _ (T6.setTop (mkF m 46 #[.val (.int p1), .val (.ref o_OPTIONAL), .val (.ref o_OPTIONAL), .val (.ref o_OPTIONAL_symbol)] [(.int (1 : Int32))]))
    refine own_go (fun t k => XS.goto X6.here hx rfl (pc0 := 46) (pc' := 50) rfl (hb hby own_d147) (by decide) (by decide) k) ?_
    show OwnG p.tables e below _ (T6.setTop (mkF m 50 #[.val (.int p1), .val (.ref o_OPTIONAL), .val (.ref o_OPTIONAL), .val (.ref o_OPTIONAL_symbol)] [(.int (1 : Int32))]))
    obtain ⟨fs, hr, hrun, hended, hW, hsame⟩ := X6.leave (v := some (.int (1 : Int32))) (fun h => by rw [Bd.returns] at h; cases h)
    refine ⟨_, _, retN X6 hx (t := .boolean) Bd.returns (by simp) (hb hby own_d148) hr, hrun, hended, _, _, rfl, ?_, ⟨_, rfl⟩, hW, hsame.mono (by decide) (by decide)⟩
    show Q_own_agrees Z p1 o_INDICATED o_OPTIONAL o_ZERO_OR_MORE o_ONE_OR_MORE o_ZERO_OR_MORE_symbol o_ZERO_OR_MORE_symbol_value o_OPTIONAL_symbol o_OPTIONAL_symbol_value o_ONE_OR_MORE_symbol o_ONE_OR_MORE_symbol_value i_COMPACT_STRINGS v_SIOOBE_FORMATTER kc_o_INDICATED kc_o_ZERO_OR_MORE_symbol_value kc_o_OPTIONAL_symbol_value kc_o_ONE_OR_MORE_symbol_value h0 n0 _ T6.heap _
    rw [e6]
    exact ⟨rfl, N6, rfl⟩
  · rw [al2]
    show OwnG p.tables e below _ (T1.setTop (mkF m 4 #[.val (.int p1), .unset, .unset, .unset] [(.ref o_ZERO_OR_MORE)]))
    refine own_go (fun t k => XS.astoreN X1.here hx rfl (hb hby own_d122) rfl rfl (l' := #[.val (.int p1), .val (.ref o_ZERO_OR_MORE), .unset, .unset]) rfl k) ?_
    show OwnG p.tables e below _ (T1.setTop (mkF m 5 #[.val (.int p1), .val (.ref o_ZERO_OR_MORE), .unset, .unset] []))
    refine own_go (fun t k => XS.iloadN X1.here hx rfl (hb hby own_d123) rfl  k) ?_
    show OwnG p.tables e below _ (T1.setTop (mkF m 6 #[.val (.int p1), .val (.ref o_ZERO_OR_MORE), .unset, .unset] [(.int p1)]))
    obtain ⟨_, _, ⟨T7, L7, k7, n7⟩, -, X7, ⟨Lc7, hQ7, l7, y7, z7⟩, st7⟩ := Jvm.LawKit.callS X1 hx (y := (⟨"com/example/vigilant_grammar/vigilantgrammar/OccurrenceIndicatedByPinLaw", "expected", "(I)Lcom/example/vigilant_grammar/vigilantgrammar/ContentToken$Occurrence;"⟩ : MethodName)) hown (mvT hZ (hw _ (List.mem_of_getElem? (i := 20) rfl))) (mvT hZ (hw _ (List.mem_of_getElem? (i := 21) rfl))) (mvT hZ (hw _ (List.mem_of_getElem? (i := 7) rfl))) (mvT hZ (hw _ (List.mem_of_getElem? (i := 22) rfl))) (by decide) (backOf (W := 0) (own_expected l Z a0 hw [] p1 o_INDICATED o_OPTIONAL o_ZERO_OR_MORE o_ONE_OR_MORE o_ZERO_OR_MORE_symbol o_ZERO_OR_MORE_symbol_value o_OPTIONAL_symbol o_OPTIONAL_symbol_value o_ONE_OR_MORE_symbol o_ONE_OR_MORE_symbol_value i_COMPACT_STRINGS v_SIOOBE_FORMATTER kc_o_INDICATED kc_o_ZERO_OR_MORE_symbol_value kc_o_OPTIONAL_symbol_value kc_o_ONE_OR_MORE_symbol_value h0 n0 Z0 O0 S_INDICATED S_OPTIONAL E_o_OPTIONAL F_o_OPTIONAL_mark S_ZERO_OR_MORE E_o_ZERO_OR_MORE F_o_ZERO_OR_MORE_mark S_ONE_OR_MORE E_o_ONE_OR_MORE F_o_ONE_OR_MORE_mark F_o_ZERO_OR_MORE_symbol E_o_ZERO_OR_MORE_symbol F_o_ZERO_OR_MORE_symbol_value F_o_ZERO_OR_MORE_symbol_coder F_o_OPTIONAL_symbol E_o_OPTIONAL_symbol F_o_OPTIONAL_symbol_value F_o_OPTIONAL_symbol_coder F_o_ONE_OR_MORE_symbol E_o_ONE_OR_MORE_symbol F_o_ONE_OR_MORE_symbol_value F_o_ONE_OR_MORE_symbol_coder S_COMPACT_STRINGS nz_i_COMPACT_STRINGS S_SIOOBE_FORMATTER ir_v_SIOOBE_FORMATTER V_o_INDICATED V_o_ZERO_OR_MORE_symbol_value V_o_OPTIONAL_symbol_value V_o_ONE_OR_MORE_symbol_value) hZ (hw _ (List.mem_of_getElem? (i := 22) rfl)) (hw _ (List.mem_of_getElem? (i := 7) rfl)) (by decide) (by decide)) (g := (mkF m 6 #[.val (.int p1), .val (.ref o_ZERO_OR_MORE), .unset, .unset] [(.int p1)])) rfl (by rw [hml]; rfl) (argsL := [(.int p1)]) (rest := []) (lenOf own_pd121 rfl) rfl (by show 2 * 0 + _ ≤ _; exact Nat.le_of_eq rfl) (hb hby own_d124) (fun _ _ => ⟨rfl, e1, (by decide : 0 + 0 ≤ _), (by decide : 0 + 0 ≤ _)⟩)
    dsimp only [Pt.U, Pt.locs, Pt.cells, Pt.slots] at X7 l7 y7 z7 st7 hQ7
    subst l7 y7 z7
    obtain ⟨rfl, Nq7, eq7⟩ := hQ7
    have N7 := Fr.app N1 Nq7
    have e7 : T7.heap = h0 := eq7
    refine own_go (fun t k => st7 t k) ?_
    show OwnG p.tables e below _ (T7.setTop (mkF m 9 #[.val (.int p1), .val (.ref o_ZERO_OR_MORE), .unset, .unset] [(own_val p1 o_OPTIONAL o_ZERO_OR_MORE o_ONE_OR_MORE)]))
    rw [al2]
    show OwnG p.tables e below _ (T7.setTop (mkF m 9 #[.val (.int p1), .val (.ref o_ZERO_OR_MORE), .unset, .unset] [(.ref o_ZERO_OR_MORE)]))
    refine own_go (fun t k => XS.astoreN X7.here hx rfl (hb hby own_d125) rfl rfl (l' := #[.val (.int p1), .val (.ref o_ZERO_OR_MORE), .val (.ref o_ZERO_OR_MORE), .unset]) rfl k) ?_
    show OwnG p.tables e below _ (T7.setTop (mkF m 10 #[.val (.int p1), .val (.ref o_ZERO_OR_MORE), .val (.ref o_ZERO_OR_MORE), .unset] []))
    refine own_go (fun t k => XS.aloadN X7.here hx rfl (hb hby own_d126) rfl rfl k) ?_
    show OwnG p.tables e below _ (T7.setTop (mkF m 11 #[.val (.int p1), .val (.ref o_ZERO_OR_MORE), .val (.ref o_ZERO_OR_MORE), .unset] [(.ref o_ZERO_OR_MORE)]))
    refine own_go (fun t k => XS.aloadN X7.here hx rfl (hb hby own_d127) rfl rfl k) ?_
    show OwnG p.tables e below _ (T7.setTop (mkF m 12 #[.val (.int p1), .val (.ref o_ZERO_OR_MORE), .val (.ref o_ZERO_OR_MORE), .unset] [(.ref o_ZERO_OR_MORE), (.ref o_ZERO_OR_MORE)]))
    refine own_go (fun t k => Jvm.RoadKit.acmp (g := (mkF m 12 #[.val (.int p1), .val (.ref o_ZERO_OR_MORE), .val (.ref o_ZERO_OR_MORE), .unset] [(.ref o_ZERO_OR_MORE), (.ref o_ZERO_OR_MORE)])) X7 hx rfl rfl rfl (pc0 := 12) (pc' := 17) (same := true) rfl (hb hby own_d128) rfl (decide_eq_true rfl) (by decide) (by decide) k) ?_
    show OwnG p.tables e below _ (T7.setTop (mkF m 17 #[.val (.int p1), .val (.ref o_ZERO_OR_MORE), .val (.ref o_ZERO_OR_MORE), .unset] []))
    refine own_go (fun t k => XS.aloadN X7.here hx rfl (hb hby own_d129) rfl rfl k) ?_
    show OwnG p.tables e below _ (T7.setTop (mkF m 18 #[.val (.int p1), .val (.ref o_ZERO_OR_MORE), .val (.ref o_ZERO_OR_MORE), .unset] [(.ref o_ZERO_OR_MORE)]))
    refine own_go (fun t k => XS.ifnonnullYes X7.here hx rfl (pc0 := 18) (pc' := 23) rfl (hb hby own_d130) rfl (by decide) (by decide) k) ?_
    show OwnG p.tables e below _ (T7.setTop (mkF m 23 #[.val (.int p1), .val (.ref o_ZERO_OR_MORE), .val (.ref o_ZERO_OR_MORE), .unset] []))
    refine own_go (fun t k => XS.aloadN X7.here hx rfl (hb hby own_d131) rfl rfl k) ?_
    show OwnG p.tables e below _ (T7.setTop (mkF m 24 #[.val (.int p1), .val (.ref o_ZERO_OR_MORE), .val (.ref o_ZERO_OR_MORE), .unset] [(.ref o_ZERO_OR_MORE)]))
    obtain ⟨cq8, kq8, q8a, q8b, q8c⟩ := isOf hZ e7 (E_o_ZERO_OR_MORE.ext O0.2)
    obtain ⟨_, _, ⟨T8, L8, k8, n8⟩, -, X8, ⟨Lc8, hQ8, l8, y8, z8⟩, st8⟩ := X7.virtualBack hx (y := (⟨"com/example/vigilant_grammar/vigilantgrammar/ContentToken$Occurrence", "symbol", "()Ljava/lang/String;"⟩ : MethodName)) (z := (⟨"com/example/vigilant_grammar/vigilantgrammar/ContentToken$Occurrence", "symbol", "()Ljava/lang/String;"⟩ : MethodName)) hown (mvT hZ (hw _ (List.mem_of_getElem? (i := 24) rfl))) (mvT hZ (hw _ (List.mem_of_getElem? (i := 25) rfl))) (notFace_of_selects (args := #[]) (mvT hZ (hw _ (List.mem_of_getElem? (i := 27) rfl)))) (mvT hZ (hw _ (List.mem_of_getElem? (i := 27) rfl))) (mvT hZ (hw _ (List.mem_of_getElem? (i := 26) rfl))) (by decide) (backOf (W := 0) (own_symbol l Z a0 hw [] o_ZERO_OR_MORE o_ZERO_OR_MORE_symbol h0 n0 Z0 (F_o_ZERO_OR_MORE_symbol.ext O0.2)) hZ (hw _ (List.mem_of_getElem? (i := 28) rfl)) (hw _ (List.mem_of_getElem? (i := 11) rfl)) (by decide) (by decide)) q8a q8c (g := (mkF m 24 #[.val (.int p1), .val (.ref o_ZERO_OR_MORE), .val (.ref o_ZERO_OR_MORE), .unset] [(.ref o_ZERO_OR_MORE)])) rfl (by rw [hml]; rfl) (Steps.refl _) (argsL := []) (rest := []) (lenOf own_pd133 rfl) rfl (by show 2 * 0 + _ ≤ _; exact Nat.le_of_eq rfl) (hb hby own_d132) (fun _ _ => ⟨rfl, e7, (by decide : 0 + 0 ≤ _), (by decide : 0 + 0 ≤ _)⟩)
    dsimp only [Pt.U, Pt.locs, Pt.cells, Pt.slots] at X8 l8 y8 z8 st8 hQ8
    subst l8 y8 z8
    obtain ⟨rfl, Nq8, eq8⟩ := hQ8
    have N8 := Fr.app N7 Nq8
    have e8 : T8.heap = h0 := eq8
    refine own_go (fun t k => st8.trans k) ?_
    show OwnG p.tables e below _ (T8.setTop (mkF m 27 #[.val (.int p1), .val (.ref o_ZERO_OR_MORE), .val (.ref o_ZERO_OR_MORE), .unset] [(.ref o_ZERO_OR_MORE_symbol)]))
    refine own_go (fun t k => XS.astoreN X8.here hx rfl (hb hby own_d134) rfl rfl (l' := #[.val (.int p1), .val (.ref o_ZERO_OR_MORE), .val (.ref o_ZERO_OR_MORE), .val (.ref o_ZERO_OR_MORE_symbol)]) rfl k) ?_
    show OwnG p.tables e below _ (T8.setTop (mkF m 28 #[.val (.int p1), .val (.ref o_ZERO_OR_MORE), .val (.ref o_ZERO_OR_MORE), .val (.ref o_ZERO_OR_MORE_symbol)] []))
    refine own_go (fun t k => XS.aloadN X8.here hx rfl (hb hby own_d135) rfl rfl k) ?_
    show OwnG p.tables e below _ (T8.setTop (mkF m 29 #[.val (.int p1), .val (.ref o_ZERO_OR_MORE), .val (.ref o_ZERO_OR_MORE), .val (.ref o_ZERO_OR_MORE_symbol)] [(.ref o_ZERO_OR_MORE_symbol)]))
    obtain ⟨cq9, kq9, q9a, q9b, q9c⟩ := isOf hZ e8 (E_o_ZERO_OR_MORE_symbol.ext O0.2)
    obtain ⟨_, _, ⟨T9, L9, k9, n9⟩, -, X9, ⟨Lc9, hQ9, l9, y9, z9⟩, st9⟩ := X8.virtualBack hx (y := (⟨"java/lang/String", "length", "()I"⟩ : MethodName)) (z := (⟨"java/lang/String", "length", "()I"⟩ : MethodName)) hown (mvT hZ (hw _ (List.mem_of_getElem? (i := 31) rfl))) (mvT hZ (hw _ (List.mem_of_getElem? (i := 32) rfl))) (notFace_of_selects (args := #[]) (mvT hZ (hw _ (List.mem_of_getElem? (i := 34) rfl)))) (mvT hZ (hw _ (List.mem_of_getElem? (i := 34) rfl))) (mvT hZ (hw _ (List.mem_of_getElem? (i := 33) rfl))) (by decide) (backOf (W := 0) (own_length l Z a0 hw [] o_ZERO_OR_MORE_symbol o_ZERO_OR_MORE_symbol_value kc_o_ZERO_OR_MORE_symbol_value (42 : Int32) i_COMPACT_STRINGS h0 n0 Z0 O0 S_COMPACT_STRINGS nz_i_COMPACT_STRINGS (E_o_ZERO_OR_MORE_symbol.ext O0.2) (F_o_ZERO_OR_MORE_symbol_value.ext O0.2) (F_o_ZERO_OR_MORE_symbol_coder.ext O0.2) (V_o_ZERO_OR_MORE_symbol_value.ext O0.2)) hZ (hw _ (List.mem_of_getElem? (i := 36) rfl)) (hw _ (List.mem_of_getElem? (i := 35) rfl)) (by decide) (by decide)) q9a q9c (g := (mkF m 29 #[.val (.int p1), .val (.ref o_ZERO_OR_MORE), .val (.ref o_ZERO_OR_MORE), .val (.ref o_ZERO_OR_MORE_symbol)] [(.ref o_ZERO_OR_MORE_symbol)])) rfl (by rw [hml]; rfl) (Steps.refl _) (argsL := []) (rest := []) (lenOf own_pd137 rfl) rfl (by show 2 * 0 + _ ≤ _; exact Nat.le_of_eq rfl) (hb hby own_d136) (fun _ _ => ⟨rfl, e8, (by decide : 0 + 0 ≤ _), (by decide : 0 + 0 ≤ _)⟩)
    dsimp only [Pt.U, Pt.locs, Pt.cells, Pt.slots] at X9 l9 y9 z9 st9 hQ9
    subst l9 y9 z9
    obtain ⟨rfl, Nq9, eq9⟩ := hQ9
    have N9 := Fr.app N8 Nq9
    have e9 : T9.heap = h0 := eq9
    refine own_go (fun t k => st9.trans k) ?_
    show OwnG p.tables e below _ (T9.setTop (mkF m 32 #[.val (.int p1), .val (.ref o_ZERO_OR_MORE), .val (.ref o_ZERO_OR_MORE), .val (.ref o_ZERO_OR_MORE_symbol)] [(.int (1 : Int32))]))
    refine own_go (fun t k => XS.iconst X9.here hx rfl (hb hby own_d138) k) ?_
    show OwnG p.tables e below _ (T9.setTop (mkF m 33 #[.val (.int p1), .val (.ref o_ZERO_OR_MORE), .val (.ref o_ZERO_OR_MORE), .val (.ref o_ZERO_OR_MORE_symbol)] [(.int (1 : Int32)), (.int (1 : Int32))]))
    refine own_go (fun t k => XS.icmpNo X9.here hx rfl (hb hby own_d139) rfl (teq (by decide : (1 : Int32) = (1 : Int32))).2 k) ?_
    show OwnG p.tables e below _ (T9.setTop (mkF m 36 #[.val (.int p1), .val (.ref o_ZERO_OR_MORE), .val (.ref o_ZERO_OR_MORE), .val (.ref o_ZERO_OR_MORE_symbol)] []))
    refine own_go (fun t k => XS.aloadN X9.here hx rfl (hb hby own_d140) rfl rfl k) ?_
    show OwnG p.tables e below _ (T9.setTop (mkF m 37 #[.val (.int p1), .val (.ref o_ZERO_OR_MORE), .val (.ref o_ZERO_OR_MORE), .val (.ref o_ZERO_OR_MORE_symbol)] [(.ref o_ZERO_OR_MORE_symbol)]))
    refine own_go (fun t k => XS.iconst X9.here hx rfl (hb hby own_d141) k) ?_
    show OwnG p.tables e below _ (T9.setTop (mkF m 38 #[.val (.int p1), .val (.ref o_ZERO_OR_MORE), .val (.ref o_ZERO_OR_MORE), .val (.ref o_ZERO_OR_MORE_symbol)] [(.int (0 : Int32)), (.ref o_ZERO_OR_MORE_symbol)]))
    obtain ⟨cq10, kq10, q10a, q10b, q10c⟩ := isOf hZ e9 (E_o_ZERO_OR_MORE_symbol.ext O0.2)
    obtain ⟨_, _, ⟨T10, L10, k10, n10⟩, -, X10, ⟨Lc10, hQ10, l10, y10, z10⟩, st10⟩ := X9.virtualBack hx (y := (⟨"java/lang/String", "charAt", "(I)C"⟩ : MethodName)) (z := (⟨"java/lang/String", "charAt", "(I)C"⟩ : MethodName)) hown (mvT hZ (hw _ (List.mem_of_getElem? (i := 47) rfl))) (mvT hZ (hw _ (List.mem_of_getElem? (i := 48) rfl))) (notFace_of_selects (args := #[]) (mvT hZ (hw _ (List.mem_of_getElem? (i := 50) rfl)))) (mvT hZ (hw _ (List.mem_of_getElem? (i := 50) rfl))) (mvT hZ (hw _ (List.mem_of_getElem? (i := 49) rfl))) (by decide) (backOf (W := 0) (own_charAt l Z a0 hw [] o_ZERO_OR_MORE_symbol o_ZERO_OR_MORE_symbol_value kc_o_ZERO_OR_MORE_symbol_value (42 : Int32) i_COMPACT_STRINGS v_SIOOBE_FORMATTER h0 n0 Z0 O0 S_COMPACT_STRINGS nz_i_COMPACT_STRINGS S_SIOOBE_FORMATTER ir_v_SIOOBE_FORMATTER (E_o_ZERO_OR_MORE_symbol.ext O0.2) (F_o_ZERO_OR_MORE_symbol_value.ext O0.2) (F_o_ZERO_OR_MORE_symbol_coder.ext O0.2) (V_o_ZERO_OR_MORE_symbol_value.ext O0.2) rfl rfl) hZ (hw _ (List.mem_of_getElem? (i := 51) rfl)) (hw _ (List.mem_of_getElem? (i := 35) rfl)) (by decide) (by decide)) q10a q10c (g := (mkF m 38 #[.val (.int p1), .val (.ref o_ZERO_OR_MORE), .val (.ref o_ZERO_OR_MORE), .val (.ref o_ZERO_OR_MORE_symbol)] [(.int (0 : Int32)), (.ref o_ZERO_OR_MORE_symbol)])) rfl (by rw [hml]; rfl) (Steps.refl _) (argsL := [(.int (0 : Int32))]) (rest := []) (lenOf own_pd143 rfl) rfl (by show 2 * 0 + _ ≤ _; exact Nat.le_of_eq rfl) (hb hby own_d142) (fun _ _ => ⟨rfl, e9, (by decide : 0 + 0 ≤ _), (by decide : 0 + 0 ≤ _)⟩)
    dsimp only [Pt.U, Pt.locs, Pt.cells, Pt.slots] at X10 l10 y10 z10 st10 hQ10
    subst l10 y10 z10
    obtain ⟨rfl, Nq10, eq10⟩ := hQ10
    have N10 := Fr.app N9 Nq10
    have e10 : T10.heap = h0 := eq10
    refine own_go (fun t k => st10.trans k) ?_
    show OwnG p.tables e below _ (T10.setTop (mkF m 41 #[.val (.int p1), .val (.ref o_ZERO_OR_MORE), .val (.ref o_ZERO_OR_MORE), .val (.ref o_ZERO_OR_MORE_symbol)] [(.int (42 : Int32))]))
    refine own_go (fun t k => XS.iloadN X10.here hx rfl (hb hby own_d144) rfl  k) ?_
    show OwnG p.tables e below _ (T10.setTop (mkF m 42 #[.val (.int p1), .val (.ref o_ZERO_OR_MORE), .val (.ref o_ZERO_OR_MORE), .val (.ref o_ZERO_OR_MORE_symbol)] [(.int p1), (.int (42 : Int32))]))
    refine own_go (fun t k => XS.icmpNo X10.here hx rfl (hb hby own_d145) rfl (teq ax2.symm).2 k) ?_
    show OwnG p.tables e below _ (T10.setTop (mkF m 45 #[.val (.int p1), .val (.ref o_ZERO_OR_MORE), .val (.ref o_ZERO_OR_MORE), .val (.ref o_ZERO_OR_MORE_symbol)] []))
    refine own_go (fun t k => XS.iconst X10.here hx rfl (hb hby own_d146) k) ?_
    show OwnG p.tables e below _ (T10.setTop (mkF m 46 #[.val (.int p1), .val (.ref o_ZERO_OR_MORE), .val (.ref o_ZERO_OR_MORE), .val (.ref o_ZERO_OR_MORE_symbol)] [(.int (1 : Int32))]))
    refine own_go (fun t k => XS.goto X10.here hx rfl (pc0 := 46) (pc' := 50) rfl (hb hby own_d147) (by decide) (by decide) k) ?_
    show OwnG p.tables e below _ (T10.setTop (mkF m 50 #[.val (.int p1), .val (.ref o_ZERO_OR_MORE), .val (.ref o_ZERO_OR_MORE), .val (.ref o_ZERO_OR_MORE_symbol)] [(.int (1 : Int32))]))
    obtain ⟨fs, hr, hrun, hended, hW, hsame⟩ := X10.leave (v := some (.int (1 : Int32))) (fun h => by rw [Bd.returns] at h; cases h)
    refine ⟨_, _, retN X10 hx (t := .boolean) Bd.returns (by simp) (hb hby own_d148) hr, hrun, hended, _, _, rfl, ?_, ⟨_, rfl⟩, hW, hsame.mono (by decide) (by decide)⟩
    show Q_own_agrees Z p1 o_INDICATED o_OPTIONAL o_ZERO_OR_MORE o_ONE_OR_MORE o_ZERO_OR_MORE_symbol o_ZERO_OR_MORE_symbol_value o_OPTIONAL_symbol o_OPTIONAL_symbol_value o_ONE_OR_MORE_symbol o_ONE_OR_MORE_symbol_value i_COMPACT_STRINGS v_SIOOBE_FORMATTER kc_o_INDICATED kc_o_ZERO_OR_MORE_symbol_value kc_o_OPTIONAL_symbol_value kc_o_ONE_OR_MORE_symbol_value h0 n0 _ T10.heap _
    rw [e10]
    exact ⟨rfl, N10, rfl⟩
  · rw [al2]
    show OwnG p.tables e below _ (T1.setTop (mkF m 4 #[.val (.int p1), .unset, .unset, .unset] [(.ref o_ONE_OR_MORE)]))
    refine own_go (fun t k => XS.astoreN X1.here hx rfl (hb hby own_d122) rfl rfl (l' := #[.val (.int p1), .val (.ref o_ONE_OR_MORE), .unset, .unset]) rfl k) ?_
    show OwnG p.tables e below _ (T1.setTop (mkF m 5 #[.val (.int p1), .val (.ref o_ONE_OR_MORE), .unset, .unset] []))
    refine own_go (fun t k => XS.iloadN X1.here hx rfl (hb hby own_d123) rfl  k) ?_
    show OwnG p.tables e below _ (T1.setTop (mkF m 6 #[.val (.int p1), .val (.ref o_ONE_OR_MORE), .unset, .unset] [(.int p1)]))
    obtain ⟨_, _, ⟨T11, L11, k11, n11⟩, -, X11, ⟨Lc11, hQ11, l11, y11, z11⟩, st11⟩ := Jvm.LawKit.callS X1 hx (y := (⟨"com/example/vigilant_grammar/vigilantgrammar/OccurrenceIndicatedByPinLaw", "expected", "(I)Lcom/example/vigilant_grammar/vigilantgrammar/ContentToken$Occurrence;"⟩ : MethodName)) hown (mvT hZ (hw _ (List.mem_of_getElem? (i := 20) rfl))) (mvT hZ (hw _ (List.mem_of_getElem? (i := 21) rfl))) (mvT hZ (hw _ (List.mem_of_getElem? (i := 7) rfl))) (mvT hZ (hw _ (List.mem_of_getElem? (i := 22) rfl))) (by decide) (backOf (W := 0) (own_expected l Z a0 hw [] p1 o_INDICATED o_OPTIONAL o_ZERO_OR_MORE o_ONE_OR_MORE o_ZERO_OR_MORE_symbol o_ZERO_OR_MORE_symbol_value o_OPTIONAL_symbol o_OPTIONAL_symbol_value o_ONE_OR_MORE_symbol o_ONE_OR_MORE_symbol_value i_COMPACT_STRINGS v_SIOOBE_FORMATTER kc_o_INDICATED kc_o_ZERO_OR_MORE_symbol_value kc_o_OPTIONAL_symbol_value kc_o_ONE_OR_MORE_symbol_value h0 n0 Z0 O0 S_INDICATED S_OPTIONAL E_o_OPTIONAL F_o_OPTIONAL_mark S_ZERO_OR_MORE E_o_ZERO_OR_MORE F_o_ZERO_OR_MORE_mark S_ONE_OR_MORE E_o_ONE_OR_MORE F_o_ONE_OR_MORE_mark F_o_ZERO_OR_MORE_symbol E_o_ZERO_OR_MORE_symbol F_o_ZERO_OR_MORE_symbol_value F_o_ZERO_OR_MORE_symbol_coder F_o_OPTIONAL_symbol E_o_OPTIONAL_symbol F_o_OPTIONAL_symbol_value F_o_OPTIONAL_symbol_coder F_o_ONE_OR_MORE_symbol E_o_ONE_OR_MORE_symbol F_o_ONE_OR_MORE_symbol_value F_o_ONE_OR_MORE_symbol_coder S_COMPACT_STRINGS nz_i_COMPACT_STRINGS S_SIOOBE_FORMATTER ir_v_SIOOBE_FORMATTER V_o_INDICATED V_o_ZERO_OR_MORE_symbol_value V_o_OPTIONAL_symbol_value V_o_ONE_OR_MORE_symbol_value) hZ (hw _ (List.mem_of_getElem? (i := 22) rfl)) (hw _ (List.mem_of_getElem? (i := 7) rfl)) (by decide) (by decide)) (g := (mkF m 6 #[.val (.int p1), .val (.ref o_ONE_OR_MORE), .unset, .unset] [(.int p1)])) rfl (by rw [hml]; rfl) (argsL := [(.int p1)]) (rest := []) (lenOf own_pd121 rfl) rfl (by show 2 * 0 + _ ≤ _; exact Nat.le_of_eq rfl) (hb hby own_d124) (fun _ _ => ⟨rfl, e1, (by decide : 0 + 0 ≤ _), (by decide : 0 + 0 ≤ _)⟩)
    dsimp only [Pt.U, Pt.locs, Pt.cells, Pt.slots] at X11 l11 y11 z11 st11 hQ11
    subst l11 y11 z11
    obtain ⟨rfl, Nq11, eq11⟩ := hQ11
    have N11 := Fr.app N1 Nq11
    have e11 : T11.heap = h0 := eq11
    refine own_go (fun t k => st11 t k) ?_
    show OwnG p.tables e below _ (T11.setTop (mkF m 9 #[.val (.int p1), .val (.ref o_ONE_OR_MORE), .unset, .unset] [(own_val p1 o_OPTIONAL o_ZERO_OR_MORE o_ONE_OR_MORE)]))
    rw [al2]
    show OwnG p.tables e below _ (T11.setTop (mkF m 9 #[.val (.int p1), .val (.ref o_ONE_OR_MORE), .unset, .unset] [(.ref o_ONE_OR_MORE)]))
    refine own_go (fun t k => XS.astoreN X11.here hx rfl (hb hby own_d125) rfl rfl (l' := #[.val (.int p1), .val (.ref o_ONE_OR_MORE), .val (.ref o_ONE_OR_MORE), .unset]) rfl k) ?_
    show OwnG p.tables e below _ (T11.setTop (mkF m 10 #[.val (.int p1), .val (.ref o_ONE_OR_MORE), .val (.ref o_ONE_OR_MORE), .unset] []))
    refine own_go (fun t k => XS.aloadN X11.here hx rfl (hb hby own_d126) rfl rfl k) ?_
    show OwnG p.tables e below _ (T11.setTop (mkF m 11 #[.val (.int p1), .val (.ref o_ONE_OR_MORE), .val (.ref o_ONE_OR_MORE), .unset] [(.ref o_ONE_OR_MORE)]))
    refine own_go (fun t k => XS.aloadN X11.here hx rfl (hb hby own_d127) rfl rfl k) ?_
    show OwnG p.tables e below _ (T11.setTop (mkF m 12 #[.val (.int p1), .val (.ref o_ONE_OR_MORE), .val (.ref o_ONE_OR_MORE), .unset] [(.ref o_ONE_OR_MORE), (.ref o_ONE_OR_MORE)]))
    refine own_go (fun t k => Jvm.RoadKit.acmp (g := (mkF m 12 #[.val (.int p1), .val (.ref o_ONE_OR_MORE), .val (.ref o_ONE_OR_MORE), .unset] [(.ref o_ONE_OR_MORE), (.ref o_ONE_OR_MORE)])) X11 hx rfl rfl rfl (pc0 := 12) (pc' := 17) (same := true) rfl (hb hby own_d128) rfl (decide_eq_true rfl) (by decide) (by decide) k) ?_
    show OwnG p.tables e below _ (T11.setTop (mkF m 17 #[.val (.int p1), .val (.ref o_ONE_OR_MORE), .val (.ref o_ONE_OR_MORE), .unset] []))
    refine own_go (fun t k => XS.aloadN X11.here hx rfl (hb hby own_d129) rfl rfl k) ?_
    show OwnG p.tables e below _ (T11.setTop (mkF m 18 #[.val (.int p1), .val (.ref o_ONE_OR_MORE), .val (.ref o_ONE_OR_MORE), .unset] [(.ref o_ONE_OR_MORE)]))
    refine own_go (fun t k => XS.ifnonnullYes X11.here hx rfl (pc0 := 18) (pc' := 23) rfl (hb hby own_d130) rfl (by decide) (by decide) k) ?_
    show OwnG p.tables e below _ (T11.setTop (mkF m 23 #[.val (.int p1), .val (.ref o_ONE_OR_MORE), .val (.ref o_ONE_OR_MORE), .unset] []))
    refine own_go (fun t k => XS.aloadN X11.here hx rfl (hb hby own_d131) rfl rfl k) ?_
    show OwnG p.tables e below _ (T11.setTop (mkF m 24 #[.val (.int p1), .val (.ref o_ONE_OR_MORE), .val (.ref o_ONE_OR_MORE), .unset] [(.ref o_ONE_OR_MORE)]))
    obtain ⟨cq12, kq12, q12a, q12b, q12c⟩ := isOf hZ e11 (E_o_ONE_OR_MORE.ext O0.2)
    obtain ⟨_, _, ⟨T12, L12, k12, n12⟩, -, X12, ⟨Lc12, hQ12, l12, y12, z12⟩, st12⟩ := X11.virtualBack hx (y := (⟨"com/example/vigilant_grammar/vigilantgrammar/ContentToken$Occurrence", "symbol", "()Ljava/lang/String;"⟩ : MethodName)) (z := (⟨"com/example/vigilant_grammar/vigilantgrammar/ContentToken$Occurrence", "symbol", "()Ljava/lang/String;"⟩ : MethodName)) hown (mvT hZ (hw _ (List.mem_of_getElem? (i := 24) rfl))) (mvT hZ (hw _ (List.mem_of_getElem? (i := 25) rfl))) (notFace_of_selects (args := #[]) (mvT hZ (hw _ (List.mem_of_getElem? (i := 27) rfl)))) (mvT hZ (hw _ (List.mem_of_getElem? (i := 27) rfl))) (mvT hZ (hw _ (List.mem_of_getElem? (i := 26) rfl))) (by decide) (backOf (W := 0) (own_symbol l Z a0 hw [] o_ONE_OR_MORE o_ONE_OR_MORE_symbol h0 n0 Z0 (F_o_ONE_OR_MORE_symbol.ext O0.2)) hZ (hw _ (List.mem_of_getElem? (i := 28) rfl)) (hw _ (List.mem_of_getElem? (i := 11) rfl)) (by decide) (by decide)) q12a q12c (g := (mkF m 24 #[.val (.int p1), .val (.ref o_ONE_OR_MORE), .val (.ref o_ONE_OR_MORE), .unset] [(.ref o_ONE_OR_MORE)])) rfl (by rw [hml]; rfl) (Steps.refl _) (argsL := []) (rest := []) (lenOf own_pd133 rfl) rfl (by show 2 * 0 + _ ≤ _; exact Nat.le_of_eq rfl) (hb hby own_d132) (fun _ _ => ⟨rfl, e11, (by decide : 0 + 0 ≤ _), (by decide : 0 + 0 ≤ _)⟩)
    dsimp only [Pt.U, Pt.locs, Pt.cells, Pt.slots] at X12 l12 y12 z12 st12 hQ12
    subst l12 y12 z12
    obtain ⟨rfl, Nq12, eq12⟩ := hQ12
    have N12 := Fr.app N11 Nq12
    have e12 : T12.heap = h0 := eq12
    refine own_go (fun t k => st12.trans k) ?_
    show OwnG p.tables e below _ (T12.setTop (mkF m 27 #[.val (.int p1), .val (.ref o_ONE_OR_MORE), .val (.ref o_ONE_OR_MORE), .unset] [(.ref o_ONE_OR_MORE_symbol)]))
    refine own_go (fun t k => XS.astoreN X12.here hx rfl (hb hby own_d134) rfl rfl (l' := #[.val (.int p1), .val (.ref o_ONE_OR_MORE), .val (.ref o_ONE_OR_MORE), .val (.ref o_ONE_OR_MORE_symbol)]) rfl k) ?_
    show OwnG p.tables e below _ (T12.setTop (mkF m 28 #[.val (.int p1), .val (.ref o_ONE_OR_MORE), .val (.ref o_ONE_OR_MORE), .val (.ref o_ONE_OR_MORE_symbol)] []))
    refine own_go (fun t k => XS.aloadN X12.here hx rfl (hb hby own_d135) rfl rfl k) ?_
    show OwnG p.tables e below _ (T12.setTop (mkF m 29 #[.val (.int p1), .val (.ref o_ONE_OR_MORE), .val (.ref o_ONE_OR_MORE), .val (.ref o_ONE_OR_MORE_symbol)] [(.ref o_ONE_OR_MORE_symbol)]))
    obtain ⟨cq13, kq13, q13a, q13b, q13c⟩ := isOf hZ e12 (E_o_ONE_OR_MORE_symbol.ext O0.2)
    obtain ⟨_, _, ⟨T13, L13, k13, n13⟩, -, X13, ⟨Lc13, hQ13, l13, y13, z13⟩, st13⟩ := X12.virtualBack hx (y := (⟨"java/lang/String", "length", "()I"⟩ : MethodName)) (z := (⟨"java/lang/String", "length", "()I"⟩ : MethodName)) hown (mvT hZ (hw _ (List.mem_of_getElem? (i := 31) rfl))) (mvT hZ (hw _ (List.mem_of_getElem? (i := 32) rfl))) (notFace_of_selects (args := #[]) (mvT hZ (hw _ (List.mem_of_getElem? (i := 34) rfl)))) (mvT hZ (hw _ (List.mem_of_getElem? (i := 34) rfl))) (mvT hZ (hw _ (List.mem_of_getElem? (i := 33) rfl))) (by decide) (backOf (W := 0) (own_length l Z a0 hw [] o_ONE_OR_MORE_symbol o_ONE_OR_MORE_symbol_value kc_o_ONE_OR_MORE_symbol_value (43 : Int32) i_COMPACT_STRINGS h0 n0 Z0 O0 S_COMPACT_STRINGS nz_i_COMPACT_STRINGS (E_o_ONE_OR_MORE_symbol.ext O0.2) (F_o_ONE_OR_MORE_symbol_value.ext O0.2) (F_o_ONE_OR_MORE_symbol_coder.ext O0.2) (V_o_ONE_OR_MORE_symbol_value.ext O0.2)) hZ (hw _ (List.mem_of_getElem? (i := 36) rfl)) (hw _ (List.mem_of_getElem? (i := 35) rfl)) (by decide) (by decide)) q13a q13c (g := (mkF m 29 #[.val (.int p1), .val (.ref o_ONE_OR_MORE), .val (.ref o_ONE_OR_MORE), .val (.ref o_ONE_OR_MORE_symbol)] [(.ref o_ONE_OR_MORE_symbol)])) rfl (by rw [hml]; rfl) (Steps.refl _) (argsL := []) (rest := []) (lenOf own_pd137 rfl) rfl (by show 2 * 0 + _ ≤ _; exact Nat.le_of_eq rfl) (hb hby own_d136) (fun _ _ => ⟨rfl, e12, (by decide : 0 + 0 ≤ _), (by decide : 0 + 0 ≤ _)⟩)
    dsimp only [Pt.U, Pt.locs, Pt.cells, Pt.slots] at X13 l13 y13 z13 st13 hQ13
    subst l13 y13 z13
    obtain ⟨rfl, Nq13, eq13⟩ := hQ13
    have N13 := Fr.app N12 Nq13
    have e13 : T13.heap = h0 := eq13
    refine own_go (fun t k => st13.trans k) ?_
    show OwnG p.tables e below _ (T13.setTop (mkF m 32 #[.val (.int p1), .val (.ref o_ONE_OR_MORE), .val (.ref o_ONE_OR_MORE), .val (.ref o_ONE_OR_MORE_symbol)] [(.int (1 : Int32))]))
    refine own_go (fun t k => XS.iconst X13.here hx rfl (hb hby own_d138) k) ?_
    show OwnG p.tables e below _ (T13.setTop (mkF m 33 #[.val (.int p1), .val (.ref o_ONE_OR_MORE), .val (.ref o_ONE_OR_MORE), .val (.ref o_ONE_OR_MORE_symbol)] [(.int (1 : Int32)), (.int (1 : Int32))]))
    refine own_go (fun t k => XS.icmpNo X13.here hx rfl (hb hby own_d139) rfl (teq (by decide : (1 : Int32) = (1 : Int32))).2 k) ?_
    show OwnG p.tables e below _ (T13.setTop (mkF m 36 #[.val (.int p1), .val (.ref o_ONE_OR_MORE), .val (.ref o_ONE_OR_MORE), .val (.ref o_ONE_OR_MORE_symbol)] []))
    refine own_go (fun t k => XS.aloadN X13.here hx rfl (hb hby own_d140) rfl rfl k) ?_
    show OwnG p.tables e below _ (T13.setTop (mkF m 37 #[.val (.int p1), .val (.ref o_ONE_OR_MORE), .val (.ref o_ONE_OR_MORE), .val (.ref o_ONE_OR_MORE_symbol)] [(.ref o_ONE_OR_MORE_symbol)]))
    refine own_go (fun t k => XS.iconst X13.here hx rfl (hb hby own_d141) k) ?_
    show OwnG p.tables e below _ (T13.setTop (mkF m 38 #[.val (.int p1), .val (.ref o_ONE_OR_MORE), .val (.ref o_ONE_OR_MORE), .val (.ref o_ONE_OR_MORE_symbol)] [(.int (0 : Int32)), (.ref o_ONE_OR_MORE_symbol)]))
    obtain ⟨cq14, kq14, q14a, q14b, q14c⟩ := isOf hZ e13 (E_o_ONE_OR_MORE_symbol.ext O0.2)
    obtain ⟨_, _, ⟨T14, L14, k14, n14⟩, -, X14, ⟨Lc14, hQ14, l14, y14, z14⟩, st14⟩ := X13.virtualBack hx (y := (⟨"java/lang/String", "charAt", "(I)C"⟩ : MethodName)) (z := (⟨"java/lang/String", "charAt", "(I)C"⟩ : MethodName)) hown (mvT hZ (hw _ (List.mem_of_getElem? (i := 47) rfl))) (mvT hZ (hw _ (List.mem_of_getElem? (i := 48) rfl))) (notFace_of_selects (args := #[]) (mvT hZ (hw _ (List.mem_of_getElem? (i := 50) rfl)))) (mvT hZ (hw _ (List.mem_of_getElem? (i := 50) rfl))) (mvT hZ (hw _ (List.mem_of_getElem? (i := 49) rfl))) (by decide) (backOf (W := 0) (own_charAt l Z a0 hw [] o_ONE_OR_MORE_symbol o_ONE_OR_MORE_symbol_value kc_o_ONE_OR_MORE_symbol_value (43 : Int32) i_COMPACT_STRINGS v_SIOOBE_FORMATTER h0 n0 Z0 O0 S_COMPACT_STRINGS nz_i_COMPACT_STRINGS S_SIOOBE_FORMATTER ir_v_SIOOBE_FORMATTER (E_o_ONE_OR_MORE_symbol.ext O0.2) (F_o_ONE_OR_MORE_symbol_value.ext O0.2) (F_o_ONE_OR_MORE_symbol_coder.ext O0.2) (V_o_ONE_OR_MORE_symbol_value.ext O0.2) rfl rfl) hZ (hw _ (List.mem_of_getElem? (i := 51) rfl)) (hw _ (List.mem_of_getElem? (i := 35) rfl)) (by decide) (by decide)) q14a q14c (g := (mkF m 38 #[.val (.int p1), .val (.ref o_ONE_OR_MORE), .val (.ref o_ONE_OR_MORE), .val (.ref o_ONE_OR_MORE_symbol)] [(.int (0 : Int32)), (.ref o_ONE_OR_MORE_symbol)])) rfl (by rw [hml]; rfl) (Steps.refl _) (argsL := [(.int (0 : Int32))]) (rest := []) (lenOf own_pd143 rfl) rfl (by show 2 * 0 + _ ≤ _; exact Nat.le_of_eq rfl) (hb hby own_d142) (fun _ _ => ⟨rfl, e13, (by decide : 0 + 0 ≤ _), (by decide : 0 + 0 ≤ _)⟩)
    dsimp only [Pt.U, Pt.locs, Pt.cells, Pt.slots] at X14 l14 y14 z14 st14 hQ14
    subst l14 y14 z14
    obtain ⟨rfl, Nq14, eq14⟩ := hQ14
    have N14 := Fr.app N13 Nq14
    have e14 : T14.heap = h0 := eq14
    refine own_go (fun t k => st14.trans k) ?_
    show OwnG p.tables e below _ (T14.setTop (mkF m 41 #[.val (.int p1), .val (.ref o_ONE_OR_MORE), .val (.ref o_ONE_OR_MORE), .val (.ref o_ONE_OR_MORE_symbol)] [(.int (43 : Int32))]))
    refine own_go (fun t k => XS.iloadN X14.here hx rfl (hb hby own_d144) rfl  k) ?_
    show OwnG p.tables e below _ (T14.setTop (mkF m 42 #[.val (.int p1), .val (.ref o_ONE_OR_MORE), .val (.ref o_ONE_OR_MORE), .val (.ref o_ONE_OR_MORE_symbol)] [(.int p1), (.int (43 : Int32))]))
    refine own_go (fun t k => XS.icmpNo X14.here hx rfl (hb hby own_d145) rfl (teq ax2.symm).2 k) ?_
    show OwnG p.tables e below _ (T14.setTop (mkF m 45 #[.val (.int p1), .val (.ref o_ONE_OR_MORE), .val (.ref o_ONE_OR_MORE), .val (.ref o_ONE_OR_MORE_symbol)] []))
    refine own_go (fun t k => XS.iconst X14.here hx rfl (hb hby own_d146) k) ?_
    show OwnG p.tables e below _ (T14.setTop (mkF m 46 #[.val (.int p1), .val (.ref o_ONE_OR_MORE), .val (.ref o_ONE_OR_MORE), .val (.ref o_ONE_OR_MORE_symbol)] [(.int (1 : Int32))]))
    refine own_go (fun t k => XS.goto X14.here hx rfl (pc0 := 46) (pc' := 50) rfl (hb hby own_d147) (by decide) (by decide) k) ?_
    show OwnG p.tables e below _ (T14.setTop (mkF m 50 #[.val (.int p1), .val (.ref o_ONE_OR_MORE), .val (.ref o_ONE_OR_MORE), .val (.ref o_ONE_OR_MORE_symbol)] [(.int (1 : Int32))]))
    obtain ⟨fs, hr, hrun, hended, hW, hsame⟩ := X14.leave (v := some (.int (1 : Int32))) (fun h => by rw [Bd.returns] at h; cases h)
    refine ⟨_, _, retN X14 hx (t := .boolean) Bd.returns (by simp) (hb hby own_d148) hr, hrun, hended, _, _, rfl, ?_, ⟨_, rfl⟩, hW, hsame.mono (by decide) (by decide)⟩
    show Q_own_agrees Z p1 o_INDICATED o_OPTIONAL o_ZERO_OR_MORE o_ONE_OR_MORE o_ZERO_OR_MORE_symbol o_ZERO_OR_MORE_symbol_value o_OPTIONAL_symbol o_OPTIONAL_symbol_value o_ONE_OR_MORE_symbol o_ONE_OR_MORE_symbol_value i_COMPACT_STRINGS v_SIOOBE_FORMATTER kc_o_INDICATED kc_o_ZERO_OR_MORE_symbol_value kc_o_OPTIONAL_symbol_value kc_o_ONE_OR_MORE_symbol_value h0 n0 _ T14.heap _
    rw [e14]
    exact ⟨rfl, N14, rfl⟩
  · rw [al2]
    show OwnG p.tables e below _ (T1.setTop (mkF m 4 #[.val (.int p1), .unset, .unset, .unset] [.null]))
    refine own_go (fun t k => XS.astoreN X1.here hx rfl (hb hby own_d122) rfl rfl (l' := #[.val (.int p1), .val .null, .unset, .unset]) rfl k) ?_
    show OwnG p.tables e below _ (T1.setTop (mkF m 5 #[.val (.int p1), .val .null, .unset, .unset] []))
    refine own_go (fun t k => XS.iloadN X1.here hx rfl (hb hby own_d123) rfl  k) ?_
    show OwnG p.tables e below _ (T1.setTop (mkF m 6 #[.val (.int p1), .val .null, .unset, .unset] [(.int p1)]))
    obtain ⟨_, _, ⟨T15, L15, k15, n15⟩, -, X15, ⟨Lc15, hQ15, l15, y15, z15⟩, st15⟩ := Jvm.LawKit.callS X1 hx (y := (⟨"com/example/vigilant_grammar/vigilantgrammar/OccurrenceIndicatedByPinLaw", "expected", "(I)Lcom/example/vigilant_grammar/vigilantgrammar/ContentToken$Occurrence;"⟩ : MethodName)) hown (mvT hZ (hw _ (List.mem_of_getElem? (i := 20) rfl))) (mvT hZ (hw _ (List.mem_of_getElem? (i := 21) rfl))) (mvT hZ (hw _ (List.mem_of_getElem? (i := 7) rfl))) (mvT hZ (hw _ (List.mem_of_getElem? (i := 22) rfl))) (by decide) (backOf (W := 0) (own_expected l Z a0 hw [] p1 o_INDICATED o_OPTIONAL o_ZERO_OR_MORE o_ONE_OR_MORE o_ZERO_OR_MORE_symbol o_ZERO_OR_MORE_symbol_value o_OPTIONAL_symbol o_OPTIONAL_symbol_value o_ONE_OR_MORE_symbol o_ONE_OR_MORE_symbol_value i_COMPACT_STRINGS v_SIOOBE_FORMATTER kc_o_INDICATED kc_o_ZERO_OR_MORE_symbol_value kc_o_OPTIONAL_symbol_value kc_o_ONE_OR_MORE_symbol_value h0 n0 Z0 O0 S_INDICATED S_OPTIONAL E_o_OPTIONAL F_o_OPTIONAL_mark S_ZERO_OR_MORE E_o_ZERO_OR_MORE F_o_ZERO_OR_MORE_mark S_ONE_OR_MORE E_o_ONE_OR_MORE F_o_ONE_OR_MORE_mark F_o_ZERO_OR_MORE_symbol E_o_ZERO_OR_MORE_symbol F_o_ZERO_OR_MORE_symbol_value F_o_ZERO_OR_MORE_symbol_coder F_o_OPTIONAL_symbol E_o_OPTIONAL_symbol F_o_OPTIONAL_symbol_value F_o_OPTIONAL_symbol_coder F_o_ONE_OR_MORE_symbol E_o_ONE_OR_MORE_symbol F_o_ONE_OR_MORE_symbol_value F_o_ONE_OR_MORE_symbol_coder S_COMPACT_STRINGS nz_i_COMPACT_STRINGS S_SIOOBE_FORMATTER ir_v_SIOOBE_FORMATTER V_o_INDICATED V_o_ZERO_OR_MORE_symbol_value V_o_OPTIONAL_symbol_value V_o_ONE_OR_MORE_symbol_value) hZ (hw _ (List.mem_of_getElem? (i := 22) rfl)) (hw _ (List.mem_of_getElem? (i := 7) rfl)) (by decide) (by decide)) (g := (mkF m 6 #[.val (.int p1), .val .null, .unset, .unset] [(.int p1)])) rfl (by rw [hml]; rfl) (argsL := [(.int p1)]) (rest := []) (lenOf own_pd121 rfl) rfl (by show 2 * 0 + _ ≤ _; exact Nat.le_of_eq rfl) (hb hby own_d124) (fun _ _ => ⟨rfl, e1, (by decide : 0 + 0 ≤ _), (by decide : 0 + 0 ≤ _)⟩)
    dsimp only [Pt.U, Pt.locs, Pt.cells, Pt.slots] at X15 l15 y15 z15 st15 hQ15
    subst l15 y15 z15
    obtain ⟨rfl, Nq15, eq15⟩ := hQ15
    have N15 := Fr.app N1 Nq15
    have e15 : T15.heap = h0 := eq15
    refine own_go (fun t k => st15 t k) ?_
    show OwnG p.tables e below _ (T15.setTop (mkF m 9 #[.val (.int p1), .val .null, .unset, .unset] [(own_val p1 o_OPTIONAL o_ZERO_OR_MORE o_ONE_OR_MORE)]))
    rw [al2]
    show OwnG p.tables e below _ (T15.setTop (mkF m 9 #[.val (.int p1), .val .null, .unset, .unset] [.null]))
    refine own_go (fun t k => XS.astoreN X15.here hx rfl (hb hby own_d125) rfl rfl (l' := #[.val (.int p1), .val .null, .val .null, .unset]) rfl k) ?_
    show OwnG p.tables e below _ (T15.setTop (mkF m 10 #[.val (.int p1), .val .null, .val .null, .unset] []))
    refine own_go (fun t k => XS.aloadN X15.here hx rfl (hb hby own_d126) rfl rfl k) ?_
    show OwnG p.tables e below _ (T15.setTop (mkF m 11 #[.val (.int p1), .val .null, .val .null, .unset] [.null]))
    refine own_go (fun t k => XS.aloadN X15.here hx rfl (hb hby own_d127) rfl rfl k) ?_
    show OwnG p.tables e below _ (T15.setTop (mkF m 12 #[.val (.int p1), .val .null, .val .null, .unset] [.null, .null]))
    refine own_go (fun t k => Jvm.RoadKit.acmp (g := (mkF m 12 #[.val (.int p1), .val .null, .val .null, .unset] [.null, .null])) X15 hx rfl rfl rfl (pc0 := 12) (pc' := 17) (same := true) rfl (hb hby own_d128) rfl (decide_eq_true rfl) (by decide) (by decide) k) ?_
    show OwnG p.tables e below _ (T15.setTop (mkF m 17 #[.val (.int p1), .val .null, .val .null, .unset] []))
    refine own_go (fun t k => XS.aloadN X15.here hx rfl (hb hby own_d129) rfl rfl k) ?_
    show OwnG p.tables e below _ (T15.setTop (mkF m 18 #[.val (.int p1), .val .null, .val .null, .unset] [.null]))
    refine own_go (fun t k => XS.ifnonnullNo X15.here hx rfl (hb hby own_d130) rfl k) ?_
    show OwnG p.tables e below _ (T15.setTop (mkF m 21 #[.val (.int p1), .val .null, .val .null, .unset] []))
    refine own_go (fun t k => XS.iconst X15.here hx rfl (hb hby own_d149) k) ?_
    show OwnG p.tables e below _ (T15.setTop (mkF m 22 #[.val (.int p1), .val .null, .val .null, .unset] [(.int (1 : Int32))]))
    obtain ⟨fs, hr, hrun, hended, hW, hsame⟩ := X15.leave (v := some (.int (1 : Int32))) (fun h => by rw [Bd.returns] at h; cases h)
    refine ⟨_, _, retN X15 hx (t := .boolean) Bd.returns (by simp) (hb hby own_d150) hr, hrun, hended, _, _, rfl, ?_, ⟨_, rfl⟩, hW, hsame.mono (by decide) (by decide)⟩
    show Q_own_agrees Z p1 o_INDICATED o_OPTIONAL o_ZERO_OR_MORE o_ONE_OR_MORE o_ZERO_OR_MORE_symbol o_ZERO_OR_MORE_symbol_value o_OPTIONAL_symbol o_OPTIONAL_symbol_value o_ONE_OR_MORE_symbol o_ONE_OR_MORE_symbol_value i_COMPACT_STRINGS v_SIOOBE_FORMATTER kc_o_INDICATED kc_o_ZERO_OR_MORE_symbol_value kc_o_OPTIONAL_symbol_value kc_o_ONE_OR_MORE_symbol_value h0 n0 _ T15.heap _
    rw [e15]
    exact ⟨rfl, N15, rfl⟩
theorem own_ef151 (m : MethodId) (p0 : Int32) (p1 : Int32) : entryFrame m #[(.int p0), (.int p1)] maxLocals = mkF m 0 #[.val (.int p0), .val (.int p1), .unset, .unset] [] := by first | (simp [entryFrame, mkF, argsToLocals, Value.category, maxLocals]; done) | rfl
theorem own_pd152 : parseMethodDescriptor "(I)Z" = some ⟨[.int], some .boolean⟩ := by decide +kernel
def Q_own_law (Z : State) (p0 : Int32) (p1 : Int32) (o_INDICATED : Addr) (o_OPTIONAL : Addr) (o_ZERO_OR_MORE : Addr) (o_ONE_OR_MORE : Addr) (o_ZERO_OR_MORE_symbol : Addr) (o_ZERO_OR_MORE_symbol_value : Addr) (o_OPTIONAL_symbol : Addr) (o_OPTIONAL_symbol_value : Addr) (o_ONE_OR_MORE_symbol : Addr) (o_ONE_OR_MORE_symbol_value : Addr) (i_COMPACT_STRINGS : Int32) (v_SIOOBE_FORMATTER : Value) (kc_o_INDICATED : ClassId) (kc_o_ZERO_OR_MORE_symbol_value : ClassId) (kc_o_OPTIONAL_symbol_value : ClassId) (kc_o_ONE_OR_MORE_symbol_value : ClassId) (h0 : Heap) (n0 : Nat) (v : Option Value) (h : Heap) (L : List Loc) : Prop := v = some (.int (1 : Int32)) ∧ Fr n0 L
set_option maxRecDepth 65536 in
set_option maxHeartbeats 40000000 in
theorem own_law (l : Launch) (Z : State) (a0 : Array Value) (hw : ∀ d ∈ tables_1, d.before a0 Z = true) (ws : List Jvm.Cond) (p0 : Int32) (p1 : Int32) (o_INDICATED : Addr) (o_OPTIONAL : Addr) (o_ZERO_OR_MORE : Addr) (o_ONE_OR_MORE : Addr) (o_ZERO_OR_MORE_symbol : Addr) (o_ZERO_OR_MORE_symbol_value : Addr) (o_OPTIONAL_symbol : Addr) (o_OPTIONAL_symbol_value : Addr) (o_ONE_OR_MORE_symbol : Addr) (o_ONE_OR_MORE_symbol_value : Addr) (i_COMPACT_STRINGS : Int32) (v_SIOOBE_FORMATTER : Value) (kc_o_INDICATED : ClassId) (kc_o_ZERO_OR_MORE_symbol_value : ClassId) (kc_o_OPTIONAL_symbol_value : ClassId) (kc_o_ONE_OR_MORE_symbol_value : ClassId) (h0 : Heap) (n0 : Nat) (Z0 : n0 ≤ h0.size) (O0 : Old Z n0 h0) (S_INDICATED : Sta Z Z.heap "com/example/vigilant_grammar/vigilantgrammar/ContentToken$Occurrence" "INDICATED" "[Lcom/example/vigilant_grammar/vigilantgrammar/ContentToken$Occurrence;" (.ref o_INDICATED)) (S_OPTIONAL : Sta Z Z.heap "com/example/vigilant_grammar/vigilantgrammar/ContentToken$Occurrence" "OPTIONAL" "Lcom/example/vigilant_grammar/vigilantgrammar/ContentToken$Occurrence;" (.ref o_OPTIONAL)) (E_o_OPTIONAL : Exa Z Z.heap o_OPTIONAL "com/example/vigilant_grammar/vigilantgrammar/ContentToken$Occurrence") (F_o_OPTIONAL_mark : Fld Z Z.heap o_OPTIONAL "com/example/vigilant_grammar/vigilantgrammar/ContentToken$Occurrence" "mark" "I" (.int (63 : Int32))) (S_ZERO_OR_MORE : Sta Z Z.heap "com/example/vigilant_grammar/vigilantgrammar/ContentToken$Occurrence" "ZERO_OR_MORE" "Lcom/example/vigilant_grammar/vigilantgrammar/ContentToken$Occurrence;" (.ref o_ZERO_OR_MORE)) (E_o_ZERO_OR_MORE : Exa Z Z.heap o_ZERO_OR_MORE "com/example/vigilant_grammar/vigilantgrammar/ContentToken$Occurrence") (F_o_ZERO_OR_MORE_mark : Fld Z Z.heap o_ZERO_OR_MORE "com/example/vigilant_grammar/vigilantgrammar/ContentToken$Occurrence" "mark" "I" (.int (42 : Int32))) (S_ONE_OR_MORE : Sta Z Z.heap "com/example/vigilant_grammar/vigilantgrammar/ContentToken$Occurrence" "ONE_OR_MORE" "Lcom/example/vigilant_grammar/vigilantgrammar/ContentToken$Occurrence;" (.ref o_ONE_OR_MORE)) (E_o_ONE_OR_MORE : Exa Z Z.heap o_ONE_OR_MORE "com/example/vigilant_grammar/vigilantgrammar/ContentToken$Occurrence") (F_o_ONE_OR_MORE_mark : Fld Z Z.heap o_ONE_OR_MORE "com/example/vigilant_grammar/vigilantgrammar/ContentToken$Occurrence" "mark" "I" (.int (43 : Int32))) (F_o_ZERO_OR_MORE_symbol : Fld Z Z.heap o_ZERO_OR_MORE "com/example/vigilant_grammar/vigilantgrammar/ContentToken$Occurrence" "symbol" "Ljava/lang/String;" (.ref o_ZERO_OR_MORE_symbol)) (E_o_ZERO_OR_MORE_symbol : Exa Z Z.heap o_ZERO_OR_MORE_symbol "java/lang/String") (F_o_ZERO_OR_MORE_symbol_value : Fld Z Z.heap o_ZERO_OR_MORE_symbol "java/lang/String" "value" "[B" (.ref o_ZERO_OR_MORE_symbol_value)) (F_o_ZERO_OR_MORE_symbol_coder : Fld Z Z.heap o_ZERO_OR_MORE_symbol "java/lang/String" "coder" "B" (.int (0 : Int32))) (F_o_OPTIONAL_symbol : Fld Z Z.heap o_OPTIONAL "com/example/vigilant_grammar/vigilantgrammar/ContentToken$Occurrence" "symbol" "Ljava/lang/String;" (.ref o_OPTIONAL_symbol)) (E_o_OPTIONAL_symbol : Exa Z Z.heap o_OPTIONAL_symbol "java/lang/String") (F_o_OPTIONAL_symbol_value : Fld Z Z.heap o_OPTIONAL_symbol "java/lang/String" "value" "[B" (.ref o_OPTIONAL_symbol_value)) (F_o_OPTIONAL_symbol_coder : Fld Z Z.heap o_OPTIONAL_symbol "java/lang/String" "coder" "B" (.int (0 : Int32))) (F_o_ONE_OR_MORE_symbol : Fld Z Z.heap o_ONE_OR_MORE "com/example/vigilant_grammar/vigilantgrammar/ContentToken$Occurrence" "symbol" "Ljava/lang/String;" (.ref o_ONE_OR_MORE_symbol)) (E_o_ONE_OR_MORE_symbol : Exa Z Z.heap o_ONE_OR_MORE_symbol "java/lang/String") (F_o_ONE_OR_MORE_symbol_value : Fld Z Z.heap o_ONE_OR_MORE_symbol "java/lang/String" "value" "[B" (.ref o_ONE_OR_MORE_symbol_value)) (F_o_ONE_OR_MORE_symbol_coder : Fld Z Z.heap o_ONE_OR_MORE_symbol "java/lang/String" "coder" "B" (.int (0 : Int32))) (S_COMPACT_STRINGS : Sta Z Z.heap "java/lang/String" "COMPACT_STRINGS" "Z" (.int i_COMPACT_STRINGS)) (nz_i_COMPACT_STRINGS : i_COMPACT_STRINGS ≠ (0 : Int32)) (S_SIOOBE_FORMATTER : Sta Z Z.heap "jdk/internal/util/Preconditions" "SIOOBE_FORMATTER" "Ljava/util/function/BiFunction;" v_SIOOBE_FORMATTER) (ir_v_SIOOBE_FORMATTER : v_SIOOBE_FORMATTER.isRef = true) (V_o_INDICATED : Arv Z Z.heap o_INDICATED kc_o_INDICATED (.object "com/example/vigilant_grammar/vigilantgrammar/ContentToken$Occurrence") (3 : Int32) [(.ref o_OPTIONAL), (.ref o_ZERO_OR_MORE), (.ref o_ONE_OR_MORE)] .null) (V_o_ZERO_OR_MORE_symbol_value : Arv Z Z.heap o_ZERO_OR_MORE_symbol_value kc_o_ZERO_OR_MORE_symbol_value .byte (1 : Int32) [(.int (42 : Int32))] (.int (0 : Int32))) (V_o_OPTIONAL_symbol_value : Arv Z Z.heap o_OPTIONAL_symbol_value kc_o_OPTIONAL_symbol_value .byte (1 : Int32) [(.int (63 : Int32))] (.int (0 : Int32))) (V_o_ONE_OR_MORE_symbol_value : Arv Z Z.heap o_ONE_OR_MORE_symbol_value kc_o_ONE_OR_MORE_symbol_value .byte (1 : Int32) [(.int (43 : Int32))] (.int (0 : Int32))) :
    MetFree l x (head1 (Jvm.Cond.code x code maxLocals ret :: ws) room_1) (fun a U => a = #[(.int p0), (.int p1)] ∧ Z.Warmed39 U.vm ∧ U.heap = h0) (fun _ _ _ _ _ => True) (fun _ U o U' => ∃ v L, o = .returned v ∧ Q_own_law Z p0 p1 o_INDICATED o_OPTIONAL o_ZERO_OR_MORE o_ONE_OR_MORE o_ZERO_OR_MORE_symbol o_ZERO_OR_MORE_symbol_value o_OPTIONAL_symbol o_OPTIONAL_symbol_value o_ONE_OR_MORE_symbol o_ONE_OR_MORE_symbol_value i_COMPACT_STRINGS v_SIOOBE_FORMATTER kc_o_INDICATED kc_o_ZERO_OR_MORE_symbol_value kc_o_OPTIONAL_symbol_value kc_o_ONE_OR_MORE_symbol_value h0 n0 v U'.heap L ∧ FrameEnd U o U' L room_1.cells room_1.slots) := by
  refine MetFree.of_bodySF (plainFor_of_name own_pn96) hisR ?_
  intro p e s m args below meth c s₁ Bd hml0 hP hK
  obtain ⟨rfl, hZ, hh⟩ := hP
  have hx := Bd.exec
  have hby := Bd.bytes
  have hml : c.maxLocals = 4 := hml0
  have hown : s.vm.findClass "com/example/vigilant_grammar/vigilantgrammar/OccurrenceIndicatedByPinLaw" = some m.cls := findClass_of_methodNamed Bd.named
  have hnm := (name_of_methodNamed Bd.named Bd.method).1
  have X0 : Stand p l e room_1 s m #[(.int p0), (.int p1)] below meth c s₁ [] 0 0 := Stand.of_body Bd
  have e0 : s₁.heap = h0 := by rw [← hh, Bd.state]; rfl
  have N0 := Fr.nil n0
  have K0 := Keep.refl h0 []
  refine own_go (fun t k => castTop (own_ef151 m p0 p1) k) ?_
  show OwnG p.tables e below _ (s₁.setTop (mkF m 0 #[.val (.int p0), .val (.int p1), .unset, .unset] []))
  refine own_go (fun t k => XS.bipush X0.here hx rfl (hb hby at_0) k) ?_
  show OwnG p.tables e below _ (s₁.setTop (mkF m 2 #[.val (.int p0), .val (.int p1), .unset, .unset] [(.int (16 : Int32))]))
  obtain ⟨T1, h1, k1, X1, e1, E1, A1, st1⟩ := newP X0 hx hZ (hw _ (List.mem_of_getElem? (i := 0) rfl)) e0 (g := (mkF m 2 #[.val (.int p0), .val (.int p1), .unset, .unset] [(.int (16 : Int32))])) rfl (hb hby at_2) rfl (by decide) (cap := 16) (by decide) (by decide) (by decide) (by decide)
  obtain ⟨b1, g1⟩ : ∃ z, z = h0.size := ⟨_, rfl⟩
  rw [← g1] at A1 st1
  have g_b1 : n0 ≤ b1 := Nat.le_trans Z0 (Nat.le_of_eq g1.symm)
  have sz_b1 : h0.size ≤ b1 := Nat.le_trans K0.1 (Nat.le_of_eq g1.symm)
  have F2 : Old Z n0 h1 := O0.ext E1
  have K3 : Keep h0 h1 [] := K0.ext E1
  have Z3 : n0 ≤ h1.size := Nat.le_trans Z0 E1.1
  have F4 : Arv Z h1 b1 k1 .int (16 : Int32) [(.int (0 : Int32)), (.int (0 : Int32)), (.int (0 : Int32)), (.int (0 : Int32)), (.int (0 : Int32)), (.int (0 : Int32)), (.int (0 : Int32)), (.int (0 : Int32)), (.int (0 : Int32)), (.int (0 : Int32)), (.int (0 : Int32)), (.int (0 : Int32)), (.int (0 : Int32)), (.int (0 : Int32)), (.int (0 : Int32)), (.int (0 : Int32))] (.int (0 : Int32)) := (Arv.new A1 (by decide)).pad (pad_rep [] (.int (0 : Int32)) 16)
  refine own_go (fun t k => st1 t k) ?_
  show OwnG p.tables e below _ (T1.setTop (mkF m 4 #[.val (.int p0), .val (.int p1), .unset, .unset] [(.ref b1)]))
  refine own_go (fun t k => XS.dup X1.here hx rfl (hb hby at_4) rfl rfl k) ?_
  show OwnG p.tables e below _ (T1.setTop (mkF m 5 #[.val (.int p0), .val (.int p1), .unset, .unset] [(.ref b1), (.ref b1)]))
  refine own_go (fun t k => XS.iconst X1.here hx rfl (hb hby at_5) k) ?_
  show OwnG p.tables e below _ (T1.setTop (mkF m 6 #[.val (.int p0), .val (.int p1), .unset, .unset] [(.int (0 : Int32)), (.ref b1), (.ref b1)]))
  refine own_go (fun t k => XS.bipush X1.here hx rfl (hb hby at_6) k) ?_
  show OwnG p.tables e below _ (T1.setTop (mkF m 8 #[.val (.int p0), .val (.int p1), .unset, .unset] [(.int (63 : Int32)), (.int (0 : Int32)), (.ref b1), (.ref b1)]))
  have vv5 := F4
  obtain ⟨cl5, Ar5, qk5, Sz5, Nn5, Hs5, Gs5⟩ := vv5
  have hin5 : ¬ ((0 : Int32) < 0 ∨ cl5.slots.size ≤ ((0 : Int32)).toNatClampNeg) := inb_of Sz5 ⟨by decide, by decide⟩
  obtain ⟨T5, h5, X5, e5, W5, st5⟩ := stI X1 hx hZ e1 Ar5 (j := (0 : Int32)) hin5 (g := (mkF m 8 #[.val (.int p0), .val (.int p1), .unset, .unset] [(.int (63 : Int32)), (.int (0 : Int32)), (.ref b1), (.ref b1)])) rfl rfl (hb hby at_8)
  have F6 : Old Z n0 h5 := F2.wr W5 g_b1
  have N7 := Fr.snoc X5 N0 g_b1
  have K7 : Keep h0 h5 [] := K3.wr W5 (Or.inr sz_b1)
  have Z7 : n0 ≤ h5.size := Nat.le_trans Z3 (Keep.of_wr W5).1
  have F8 : Arv Z h5 b1 k1 .int (16 : Int32) [(.int (63 : Int32)), (.int (0 : Int32)), (.int (0 : Int32)), (.int (0 : Int32)), (.int (0 : Int32)), (.int (0 : Int32)), (.int (0 : Int32)), (.int (0 : Int32)), (.int (0 : Int32)), (.int (0 : Int32)), (.int (0 : Int32)), (.int (0 : Int32)), (.int (0 : Int32)), (.int (0 : Int32)), (.int (0 : Int32)), (.int (0 : Int32))] (.int (0 : Int32)) := Arv.set Ar5 qk5 Sz5 Nn5 Hs5 Gs5 rfl W5 0 rfl (Nat.le_of_ble_eq_true rfl)
  refine own_go (fun t k => st5 t k) ?_
  show OwnG p.tables e below _ (T5.setTop (mkF m 9 #[.val (.int p0), .val (.int p1), .unset, .unset] [(.ref b1)]))
  refine own_go (fun t k => XS.dup X5.here hx rfl (hb hby at_9) rfl rfl k) ?_
  show OwnG p.tables e below _ (T5.setTop (mkF m 10 #[.val (.int p0), .val (.int p1), .unset, .unset] [(.ref b1), (.ref b1)]))
  refine own_go (fun t k => XS.iconst X5.here hx rfl (hb hby at_10) k) ?_
  show OwnG p.tables e below _ (T5.setTop (mkF m 11 #[.val (.int p0), .val (.int p1), .unset, .unset] [(.int (1 : Int32)), (.ref b1), (.ref b1)]))
  refine own_go (fun t k => XS.bipush X5.here hx rfl (hb hby at_11) k) ?_
  show OwnG p.tables e below _ (T5.setTop (mkF m 13 #[.val (.int p0), .val (.int p1), .unset, .unset] [(.int (42 : Int32)), (.int (1 : Int32)), (.ref b1), (.ref b1)]))
  have vv9 := F8
  obtain ⟨cl9, Ar9, qk9, Sz9, Nn9, Hs9, Gs9⟩ := vv9
  have hin9 : ¬ ((1 : Int32) < 0 ∨ cl9.slots.size ≤ ((1 : Int32)).toNatClampNeg) := inb_of Sz9 ⟨by decide, by decide⟩
  obtain ⟨T9, h9, X9, e9, W9, st9⟩ := stI X5 hx hZ e5 Ar9 (j := (1 : Int32)) hin9 (g := (mkF m 13 #[.val (.int p0), .val (.int p1), .unset, .unset] [(.int (42 : Int32)), (.int (1 : Int32)), (.ref b1), (.ref b1)])) rfl rfl (hb hby at_13)
  have F10 : Old Z n0 h9 := F6.wr W9 g_b1
  have N11 := Fr.snoc X9 N7 g_b1
  have K11 : Keep h0 h9 [] := K7.wr W9 (Or.inr sz_b1)
  have Z11 : n0 ≤ h9.size := Nat.le_trans Z7 (Keep.of_wr W9).1
  have F12 : Arv Z h9 b1 k1 .int (16 : Int32) [(.int (63 : Int32)), (.int (42 : Int32)), (.int (0 : Int32)), (.int (0 : Int32)), (.int (0 : Int32)), (.int (0 : Int32)), (.int (0 : Int32)), (.int (0 : Int32)), (.int (0 : Int32)), (.int (0 : Int32)), (.int (0 : Int32)), (.int (0 : Int32)), (.int (0 : Int32)), (.int (0 : Int32)), (.int (0 : Int32)), (.int (0 : Int32))] (.int (0 : Int32)) := Arv.set Ar9 qk9 Sz9 Nn9 Hs9 Gs9 rfl W9 1 rfl (Nat.le_of_ble_eq_true rfl)
  refine own_go (fun t k => st9 t k) ?_
  show OwnG p.tables e below _ (T9.setTop (mkF m 14 #[.val (.int p0), .val (.int p1), .unset, .unset] [(.ref b1)]))
  refine own_go (fun t k => XS.dup X9.here hx rfl (hb hby at_14) rfl rfl k) ?_
  show OwnG p.tables e below _ (T9.setTop (mkF m 15 #[.val (.int p0), .val (.int p1), .unset, .unset] [(.ref b1), (.ref b1)]))
  refine own_go (fun t k => XS.iconst X9.here hx rfl (hb hby at_15) k) ?_
  show OwnG p.tables e below _ (T9.setTop (mkF m 16 #[.val (.int p0), .val (.int p1), .unset, .unset] [(.int (2 : Int32)), (.ref b1), (.ref b1)]))
  refine own_go (fun t k => XS.bipush X9.here hx rfl (hb hby at_16) k) ?_
  show OwnG p.tables e below _ (T9.setTop (mkF m 18 #[.val (.int p0), .val (.int p1), .unset, .unset] [(.int (43 : Int32)), (.int (2 : Int32)), (.ref b1), (.ref b1)]))
  have vv13 := F12
  obtain ⟨cl13, Ar13, qk13, Sz13, Nn13, Hs13, Gs13⟩ := vv13
  have hin13 : ¬ ((2 : Int32) < 0 ∨ cl13.slots.size ≤ ((2 : Int32)).toNatClampNeg) := inb_of Sz13 ⟨by decide, by decide⟩
  obtain ⟨T13, h13, X13, e13, W13, st13⟩ := stI X9 hx hZ e9 Ar13 (j := (2 : Int32)) hin13 (g := (mkF m 18 #[.val (.int p0), .val (.int p1), .unset, .unset] [(.int (43 : Int32)), (.int (2 : Int32)), (.ref b1), (.ref b1)])) rfl rfl (hb hby at_18)
  have F14 : Old Z n0 h13 := F10.wr W13 g_b1
  have N15 := Fr.snoc X13 N11 g_b1
  have K15 : Keep h0 h13 [] := K11.wr W13 (Or.inr sz_b1)
  have Z15 : n0 ≤ h13.size := Nat.le_trans Z11 (Keep.of_wr W13).1
  have F16 : Arv Z h13 b1 k1 .int (16 : Int32) [(.int (63 : Int32)), (.int (42 : Int32)), (.int (43 : Int32)), (.int (0 : Int32)), (.int (0 : Int32)), (.int (0 : Int32)), (.int (0 : Int32)), (.int (0 : Int32)), (.int (0 : Int32)), (.int (0 : Int32)), (.int (0 : Int32)), (.int (0 : Int32)), (.int (0 : Int32)), (.int (0 : Int32)), (.int (0 : Int32)), (.int (0 : Int32))] (.int (0 : Int32)) := Arv.set Ar13 qk13 Sz13 Nn13 Hs13 Gs13 rfl W13 2 rfl (Nat.le_of_ble_eq_true rfl)
  refine own_go (fun t k => st13 t k) ?_
  show OwnG p.tables e below _ (T13.setTop (mkF m 19 #[.val (.int p0), .val (.int p1), .unset, .unset] [(.ref b1)]))
  refine own_go (fun t k => XS.dup X13.here hx rfl (hb hby at_19) rfl rfl k) ?_
  show OwnG p.tables e below _ (T13.setTop (mkF m 20 #[.val (.int p0), .val (.int p1), .unset, .unset] [(.ref b1), (.ref b1)]))
  refine own_go (fun t k => XS.iconst X13.here hx rfl (hb hby at_20) k) ?_
  show OwnG p.tables e below _ (T13.setTop (mkF m 21 #[.val (.int p0), .val (.int p1), .unset, .unset] [(.int (3 : Int32)), (.ref b1), (.ref b1)]))
  refine own_go (fun t k => XS.bipush X13.here hx rfl (hb hby at_21) k) ?_
  show OwnG p.tables e below _ (T13.setTop (mkF m 23 #[.val (.int p0), .val (.int p1), .unset, .unset] [(.int (-2 : Int32)), (.int (3 : Int32)), (.ref b1), (.ref b1)]))
  have vv17 := F16
  obtain ⟨cl17, Ar17, qk17, Sz17, Nn17, Hs17, Gs17⟩ := vv17
  have hin17 : ¬ ((3 : Int32) < 0 ∨ cl17.slots.size ≤ ((3 : Int32)).toNatClampNeg) := inb_of Sz17 ⟨by decide, by decide⟩
  obtain ⟨T17, h17, X17, e17, W17, st17⟩ := stI X13 hx hZ e13 Ar17 (j := (3 : Int32)) hin17 (g := (mkF m 23 #[.val (.int p0), .val (.int p1), .unset, .unset] [(.int (-2 : Int32)), (.int (3 : Int32)), (.ref b1), (.ref b1)])) rfl rfl (hb hby at_23)
  have F18 : Old Z n0 h17 := F14.wr W17 g_b1
  have N19 := Fr.snoc X17 N15 g_b1
  have K19 : Keep h0 h17 [] := K15.wr W17 (Or.inr sz_b1)
  have Z19 : n0 ≤ h17.size := Nat.le_trans Z15 (Keep.of_wr W17).1
  have F20 : Arv Z h17 b1 k1 .int (16 : Int32) [(.int (63 : Int32)), (.int (42 : Int32)), (.int (43 : Int32)), (.int (-2 : Int32)), (.int (0 : Int32)), (.int (0 : Int32)), (.int (0 : Int32)), (.int (0 : Int32)), (.int (0 : Int32)), (.int (0 : Int32)), (.int (0 : Int32)), (.int (0 : Int32)), (.int (0 : Int32)), (.int (0 : Int32)), (.int (0 : Int32)), (.int (0 : Int32))] (.int (0 : Int32)) := Arv.set Ar17 qk17 Sz17 Nn17 Hs17 Gs17 rfl W17 3 rfl (Nat.le_of_ble_eq_true rfl)
  refine own_go (fun t k => st17 t k) ?_
  show OwnG p.tables e below _ (T17.setTop (mkF m 24 #[.val (.int p0), .val (.int p1), .unset, .unset] [(.ref b1)]))
  refine own_go (fun t k => XS.dup X17.here hx rfl (hb hby at_24) rfl rfl k) ?_
  show OwnG p.tables e below _ (T17.setTop (mkF m 25 #[.val (.int p0), .val (.int p1), .unset, .unset] [(.ref b1), (.ref b1)]))
  refine own_go (fun t k => XS.iconst X17.here hx rfl (hb hby at_25) k) ?_
  show OwnG p.tables e below _ (T17.setTop (mkF m 26 #[.val (.int p0), .val (.int p1), .unset, .unset] [(.int (4 : Int32)), (.ref b1), (.ref b1)]))
  refine own_go (fun t k => XS.iconst X17.here hx rfl (hb hby at_26) k) ?_
  show OwnG p.tables e below _ (T17.setTop (mkF m 27 #[.val (.int p0), .val (.int p1), .unset, .unset] [(.int (-1 : Int32)), (.int (4 : Int32)), (.ref b1), (.ref b1)]))
  have vv21 := F20
  obtain ⟨cl21, Ar21, qk21, Sz21, Nn21, Hs21, Gs21⟩ := vv21
  have hin21 : ¬ ((4 : Int32) < 0 ∨ cl21.slots.size ≤ ((4 : Int32)).toNatClampNeg) := inb_of Sz21 ⟨by decide, by decide⟩
  obtain ⟨T21, h21, X21, e21, W21, st21⟩ := stI X17 hx hZ e17 Ar21 (j := (4 : Int32)) hin21 (g := (mkF m 27 #[.val (.int p0), .val (.int p1), .unset, .unset] [(.int (-1 : Int32)), (.int (4 : Int32)), (.ref b1), (.ref b1)])) rfl rfl (hb hby at_27)
  have F22 : Old Z n0 h21 := F18.wr W21 g_b1
  have N23 := Fr.snoc X21 N19 g_b1
  have K23 : Keep h0 h21 [] := K19.wr W21 (Or.inr sz_b1)
  have Z23 : n0 ≤ h21.size := Nat.le_trans Z19 (Keep.of_wr W21).1
  have F24 : Arv Z h21 b1 k1 .int (16 : Int32) [(.int (63 : Int32)), (.int (42 : Int32)), (.int (43 : Int32)), (.int (-2 : Int32)), (.int (-1 : Int32)), (.int (0 : Int32)), (.int (0 : Int32)), (.int (0 : Int32)), (.int (0 : Int32)), (.int (0 : Int32)), (.int (0 : Int32)), (.int (0 : Int32)), (.int (0 : Int32)), (.int (0 : Int32)), (.int (0 : Int32)), (.int (0 : Int32))] (.int (0 : Int32)) := Arv.set Ar21 qk21 Sz21 Nn21 Hs21 Gs21 rfl W21 4 rfl (Nat.le_of_ble_eq_true rfl)
  refine own_go (fun t k => st21 t k) ?_
  show OwnG p.tables e below _ (T21.setTop (mkF m 28 #[.val (.int p0), .val (.int p1), .unset, .unset] [(.ref b1)]))
  refine own_go (fun t k => XS.dup X21.here hx rfl (hb hby at_28) rfl rfl k) ?_
  show OwnG p.tables e below _ (T21.setTop (mkF m 29 #[.val (.int p0), .val (.int p1), .unset, .unset] [(.ref b1), (.ref b1)]))
  refine own_go (fun t k => XS.iconst X21.here hx rfl (hb hby at_29) k) ?_
  show OwnG p.tables e below _ (T21.setTop (mkF m 30 #[.val (.int p0), .val (.int p1), .unset, .unset] [(.int (5 : Int32)), (.ref b1), (.ref b1)]))
  refine own_go (fun t k => XS.iconst X21.here hx rfl (hb hby at_30) k) ?_
  show OwnG p.tables e below _ (T21.setTop (mkF m 31 #[.val (.int p0), .val (.int p1), .unset, .unset] [(.int (0 : Int32)), (.int (5 : Int32)), (.ref b1), (.ref b1)]))
  have vv25 := F24
  obtain ⟨cl25, Ar25, qk25, Sz25, Nn25, Hs25, Gs25⟩ := vv25
  have hin25 : ¬ ((5 : Int32) < 0 ∨ cl25.slots.size ≤ ((5 : Int32)).toNatClampNeg) := inb_of Sz25 ⟨by decide, by decide⟩
  obtain ⟨T25, h25, X25, e25, W25, st25⟩ := stI X21 hx hZ e21 Ar25 (j := (5 : Int32)) hin25 (g := (mkF m 31 #[.val (.int p0), .val (.int p1), .unset, .unset] [(.int (0 : Int32)), (.int (5 : Int32)), (.ref b1), (.ref b1)])) rfl rfl (hb hby at_31)
  have F26 : Old Z n0 h25 := F22.wr W25 g_b1
  have N27 := Fr.snoc X25 N23 g_b1
  have K27 : Keep h0 h25 [] := K23.wr W25 (Or.inr sz_b1)
  have Z27 : n0 ≤ h25.size := Nat.le_trans Z23 (Keep.of_wr W25).1
  have F28 : Arv Z h25 b1 k1 .int (16 : Int32) [(.int (63 : Int32)), (.int (42 : Int32)), (.int (43 : Int32)), (.int (-2 : Int32)), (.int (-1 : Int32)), (.int (0 : Int32)), (.int (0 : Int32)), (.int (0 : Int32)), (.int (0 : Int32)), (.int (0 : Int32)), (.int (0 : Int32)), (.int (0 : Int32)), (.int (0 : Int32)), (.int (0 : Int32)), (.int (0 : Int32)), (.int (0 : Int32))] (.int (0 : Int32)) := Arv.set Ar25 qk25 Sz25 Nn25 Hs25 Gs25 rfl W25 5 rfl (Nat.le_of_ble_eq_true rfl)
  refine own_go (fun t k => st25 t k) ?_
  show OwnG p.tables e below _ (T25.setTop (mkF m 32 #[.val (.int p0), .val (.int p1), .unset, .unset] [(.ref b1)]))
  refine own_go (fun t k => XS.dup X25.here hx rfl (hb hby at_32) rfl rfl k) ?_
  show OwnG p.tables e below _ (T25.setTop (mkF m 33 #[.val (.int p0), .val (.int p1), .unset, .unset] [(.ref b1), (.ref b1)]))
  refine own_go (fun t k => XS.bipush X25.here hx rfl (hb hby at_33) k) ?_
  show OwnG p.tables e below _ (T25.setTop (mkF m 35 #[.val (.int p0), .val (.int p1), .unset, .unset] [(.int (6 : Int32)), (.ref b1), (.ref b1)]))
  refine own_go (fun t k => XS.bipush X25.here hx rfl (hb hby at_35) k) ?_
  show OwnG p.tables e below _ (T25.setTop (mkF m 37 #[.val (.int p0), .val (.int p1), .unset, .unset] [(.int (62 : Int32)), (.int (6 : Int32)), (.ref b1), (.ref b1)]))
  have vv29 := F28
  obtain ⟨cl29, Ar29, qk29, Sz29, Nn29, Hs29, Gs29⟩ := vv29
  have hin29 : ¬ ((6 : Int32) < 0 ∨ cl29.slots.size ≤ ((6 : Int32)).toNatClampNeg) := inb_of Sz29 ⟨by decide, by decide⟩
  obtain ⟨T29, h29, X29, e29, W29, st29⟩ := stI X25 hx hZ e25 Ar29 (j := (6 : Int32)) hin29 (g := (mkF m 37 #[.val (.int p0), .val (.int p1), .unset, .unset] [(.int (62 : Int32)), (.int (6 : Int32)), (.ref b1), (.ref b1)])) rfl rfl (hb hby at_37)
  have F30 : Old Z n0 h29 := F26.wr W29 g_b1
  have N31 := Fr.snoc X29 N27 g_b1
  have K31 : Keep h0 h29 [] := K27.wr W29 (Or.inr sz_b1)
  have Z31 : n0 ≤ h29.size := Nat.le_trans Z27 (Keep.of_wr W29).1
  have F32 : Arv Z h29 b1 k1 .int (16 : Int32) [(.int (63 : Int32)), (.int (42 : Int32)), (.int (43 : Int32)), (.int (-2 : Int32)), (.int (-1 : Int32)), (.int (0 : Int32)), (.int (62 : Int32)), (.int (0 : Int32)), (.int (0 : Int32)), (.int (0 : Int32)), (.int (0 : Int32)), (.int (0 : Int32)), (.int (0 : Int32)), (.int (0 : Int32)), (.int (0 : Int32)), (.int (0 : Int32))] (.int (0 : Int32)) := Arv.set Ar29 qk29 Sz29 Nn29 Hs29 Gs29 rfl W29 6 rfl (Nat.le_of_ble_eq_true rfl)
  refine own_go (fun t k => st29 t k) ?_
  show OwnG p.tables e below _ (T29.setTop (mkF m 38 #[.val (.int p0), .val (.int p1), .unset, .unset] [(.ref b1)]))
  refine own_go (fun t k => XS.dup X29.here hx rfl (hb hby at_38) rfl rfl k) ?_
  show OwnG p.tables e below _ (T29.setTop (mkF m 39 #[.val (.int p0), .val (.int p1), .unset, .unset] [(.ref b1), (.ref b1)]))
  refine own_go (fun t k => XS.bipush X29.here hx rfl (hb hby at_39) k) ?_
  show OwnG p.tables e below _ (T29.setTop (mkF m 41 #[.val (.int p0), .val (.int p1), .unset, .unset] [(.int (7 : Int32)), (.ref b1), (.ref b1)]))
  refine own_go (fun t k => XS.bipush X29.here hx rfl (hb hby at_41) k) ?_
  show OwnG p.tables e below _ (T29.setTop (mkF m 43 #[.val (.int p0), .val (.int p1), .unset, .unset] [(.int (64 : Int32)), (.int (7 : Int32)), (.ref b1), (.ref b1)]))
  have vv33 := F32
  obtain ⟨cl33, Ar33, qk33, Sz33, Nn33, Hs33, Gs33⟩ := vv33
  have hin33 : ¬ ((7 : Int32) < 0 ∨ cl33.slots.size ≤ ((7 : Int32)).toNatClampNeg) := inb_of Sz33 ⟨by decide, by decide⟩
  obtain ⟨T33, h33, X33, e33, W33, st33⟩ := stI X29 hx hZ e29 Ar33 (j := (7 : Int32)) hin33 (g := (mkF m 43 #[.val (.int p0), .val (.int p1), .unset, .unset] [(.int (64 : Int32)), (.int (7 : Int32)), (.ref b1), (.ref b1)])) rfl rfl (hb hby at_43)
  have F34 : Old Z n0 h33 := F30.wr W33 g_b1
  have N35 := Fr.snoc X33 N31 g_b1
  have K35 : Keep h0 h33 [] := K31.wr W33 (Or.inr sz_b1)
  have Z35 : n0 ≤ h33.size := Nat.le_trans Z31 (Keep.of_wr W33).1
  have F36 : Arv Z h33 b1 k1 .int (16 : Int32) [(.int (63 : Int32)), (.int (42 : Int32)), (.int (43 : Int32)), (.int (-2 : Int32)), (.int (-1 : Int32)), (.int (0 : Int32)), (.int (62 : Int32)), (.int (64 : Int32)), (.int (0 : Int32)), (.int (0 : Int32)), (.int (0 : Int32)), (.int (0 : Int32)), (.int (0 : Int32)), (.int (0 : Int32)), (.int (0 : Int32)), (.int (0 : Int32))] (.int (0 : Int32)) := Arv.set Ar33 qk33 Sz33 Nn33 Hs33 Gs33 rfl W33 7 rfl (Nat.le_of_ble_eq_true rfl)
  refine own_go (fun t k => st33 t k) ?_
  show OwnG p.tables e below _ (T33.setTop (mkF m 44 #[.val (.int p0), .val (.int p1), .unset, .unset] [(.ref b1)]))
  refine own_go (fun t k => XS.dup X33.here hx rfl (hb hby at_44) rfl rfl k) ?_
  show OwnG p.tables e below _ (T33.setTop (mkF m 45 #[.val (.int p0), .val (.int p1), .unset, .unset] [(.ref b1), (.ref b1)]))
  refine own_go (fun t k => XS.bipush X33.here hx rfl (hb hby at_45) k) ?_
  show OwnG p.tables e below _ (T33.setTop (mkF m 47 #[.val (.int p0), .val (.int p1), .unset, .unset] [(.int (8 : Int32)), (.ref b1), (.ref b1)]))
  refine own_go (fun t k => XS.bipush X33.here hx rfl (hb hby at_47) k) ?_
  show OwnG p.tables e below _ (T33.setTop (mkF m 49 #[.val (.int p0), .val (.int p1), .unset, .unset] [(.int (41 : Int32)), (.int (8 : Int32)), (.ref b1), (.ref b1)]))
  have vv37 := F36
  obtain ⟨cl37, Ar37, qk37, Sz37, Nn37, Hs37, Gs37⟩ := vv37
  have hin37 : ¬ ((8 : Int32) < 0 ∨ cl37.slots.size ≤ ((8 : Int32)).toNatClampNeg) := inb_of Sz37 ⟨by decide, by decide⟩
  obtain ⟨T37, h37, X37, e37, W37, st37⟩ := stI X33 hx hZ e33 Ar37 (j := (8 : Int32)) hin37 (g := (mkF m 49 #[.val (.int p0), .val (.int p1), .unset, .unset] [(.int (41 : Int32)), (.int (8 : Int32)), (.ref b1), (.ref b1)])) rfl rfl (hb hby at_49)
  have F38 : Old Z n0 h37 := F34.wr W37 g_b1
  have N39 := Fr.snoc X37 N35 g_b1
  have K39 : Keep h0 h37 [] := K35.wr W37 (Or.inr sz_b1)
  have Z39 : n0 ≤ h37.size := Nat.le_trans Z35 (Keep.of_wr W37).1
  have F40 : Arv Z h37 b1 k1 .int (16 : Int32) [(.int (63 : Int32)), (.int (42 : Int32)), (.int (43 : Int32)), (.int (-2 : Int32)), (.int (-1 : Int32)), (.int (0 : Int32)), (.int (62 : Int32)), (.int (64 : Int32)), (.int (41 : Int32)), (.int (0 : Int32)), (.int (0 : Int32)), (.int (0 : Int32)), (.int (0 : Int32)), (.int (0 : Int32)), (.int (0 : Int32)), (.int (0 : Int32))] (.int (0 : Int32)) := Arv.set Ar37 qk37 Sz37 Nn37 Hs37 Gs37 rfl W37 8 rfl (Nat.le_of_ble_eq_true rfl)
  refine own_go (fun t k => st37 t k) ?_
  show OwnG p.tables e below _ (T37.setTop (mkF m 50 #[.val (.int p0), .val (.int p1), .unset, .unset] [(.ref b1)]))
  refine own_go (fun t k => XS.dup X37.here hx rfl (hb hby at_50) rfl rfl k) ?_
  show OwnG p.tables e below _ (T37.setTop (mkF m 51 #[.val (.int p0), .val (.int p1), .unset, .unset] [(.ref b1), (.ref b1)]))
  refine own_go (fun t k => XS.bipush X37.here hx rfl (hb hby at_51) k) ?_
  show OwnG p.tables e below _ (T37.setTop (mkF m 53 #[.val (.int p0), .val (.int p1), .unset, .unset] [(.int (9 : Int32)), (.ref b1), (.ref b1)]))
  refine own_go (fun t k => XS.bipush X37.here hx rfl (hb hby at_53) k) ?_
  show OwnG p.tables e below _ (T37.setTop (mkF m 55 #[.val (.int p0), .val (.int p1), .unset, .unset] [(.int (44 : Int32)), (.int (9 : Int32)), (.ref b1), (.ref b1)]))
  have vv41 := F40
  obtain ⟨cl41, Ar41, qk41, Sz41, Nn41, Hs41, Gs41⟩ := vv41
  have hin41 : ¬ ((9 : Int32) < 0 ∨ cl41.slots.size ≤ ((9 : Int32)).toNatClampNeg) := inb_of Sz41 ⟨by decide, by decide⟩
  obtain ⟨T41, h41, X41, e41, W41, st41⟩ := stI X37 hx hZ e37 Ar41 (j := (9 : Int32)) hin41 (g := (mkF m 55 #[.val (.int p0), .val (.int p1), .unset, .unset] [(.int (44 : Int32)), (.int (9 : Int32)), (.ref b1), (.ref b1)])) rfl rfl (hb hby at_55)
  have F42 : Old Z n0 h41 := F38.wr W41 g_b1
  have N43 := Fr.snoc X41 N39 g_b1
  have K43 : Keep h0 h41 [] := K39.wr W41 (Or.inr sz_b1)
  have Z43 : n0 ≤ h41.size := Nat.le_trans Z39 (Keep.of_wr W41).1
  have F44 : Arv Z h41 b1 k1 .int (16 : Int32) [(.int (63 : Int32)), (.int (42 : Int32)), (.int (43 : Int32)), (.int (-2 : Int32)), (.int (-1 : Int32)), (.int (0 : Int32)), (.int (62 : Int32)), (.int (64 : Int32)), (.int (41 : Int32)), (.int (44 : Int32)), (.int (0 : Int32)), (.int (0 : Int32)), (.int (0 : Int32)), (.int (0 : Int32)), (.int (0 : Int32)), (.int (0 : Int32))] (.int (0 : Int32)) := Arv.set Ar41 qk41 Sz41 Nn41 Hs41 Gs41 rfl W41 9 rfl (Nat.le_of_ble_eq_true rfl)
  refine own_go (fun t k => st41 t k) ?_
  show OwnG p.tables e below _ (T41.setTop (mkF m 56 #[.val (.int p0), .val (.int p1), .unset, .unset] [(.ref b1)]))
  refine own_go (fun t k => XS.dup X41.here hx rfl (hb hby at_56) rfl rfl k) ?_
  show OwnG p.tables e below _ (T41.setTop (mkF m 57 #[.val (.int p0), .val (.int p1), .unset, .unset] [(.ref b1), (.ref b1)]))
  refine own_go (fun t k => XS.bipush X41.here hx rfl (hb hby at_57) k) ?_
  show OwnG p.tables e below _ (T41.setTop (mkF m 59 #[.val (.int p0), .val (.int p1), .unset, .unset] [(.int (10 : Int32)), (.ref b1), (.ref b1)]))
  refine own_go (fun t k => (X41.ldcInt hx hown (mvT hZ (hw _ (List.mem_of_getElem? (i := 1) rfl))) (g := (mkF m 59 #[.val (.int p0), .val (.int p1), .unset, .unset] [(.int (10 : Int32)), (.ref b1), (.ref b1)])) rfl (hb hby at_59)) t k) ?_
  show OwnG p.tables e below _ (T41.setTop (mkF m 61 #[.val (.int p0), .val (.int p1), .unset, .unset] [(.int (65578 : Int32)), (.int (10 : Int32)), (.ref b1), (.ref b1)]))
  have vv45 := F44
  obtain ⟨cl45, Ar45, qk45, Sz45, Nn45, Hs45, Gs45⟩ := vv45
  have hin45 : ¬ ((10 : Int32) < 0 ∨ cl45.slots.size ≤ ((10 : Int32)).toNatClampNeg) := inb_of Sz45 ⟨by decide, by decide⟩
  obtain ⟨T45, h45, X45, e45, W45, st45⟩ := stI X41 hx hZ e41 Ar45 (j := (10 : Int32)) hin45 (g := (mkF m 61 #[.val (.int p0), .val (.int p1), .unset, .unset] [(.int (65578 : Int32)), (.int (10 : Int32)), (.ref b1), (.ref b1)])) rfl rfl (hb hby at_61)
  have F46 : Old Z n0 h45 := F42.wr W45 g_b1
  have N47 := Fr.snoc X45 N43 g_b1
  have K47 : Keep h0 h45 [] := K43.wr W45 (Or.inr sz_b1)
  have Z47 : n0 ≤ h45.size := Nat.le_trans Z43 (Keep.of_wr W45).1
  have F48 : Arv Z h45 b1 k1 .int (16 : Int32) [(.int (63 : Int32)), (.int (42 : Int32)), (.int (43 : Int32)), (.int (-2 : Int32)), (.int (-1 : Int32)), (.int (0 : Int32)), (.int (62 : Int32)), (.int (64 : Int32)), (.int (41 : Int32)), (.int (44 : Int32)), (.int (65578 : Int32)), (.int (0 : Int32)), (.int (0 : Int32)), (.int (0 : Int32)), (.int (0 : Int32)), (.int (0 : Int32))] (.int (0 : Int32)) := Arv.set Ar45 qk45 Sz45 Nn45 Hs45 Gs45 rfl W45 10 rfl (Nat.le_of_ble_eq_true rfl)
  refine own_go (fun t k => st45 t k) ?_
  show OwnG p.tables e below _ (T45.setTop (mkF m 62 #[.val (.int p0), .val (.int p1), .unset, .unset] [(.ref b1)]))
  refine own_go (fun t k => XS.dup X45.here hx rfl (hb hby at_62) rfl rfl k) ?_
  show OwnG p.tables e below _ (T45.setTop (mkF m 63 #[.val (.int p0), .val (.int p1), .unset, .unset] [(.ref b1), (.ref b1)]))
  refine own_go (fun t k => XS.bipush X45.here hx rfl (hb hby at_63) k) ?_
  show OwnG p.tables e below _ (T45.setTop (mkF m 65 #[.val (.int p0), .val (.int p1), .unset, .unset] [(.int (11 : Int32)), (.ref b1), (.ref b1)]))
  refine own_go (fun t k => (X45.ldcInt hx hown (mvT hZ (hw _ (List.mem_of_getElem? (i := 2) rfl))) (g := (mkF m 65 #[.val (.int p0), .val (.int p1), .unset, .unset] [(.int (11 : Int32)), (.ref b1), (.ref b1)])) rfl (hb hby at_65)) t k) ?_
  show OwnG p.tables e below _ (T45.setTop (mkF m 67 #[.val (.int p0), .val (.int p1), .unset, .unset] [(.int (-65473 : Int32)), (.int (11 : Int32)), (.ref b1), (.ref b1)]))
  have vv49 := F48
  obtain ⟨cl49, Ar49, qk49, Sz49, Nn49, Hs49, Gs49⟩ := vv49
  have hin49 : ¬ ((11 : Int32) < 0 ∨ cl49.slots.size ≤ ((11 : Int32)).toNatClampNeg) := inb_of Sz49 ⟨by decide, by decide⟩
  obtain ⟨T49, h49, X49, e49, W49, st49⟩ := stI X45 hx hZ e45 Ar49 (j := (11 : Int32)) hin49 (g := (mkF m 67 #[.val (.int p0), .val (.int p1), .unset, .unset] [(.int (-65473 : Int32)), (.int (11 : Int32)), (.ref b1), (.ref b1)])) rfl rfl (hb hby at_67)
  have F50 : Old Z n0 h49 := F46.wr W49 g_b1
  have N51 := Fr.snoc X49 N47 g_b1
  have K51 : Keep h0 h49 [] := K47.wr W49 (Or.inr sz_b1)
  have Z51 : n0 ≤ h49.size := Nat.le_trans Z47 (Keep.of_wr W49).1
  have F52 : Arv Z h49 b1 k1 .int (16 : Int32) [(.int (63 : Int32)), (.int (42 : Int32)), (.int (43 : Int32)), (.int (-2 : Int32)), (.int (-1 : Int32)), (.int (0 : Int32)), (.int (62 : Int32)), (.int (64 : Int32)), (.int (41 : Int32)), (.int (44 : Int32)), (.int (65578 : Int32)), (.int (-65473 : Int32)), (.int (0 : Int32)), (.int (0 : Int32)), (.int (0 : Int32)), (.int (0 : Int32))] (.int (0 : Int32)) := Arv.set Ar49 qk49 Sz49 Nn49 Hs49 Gs49 rfl W49 11 rfl (Nat.le_of_ble_eq_true rfl)
  refine own_go (fun t k => st49 t k) ?_
  show OwnG p.tables e below _ (T49.setTop (mkF m 68 #[.val (.int p0), .val (.int p1), .unset, .unset] [(.ref b1)]))
  refine own_go (fun t k => XS.dup X49.here hx rfl (hb hby at_68) rfl rfl k) ?_
  show OwnG p.tables e below _ (T49.setTop (mkF m 69 #[.val (.int p0), .val (.int p1), .unset, .unset] [(.ref b1), (.ref b1)]))
  refine own_go (fun t k => XS.bipush X49.here hx rfl (hb hby at_69) k) ?_
  show OwnG p.tables e below _ (T49.setTop (mkF m 71 #[.val (.int p0), .val (.int p1), .unset, .unset] [(.int (12 : Int32)), (.ref b1), (.ref b1)]))
  refine own_go (fun t k => (X49.ldcInt hx hown (mvT hZ (hw _ (List.mem_of_getElem? (i := 3) rfl))) (g := (mkF m 71 #[.val (.int p0), .val (.int p1), .unset, .unset] [(.int (12 : Int32)), (.ref b1), (.ref b1)])) rfl (hb hby at_71)) t k) ?_
  show OwnG p.tables e below _ (T49.setTop (mkF m 73 #[.val (.int p0), .val (.int p1), .unset, .unset] [(.int (-2147483648 : Int32)), (.int (12 : Int32)), (.ref b1), (.ref b1)]))
  have vv53 := F52
  obtain ⟨cl53, Ar53, qk53, Sz53, Nn53, Hs53, Gs53⟩ := vv53
  have hin53 : ¬ ((12 : Int32) < 0 ∨ cl53.slots.size ≤ ((12 : Int32)).toNatClampNeg) := inb_of Sz53 ⟨by decide, by decide⟩
  obtain ⟨T53, h53, X53, e53, W53, st53⟩ := stI X49 hx hZ e49 Ar53 (j := (12 : Int32)) hin53 (g := (mkF m 73 #[.val (.int p0), .val (.int p1), .unset, .unset] [(.int (-2147483648 : Int32)), (.int (12 : Int32)), (.ref b1), (.ref b1)])) rfl rfl (hb hby at_73)
  have F54 : Old Z n0 h53 := F50.wr W53 g_b1
  have N55 := Fr.snoc X53 N51 g_b1
  have K55 : Keep h0 h53 [] := K51.wr W53 (Or.inr sz_b1)
  have Z55 : n0 ≤ h53.size := Nat.le_trans Z51 (Keep.of_wr W53).1
  have F56 : Arv Z h53 b1 k1 .int (16 : Int32) [(.int (63 : Int32)), (.int (42 : Int32)), (.int (43 : Int32)), (.int (-2 : Int32)), (.int (-1 : Int32)), (.int (0 : Int32)), (.int (62 : Int32)), (.int (64 : Int32)), (.int (41 : Int32)), (.int (44 : Int32)), (.int (65578 : Int32)), (.int (-65473 : Int32)), (.int (-2147483648 : Int32)), (.int (0 : Int32)), (.int (0 : Int32)), (.int (0 : Int32))] (.int (0 : Int32)) := Arv.set Ar53 qk53 Sz53 Nn53 Hs53 Gs53 rfl W53 12 rfl (Nat.le_of_ble_eq_true rfl)
  refine own_go (fun t k => st53 t k) ?_
  show OwnG p.tables e below _ (T53.setTop (mkF m 74 #[.val (.int p0), .val (.int p1), .unset, .unset] [(.ref b1)]))
  refine own_go (fun t k => XS.dup X53.here hx rfl (hb hby at_74) rfl rfl k) ?_
  show OwnG p.tables e below _ (T53.setTop (mkF m 75 #[.val (.int p0), .val (.int p1), .unset, .unset] [(.ref b1), (.ref b1)]))
  refine own_go (fun t k => XS.bipush X53.here hx rfl (hb hby at_75) k) ?_
  show OwnG p.tables e below _ (T53.setTop (mkF m 77 #[.val (.int p0), .val (.int p1), .unset, .unset] [(.int (13 : Int32)), (.ref b1), (.ref b1)]))
  refine own_go (fun t k => (X53.ldcInt hx hown (mvT hZ (hw _ (List.mem_of_getElem? (i := 4) rfl))) (g := (mkF m 77 #[.val (.int p0), .val (.int p1), .unset, .unset] [(.int (13 : Int32)), (.ref b1), (.ref b1)])) rfl (hb hby at_77)) t k) ?_
  show OwnG p.tables e below _ (T53.setTop (mkF m 79 #[.val (.int p0), .val (.int p1), .unset, .unset] [(.int (2147483647 : Int32)), (.int (13 : Int32)), (.ref b1), (.ref b1)]))
  have vv57 := F56
  obtain ⟨cl57, Ar57, qk57, Sz57, Nn57, Hs57, Gs57⟩ := vv57
  have hin57 : ¬ ((13 : Int32) < 0 ∨ cl57.slots.size ≤ ((13 : Int32)).toNatClampNeg) := inb_of Sz57 ⟨by decide, by decide⟩
  obtain ⟨T57, h57, X57, e57, W57, st57⟩ := stI X53 hx hZ e53 Ar57 (j := (13 : Int32)) hin57 (g := (mkF m 79 #[.val (.int p0), .val (.int p1), .unset, .unset] [(.int (2147483647 : Int32)), (.int (13 : Int32)), (.ref b1), (.ref b1)])) rfl rfl (hb hby at_79)
  have F58 : Old Z n0 h57 := F54.wr W57 g_b1
  have N59 := Fr.snoc X57 N55 g_b1
  have K59 : Keep h0 h57 [] := K55.wr W57 (Or.inr sz_b1)
  have Z59 : n0 ≤ h57.size := Nat.le_trans Z55 (Keep.of_wr W57).1
  have F60 : Arv Z h57 b1 k1 .int (16 : Int32) [(.int (63 : Int32)), (.int (42 : Int32)), (.int (43 : Int32)), (.int (-2 : Int32)), (.int (-1 : Int32)), (.int (0 : Int32)), (.int (62 : Int32)), (.int (64 : Int32)), (.int (41 : Int32)), (.int (44 : Int32)), (.int (65578 : Int32)), (.int (-65473 : Int32)), (.int (-2147483648 : Int32)), (.int (2147483647 : Int32)), (.int (0 : Int32)), (.int (0 : Int32))] (.int (0 : Int32)) := Arv.set Ar57 qk57 Sz57 Nn57 Hs57 Gs57 rfl W57 13 rfl (Nat.le_of_ble_eq_true rfl)
  refine own_go (fun t k => st57 t k) ?_
  show OwnG p.tables e below _ (T57.setTop (mkF m 80 #[.val (.int p0), .val (.int p1), .unset, .unset] [(.ref b1)]))
  refine own_go (fun t k => XS.dup X57.here hx rfl (hb hby at_80) rfl rfl k) ?_
  show OwnG p.tables e below _ (T57.setTop (mkF m 81 #[.val (.int p0), .val (.int p1), .unset, .unset] [(.ref b1), (.ref b1)]))
  refine own_go (fun t k => XS.bipush X57.here hx rfl (hb hby at_81) k) ?_
  show OwnG p.tables e below _ (T57.setTop (mkF m 83 #[.val (.int p0), .val (.int p1), .unset, .unset] [(.int (14 : Int32)), (.ref b1), (.ref b1)]))
  refine own_go (fun t k => XS.sipush X57.here hx rfl (hb hby at_83) k) ?_
  show OwnG p.tables e below _ (T57.setTop (mkF m 86 #[.val (.int p0), .val (.int p1), .unset, .unset] [(.int (299 : Int32)), (.int (14 : Int32)), (.ref b1), (.ref b1)]))
  have vv61 := F60
  obtain ⟨cl61, Ar61, qk61, Sz61, Nn61, Hs61, Gs61⟩ := vv61
  have hin61 : ¬ ((14 : Int32) < 0 ∨ cl61.slots.size ≤ ((14 : Int32)).toNatClampNeg) := inb_of Sz61 ⟨by decide, by decide⟩
  obtain ⟨T61, h61, X61, e61, W61, st61⟩ := stI X57 hx hZ e57 Ar61 (j := (14 : Int32)) hin61 (g := (mkF m 86 #[.val (.int p0), .val (.int p1), .unset, .unset] [(.int (299 : Int32)), (.int (14 : Int32)), (.ref b1), (.ref b1)])) rfl rfl (hb hby at_86)
  have F62 : Old Z n0 h61 := F58.wr W61 g_b1
  have N63 := Fr.snoc X61 N59 g_b1
  have K63 : Keep h0 h61 [] := K59.wr W61 (Or.inr sz_b1)
  have Z63 : n0 ≤ h61.size := Nat.le_trans Z59 (Keep.of_wr W61).1
  have F64 : Arv Z h61 b1 k1 .int (16 : Int32) [(.int (63 : Int32)), (.int (42 : Int32)), (.int (43 : Int32)), (.int (-2 : Int32)), (.int (-1 : Int32)), (.int (0 : Int32)), (.int (62 : Int32)), (.int (64 : Int32)), (.int (41 : Int32)), (.int (44 : Int32)), (.int (65578 : Int32)), (.int (-65473 : Int32)), (.int (-2147483648 : Int32)), (.int (2147483647 : Int32)), (.int (299 : Int32)), (.int (0 : Int32))] (.int (0 : Int32)) := Arv.set Ar61 qk61 Sz61 Nn61 Hs61 Gs61 rfl W61 14 rfl (Nat.le_of_ble_eq_true rfl)
  refine own_go (fun t k => st61 t k) ?_
  show OwnG p.tables e below _ (T61.setTop (mkF m 87 #[.val (.int p0), .val (.int p1), .unset, .unset] [(.ref b1)]))
  refine own_go (fun t k => XS.dup X61.here hx rfl (hb hby at_87) rfl rfl k) ?_
  show OwnG p.tables e below _ (T61.setTop (mkF m 88 #[.val (.int p0), .val (.int p1), .unset, .unset] [(.ref b1), (.ref b1)]))
  refine own_go (fun t k => XS.bipush X61.here hx rfl (hb hby at_88) k) ?_
  show OwnG p.tables e below _ (T61.setTop (mkF m 90 #[.val (.int p0), .val (.int p1), .unset, .unset] [(.int (15 : Int32)), (.ref b1), (.ref b1)]))
  refine own_go (fun t k => XS.iloadN X61.here hx rfl (hb hby at_90) rfl  k) ?_
  show OwnG p.tables e below _ (T61.setTop (mkF m 91 #[.val (.int p0), .val (.int p1), .unset, .unset] [(.int p0), (.int (15 : Int32)), (.ref b1), (.ref b1)]))
  have vv65 := F64
  obtain ⟨cl65, Ar65, qk65, Sz65, Nn65, Hs65, Gs65⟩ := vv65
  have hin65 : ¬ ((15 : Int32) < 0 ∨ cl65.slots.size ≤ ((15 : Int32)).toNatClampNeg) := inb_of Sz65 ⟨by decide, by decide⟩
  obtain ⟨T65, h65, X65, e65, W65, st65⟩ := stI X61 hx hZ e61 Ar65 (j := (15 : Int32)) hin65 (g := (mkF m 91 #[.val (.int p0), .val (.int p1), .unset, .unset] [(.int p0), (.int (15 : Int32)), (.ref b1), (.ref b1)])) rfl rfl (hb hby at_91)
  have F66 : Old Z n0 h65 := F62.wr W65 g_b1
  have N67 := Fr.snoc X65 N63 g_b1
  have K67 : Keep h0 h65 [] := K63.wr W65 (Or.inr sz_b1)
  have Z67 : n0 ≤ h65.size := Nat.le_trans Z63 (Keep.of_wr W65).1
  have F68 : Arv Z h65 b1 k1 .int (16 : Int32) [(.int (63 : Int32)), (.int (42 : Int32)), (.int (43 : Int32)), (.int (-2 : Int32)), (.int (-1 : Int32)), (.int (0 : Int32)), (.int (62 : Int32)), (.int (64 : Int32)), (.int (41 : Int32)), (.int (44 : Int32)), (.int (65578 : Int32)), (.int (-65473 : Int32)), (.int (-2147483648 : Int32)), (.int (2147483647 : Int32)), (.int (299 : Int32)), (.int p0)] (.int (0 : Int32)) := Arv.set Ar65 qk65 Sz65 Nn65 Hs65 Gs65 rfl W65 15 rfl (Nat.le_of_ble_eq_true rfl)
  refine own_go (fun t k => st65 t k) ?_
  show OwnG p.tables e below _ (T65.setTop (mkF m 92 #[.val (.int p0), .val (.int p1), .unset, .unset] [(.ref b1)]))
  refine own_go (fun t k => XS.astoreN X65.here hx rfl (hb hby at_92) rfl rfl (l' := #[.val (.int p0), .val (.int p1), .val (.ref b1), .unset]) rfl k) ?_
  show OwnG p.tables e below _ (T65.setTop (mkF m 93 #[.val (.int p0), .val (.int p1), .val (.ref b1), .unset] []))
  refine own_go (fun t k => XS.aloadN X65.here hx rfl (hb hby at_93) rfl rfl k) ?_
  show OwnG p.tables e below _ (T65.setTop (mkF m 94 #[.val (.int p0), .val (.int p1), .val (.ref b1), .unset] [(.ref b1)]))
  refine own_go (fun t k => XS.iloadN X65.here hx rfl (hb hby at_94) rfl  k) ?_
  show OwnG p.tables e below _ (T65.setTop (mkF m 95 #[.val (.int p0), .val (.int p1), .val (.ref b1), .unset] [(.int p1), (.ref b1)]))
  refine own_go (fun t k => XS.bipush X65.here hx rfl (hb hby at_95) k) ?_
  show OwnG p.tables e below _ (T65.setTop (mkF m 97 #[.val (.int p0), .val (.int p1), .val (.ref b1), .unset] [(.int (15 : Int32)), (.int p1), (.ref b1)]))
  refine own_go (fun t k => XS.iand X65.here hx rfl (hb hby at_97) rfl k) ?_
  show OwnG p.tables e below _ (T65.setTop (mkF m 98 #[.val (.int p0), .val (.int p1), .val (.ref b1), .unset] [(.int (p1 &&& (15 : Int32))), (.ref b1)]))
  obtain ⟨dd, hdd⟩ := own_getD [(.int (63 : Int32)), (.int (42 : Int32)), (.int (43 : Int32)), (.int (-2 : Int32)), (.int (-1 : Int32)), (.int (0 : Int32)), (.int (62 : Int32)), (.int (64 : Int32)), (.int (41 : Int32)), (.int (44 : Int32)), (.int (65578 : Int32)), (.int (-65473 : Int32)), (.int (-2147483648 : Int32)), (.int (2147483647 : Int32)), (.int (299 : Int32)), (.int p0)] (⟨⟨_, rfl⟩, ⟨_, rfl⟩, ⟨_, rfl⟩, ⟨_, rfl⟩, ⟨_, rfl⟩, ⟨_, rfl⟩, ⟨_, rfl⟩, ⟨_, rfl⟩, ⟨_, rfl⟩, ⟨_, rfl⟩, ⟨_, rfl⟩, ⟨_, rfl⟩, ⟨_, rfl⟩, ⟨_, rfl⟩, ⟨_, rfl⟩, ⟨_, rfl⟩, trivial⟩) (p1 &&& (15 : Int32)).toNatClampNeg
  have vv69 := F68
  obtain ⟨cl69, Ar69, qk69, Sz69, Nn69, Hs69, Gs69⟩ := vv69
  have hin69 : ¬ ((p1 &&& (15 : Int32)) < 0 ∨ cl69.slots.size ≤ ((p1 &&& (15 : Int32))).toNatClampNeg) := inb_of Sz69 (own_m15 p1)
  have hat69 : cl69.slots[((p1 &&& (15 : Int32))).toNatClampNeg]? = some (.int dd) := Hs69.at hin69 hdd
  refine own_go (fun t k => (X65.iaload hx (j := (p1 &&& (15 : Int32))) (v := (.int dd)) (by rw [e65]; exact Ar69.1) (State.isArrayOf_alike hZ.alike Ar69.2.1) Ar69.2.2 hin69 hat69 (g := (mkF m 98 #[.val (.int p0), .val (.int p1), .val (.ref b1), .unset] [(.int (p1 &&& (15 : Int32))), (.ref b1)])) rfl rfl (hb hby at_98)) t k) ?_
  show OwnG p.tables e below _ (T65.setTop (mkF m 99 #[.val (.int p0), .val (.int p1), .val (.ref b1), .unset] [(.int dd)]))
  refine own_go (fun t k => XS.istoreN X65.here hx rfl (hb hby at_99) rfl (l' := #[.val (.int p0), .val (.int p1), .val (.ref b1), .val (.int dd)]) rfl k) ?_
  show OwnG p.tables e below _ (T65.setTop (mkF m 100 #[.val (.int p0), .val (.int p1), .val (.ref b1), .val (.int dd)] []))
  refine own_go (fun t k => XS.iloadN X65.here hx rfl (hb hby at_100) rfl  k) ?_
  show OwnG p.tables e below _ (T65.setTop (mkF m 101 #[.val (.int p0), .val (.int p1), .val (.ref b1), .val (.int dd)] [(.int p0)]))
  obtain ⟨_, _, ⟨T70, L70, k70, n70⟩, -, X70, ⟨Lc70, hQ70, l70, y70, z70⟩, st70⟩ := Jvm.LawKit.callS X65 hx (y := (⟨"com/example/vigilant_grammar/vigilantgrammar/OccurrenceIndicatedByPinLaw", "agrees", "(I)Z"⟩ : MethodName)) hown (mvT hZ (hw _ (List.mem_of_getElem? (i := 5) rfl))) (mvT hZ (hw _ (List.mem_of_getElem? (i := 6) rfl))) (mvT hZ (hw _ (List.mem_of_getElem? (i := 7) rfl))) (mvT hZ (hw _ (List.mem_of_getElem? (i := 8) rfl))) (by decide) (backOf (W := 0) (own_agrees l Z a0 hw [] p0 o_INDICATED o_OPTIONAL o_ZERO_OR_MORE o_ONE_OR_MORE o_ZERO_OR_MORE_symbol o_ZERO_OR_MORE_symbol_value o_OPTIONAL_symbol o_OPTIONAL_symbol_value o_ONE_OR_MORE_symbol o_ONE_OR_MORE_symbol_value i_COMPACT_STRINGS v_SIOOBE_FORMATTER kc_o_INDICATED kc_o_ZERO_OR_MORE_symbol_value kc_o_OPTIONAL_symbol_value kc_o_ONE_OR_MORE_symbol_value h65 n0 Z67 F66 S_INDICATED S_OPTIONAL E_o_OPTIONAL F_o_OPTIONAL_mark S_ZERO_OR_MORE E_o_ZERO_OR_MORE F_o_ZERO_OR_MORE_mark S_ONE_OR_MORE E_o_ONE_OR_MORE F_o_ONE_OR_MORE_mark F_o_ZERO_OR_MORE_symbol E_o_ZERO_OR_MORE_symbol F_o_ZERO_OR_MORE_symbol_value F_o_ZERO_OR_MORE_symbol_coder F_o_OPTIONAL_symbol E_o_OPTIONAL_symbol F_o_OPTIONAL_symbol_value F_o_OPTIONAL_symbol_coder F_o_ONE_OR_MORE_symbol E_o_ONE_OR_MORE_symbol F_o_ONE_OR_MORE_symbol_value F_o_ONE_OR_MORE_symbol_coder S_COMPACT_STRINGS nz_i_COMPACT_STRINGS S_SIOOBE_FORMATTER ir_v_SIOOBE_FORMATTER V_o_INDICATED V_o_ZERO_OR_MORE_symbol_value V_o_OPTIONAL_symbol_value V_o_ONE_OR_MORE_symbol_value) hZ (hw _ (List.mem_of_getElem? (i := 8) rfl)) (hw _ (List.mem_of_getElem? (i := 7) rfl)) (by decide) (by decide)) (g := (mkF m 101 #[.val (.int p0), .val (.int p1), .val (.ref b1), .val (.int dd)] [(.int p0)])) rfl (by rw [hml]; rfl) (argsL := [(.int p0)]) (rest := []) (lenOf own_pd152 rfl) rfl (by show 2 * 0 + _ ≤ _; exact Nat.le_of_eq rfl) (hb hby at_101) (fun _ _ => ⟨rfl, e65, (by decide : 1 + 0 ≤ _), (by decide : 16 + 0 ≤ _)⟩)
  dsimp only [Pt.U, Pt.locs, Pt.cells, Pt.slots] at X70 l70 y70 z70 st70 hQ70
  subst l70 y70 z70
  obtain ⟨rfl, Nq70, eq70⟩ := hQ70
  have N70 := Fr.app N67 Nq70
  have e70 : T70.heap = h65 := eq70
  refine own_go (fun t k => st70 t k) ?_
  show OwnG p.tables e below _ (T70.setTop (mkF m 104 #[.val (.int p0), .val (.int p1), .val (.ref b1), .val (.int dd)] [(.int (1 : Int32))]))
  refine own_go (fun t k => XS.ifNo X70.here hx rfl (hb hby at_104) rfl ((if0 _ _).trans (feq (by decide : ¬ ((1 : Int32) = (0 : Int32)))).1) k) ?_
  show OwnG p.tables e below _ (T70.setTop (mkF m 107 #[.val (.int p0), .val (.int p1), .val (.ref b1), .val (.int dd)] []))
  refine own_go (fun t k => XS.iloadN X70.here hx rfl (hb hby at_107) rfl  k) ?_
  show OwnG p.tables e below _ (T70.setTop (mkF m 108 #[.val (.int p0), .val (.int p1), .val (.ref b1), .val (.int dd)] [(.int dd)]))
  obtain ⟨_, _, ⟨T71, L71, k71, n71⟩, -, X71, ⟨Lc71, hQ71, l71, y71, z71⟩, st71⟩ := Jvm.LawKit.callS X70 hx (y := (⟨"com/example/vigilant_grammar/vigilantgrammar/OccurrenceIndicatedByPinLaw", "agrees", "(I)Z"⟩ : MethodName)) hown (mvT hZ (hw _ (List.mem_of_getElem? (i := 5) rfl))) (mvT hZ (hw _ (List.mem_of_getElem? (i := 6) rfl))) (mvT hZ (hw _ (List.mem_of_getElem? (i := 7) rfl))) (mvT hZ (hw _ (List.mem_of_getElem? (i := 8) rfl))) (by decide) (backOf (W := 0) (own_agrees l Z a0 hw [] dd o_INDICATED o_OPTIONAL o_ZERO_OR_MORE o_ONE_OR_MORE o_ZERO_OR_MORE_symbol o_ZERO_OR_MORE_symbol_value o_OPTIONAL_symbol o_OPTIONAL_symbol_value o_ONE_OR_MORE_symbol o_ONE_OR_MORE_symbol_value i_COMPACT_STRINGS v_SIOOBE_FORMATTER kc_o_INDICATED kc_o_ZERO_OR_MORE_symbol_value kc_o_OPTIONAL_symbol_value kc_o_ONE_OR_MORE_symbol_value h65 n0 Z67 F66 S_INDICATED S_OPTIONAL E_o_OPTIONAL F_o_OPTIONAL_mark S_ZERO_OR_MORE E_o_ZERO_OR_MORE F_o_ZERO_OR_MORE_mark S_ONE_OR_MORE E_o_ONE_OR_MORE F_o_ONE_OR_MORE_mark F_o_ZERO_OR_MORE_symbol E_o_ZERO_OR_MORE_symbol F_o_ZERO_OR_MORE_symbol_value F_o_ZERO_OR_MORE_symbol_coder F_o_OPTIONAL_symbol E_o_OPTIONAL_symbol F_o_OPTIONAL_symbol_value F_o_OPTIONAL_symbol_coder F_o_ONE_OR_MORE_symbol E_o_ONE_OR_MORE_symbol F_o_ONE_OR_MORE_symbol_value F_o_ONE_OR_MORE_symbol_coder S_COMPACT_STRINGS nz_i_COMPACT_STRINGS S_SIOOBE_FORMATTER ir_v_SIOOBE_FORMATTER V_o_INDICATED V_o_ZERO_OR_MORE_symbol_value V_o_OPTIONAL_symbol_value V_o_ONE_OR_MORE_symbol_value) hZ (hw _ (List.mem_of_getElem? (i := 8) rfl)) (hw _ (List.mem_of_getElem? (i := 7) rfl)) (by decide) (by decide)) (g := (mkF m 108 #[.val (.int p0), .val (.int p1), .val (.ref b1), .val (.int dd)] [(.int dd)])) rfl (by rw [hml]; rfl) (argsL := [(.int dd)]) (rest := []) (lenOf own_pd152 rfl) rfl (by show 2 * 0 + _ ≤ _; exact Nat.le_of_eq rfl) (hb hby at_108) (fun _ _ => ⟨rfl, e70, (by decide : 1 + 0 ≤ _), (by decide : 16 + 0 ≤ _)⟩)
  dsimp only [Pt.U, Pt.locs, Pt.cells, Pt.slots] at X71 l71 y71 z71 st71 hQ71
  subst l71 y71 z71
  obtain ⟨rfl, Nq71, eq71⟩ := hQ71
  have N71 := Fr.app N70 Nq71
  have e71 : T71.heap = h65 := eq71
  refine own_go (fun t k => st71 t k) ?_
  show OwnG p.tables e below _ (T71.setTop (mkF m 111 #[.val (.int p0), .val (.int p1), .val (.ref b1), .val (.int dd)] [(.int (1 : Int32))]))
  refine own_go (fun t k => XS.ifNo X71.here hx rfl (hb hby at_111) rfl ((if0 _ _).trans (feq (by decide : ¬ ((1 : Int32) = (0 : Int32)))).1) k) ?_
  show OwnG p.tables e below _ (T71.setTop (mkF m 114 #[.val (.int p0), .val (.int p1), .val (.ref b1), .val (.int dd)] []))
  refine own_go (fun t k => XS.iconst X71.here hx rfl (hb hby at_114) k) ?_
  show OwnG p.tables e below _ (T71.setTop (mkF m 115 #[.val (.int p0), .val (.int p1), .val (.ref b1), .val (.int dd)] [(.int (1 : Int32))]))
  refine own_go (fun t k => XS.goto X71.here hx rfl (pc0 := 115) (pc' := 119) rfl (hb hby at_115) (by decide) (by decide) k) ?_
  show OwnG p.tables e below _ (T71.setTop (mkF m 119 #[.val (.int p0), .val (.int p1), .val (.ref b1), .val (.int dd)] [(.int (1 : Int32))]))
  obtain ⟨fs, hr, hrun, hended, hW, hsame⟩ := X71.leave (v := some (.int (1 : Int32))) (fun h => by rw [Bd.returns] at h; cases h)
  refine ⟨_, _, retN X71 hx (t := .boolean) Bd.returns (by simp) (hb hby at_119) hr, hrun, hended, _, _, rfl, ?_, ⟨_, rfl⟩, hW, hsame.mono (by decide) (by decide)⟩
  show Q_own_law Z p0 p1 o_INDICATED o_OPTIONAL o_ZERO_OR_MORE o_ONE_OR_MORE o_ZERO_OR_MORE_symbol o_ZERO_OR_MORE_symbol_value o_OPTIONAL_symbol o_OPTIONAL_symbol_value o_ONE_OR_MORE_symbol o_ONE_OR_MORE_symbol_value i_COMPACT_STRINGS v_SIOOBE_FORMATTER kc_o_INDICATED kc_o_ZERO_OR_MORE_symbol_value kc_o_OPTIONAL_symbol_value kc_o_ONE_OR_MORE_symbol_value h0 n0 _ T71.heap _
  rw [e71]
  exact ⟨rfl, N71⟩
set_option maxRecDepth 65536 in
set_option maxHeartbeats 40000000 in
theorem comes_1 {Post : Tables → Env → Array Value → State → Outcome → State → Prop} (hpost : ∀ tb e args s v u, (limb_1_1.after args s (.returned v) u = true ∧ limb_1_2.after args s (.returned v) u = true ∧ True) → FrameEnd s (.returned v) u (Jvm.fieldLocs frame_1_writes args s ++ Jvm.arrayLocs frame_1_arrays args s ++ Jvm.staticLocs frame_1_statics s) 16 128 → Post tb e args s (.returned v) u) :
    ArmFor flags0 classFile x code maxLocals ret World_1 tables_1 room_1 Calls_1 rest_1 Pre_1 Post := by
  intro l hfl _ _ p e ha hc hk s m args below hf hA hF happ hP
  obtain ⟨hcalls, hrest, hpre⟩ := hP
  obtain ⟨-, -, -, hnamed, -, -, -, hat⟩ := (Spec.applies_iff hf).mp happ
  obtain ⟨hg, hn⟩ := and_e (Cond.before_iff.mp (show (Jvm.Cond.and given_1 narrow_1).before args s = true from hpre))
  obtain ⟨hcount, hg⟩ := and_e hg
  obtain ⟨ga0, hg⟩ := and_e hg
  have ga1 := hg
  obtain ⟨w0, w1, rfl⟩ : ∃ w0 w1 : Value, args = #[w0, w1] := by
    have hs : args.size = 2 := by simpa [Cond.value, given_1] using hcount
    obtain ⟨L⟩ := args
    match L, hs with
    | [w0, w1], _ => exact ⟨w0, w1, rfl⟩
  have hw := fun d (hd : d ∈ tables_1) => atoms_spec (ws := Jvm.Cond.code x code maxLocals ret :: tables_1) hat d (List.mem_cons_of_mem _ hd)
  have hfit : Fit s := fun {y c} hc i hi => by
    obtain ⟨ha, rfl⟩ := Array.getElem?_eq_some_iff.mp hc
    have q := List.all_eq_true.mp ((Array.all_eq_true_iff_forall_mem.mp hF) _ (Array.getElem_mem ha)) i (List.mem_range.mpr hi)
    simpa [Array.getElem?_eq_getElem hi] using q
  obtain ⟨hsets, hown0⟩ := atoms_of _ (rest_1_c_eq ▸ (show rest_1_c.before _ s = true from hrest))
  have hr0 := Cond.before_iff.mp hown0
  obtain ⟨i0, ei0⟩ := is_v ga0
  obtain rfl : w0 = (.int i0) := Option.some.inj ei0
  obtain ⟨i1, ei1⟩ := is_v ga1
  obtain rfl : w1 = (.int i1) := Option.some.inj ei1
  obtain ⟨hn1, hn⟩ := and_e hn
  obtain ⟨o_INDICATED, ev_o_INDICATED⟩ := arr_v hn1
  have S_INDICATED : Sta s s.heap "com/example/vigilant_grammar/vigilantgrammar/ContentToken$Occurrence" "INDICATED" "[Lcom/example/vigilant_grammar/vigilantgrammar/ContentToken$Occurrence;" (.ref o_INDICATED) := Sta.start ev_o_INDICATED (Or.inr ⟨(hw _ (List.mem_of_getElem? (i := 11) rfl)), (hw _ (List.mem_of_getElem? (i := 14) rfl))⟩)
  obtain ⟨cl_o_INDICATED, Ar_o_INDICATED⟩ := Arr.start ev_o_INDICATED hn1
  obtain ⟨hn2, hn⟩ := and_e hn
  obtain ⟨sm_o_INDICATED, ln_o_INDICATED⟩ := own_len ev_o_INDICATED Ar_o_INDICATED hn2
  obtain ⟨hn3, hn⟩ := and_e hn
  obtain ⟨o_OPTIONAL, ev_o_OPTIONAL⟩ := exa_v hn3
  have S_OPTIONAL : Sta s s.heap "com/example/vigilant_grammar/vigilantgrammar/ContentToken$Occurrence" "OPTIONAL" "Lcom/example/vigilant_grammar/vigilantgrammar/ContentToken$Occurrence;" (.ref o_OPTIONAL) := Sta.start ev_o_OPTIONAL (Or.inr ⟨(hw _ (List.mem_of_getElem? (i := 11) rfl)), (hw _ (List.mem_of_getElem? (i := 15) rfl))⟩)
  have E_o_OPTIONAL : Exa s s.heap o_OPTIONAL "com/example/vigilant_grammar/vigilantgrammar/ContentToken$Occurrence" := Exa.start ev_o_OPTIONAL hn3
  obtain ⟨hn4, hn⟩ := and_e hn
  have el_o_INDICATED_0 : cl_o_INDICATED.slots[(0 : Int32).toNatClampNeg]? = some (.ref o_OPTIONAL) := own_elem (by decide) ev_o_INDICATED Ar_o_INDICATED (own_eqR hn4 ev_o_OPTIONAL)
  obtain ⟨hn5, hn⟩ := and_e hn
  have F_o_OPTIONAL_mark : Fld s s.heap o_OPTIONAL "com/example/vigilant_grammar/vigilantgrammar/ContentToken$Occurrence" "mark" "I" (.int (63 : Int32)) := own_fld ev_o_OPTIONAL (own_eqI hn5)
  obtain ⟨hn6, hn⟩ := and_e hn
  obtain ⟨o_ZERO_OR_MORE, ev_o_ZERO_OR_MORE⟩ := exa_v hn6
  have S_ZERO_OR_MORE : Sta s s.heap "com/example/vigilant_grammar/vigilantgrammar/ContentToken$Occurrence" "ZERO_OR_MORE" "Lcom/example/vigilant_grammar/vigilantgrammar/ContentToken$Occurrence;" (.ref o_ZERO_OR_MORE) := Sta.start ev_o_ZERO_OR_MORE (Or.inr ⟨(hw _ (List.mem_of_getElem? (i := 11) rfl)), (hw _ (List.mem_of_getElem? (i := 18) rfl))⟩)
  have E_o_ZERO_OR_MORE : Exa s s.heap o_ZERO_OR_MORE "com/example/vigilant_grammar/vigilantgrammar/ContentToken$Occurrence" := Exa.start ev_o_ZERO_OR_MORE hn6
  obtain ⟨hn7, hn⟩ := and_e hn
  have el_o_INDICATED_1 : cl_o_INDICATED.slots[(1 : Int32).toNatClampNeg]? = some (.ref o_ZERO_OR_MORE) := own_elem (by decide) ev_o_INDICATED Ar_o_INDICATED (own_eqR hn7 ev_o_ZERO_OR_MORE)
  obtain ⟨hn8, hn⟩ := and_e hn
  have F_o_ZERO_OR_MORE_mark : Fld s s.heap o_ZERO_OR_MORE "com/example/vigilant_grammar/vigilantgrammar/ContentToken$Occurrence" "mark" "I" (.int (42 : Int32)) := own_fld ev_o_ZERO_OR_MORE (own_eqI hn8)
  obtain ⟨hn9, hn⟩ := and_e hn
  obtain ⟨o_ONE_OR_MORE, ev_o_ONE_OR_MORE⟩ := exa_v hn9
  have S_ONE_OR_MORE : Sta s s.heap "com/example/vigilant_grammar/vigilantgrammar/ContentToken$Occurrence" "ONE_OR_MORE" "Lcom/example/vigilant_grammar/vigilantgrammar/ContentToken$Occurrence;" (.ref o_ONE_OR_MORE) := Sta.start ev_o_ONE_OR_MORE (Or.inr ⟨(hw _ (List.mem_of_getElem? (i := 11) rfl)), (hw _ (List.mem_of_getElem? (i := 19) rfl))⟩)
  have E_o_ONE_OR_MORE : Exa s s.heap o_ONE_OR_MORE "com/example/vigilant_grammar/vigilantgrammar/ContentToken$Occurrence" := Exa.start ev_o_ONE_OR_MORE hn9
  obtain ⟨hn10, hn⟩ := and_e hn
  have el_o_INDICATED_2 : cl_o_INDICATED.slots[(2 : Int32).toNatClampNeg]? = some (.ref o_ONE_OR_MORE) := own_elem (by decide) ev_o_INDICATED Ar_o_INDICATED (own_eqR hn10 ev_o_ONE_OR_MORE)
  obtain ⟨hn11, hn⟩ := and_e hn
  have F_o_ONE_OR_MORE_mark : Fld s s.heap o_ONE_OR_MORE "com/example/vigilant_grammar/vigilantgrammar/ContentToken$Occurrence" "mark" "I" (.int (43 : Int32)) := own_fld ev_o_ONE_OR_MORE (own_eqI hn11)
  obtain ⟨hn12, hn⟩ := and_e hn
  obtain ⟨o_ZERO_OR_MORE_symbol, ev_o_ZERO_OR_MORE_symbol⟩ := exa_v hn12
  have F_o_ZERO_OR_MORE_symbol : Fld s s.heap o_ZERO_OR_MORE "com/example/vigilant_grammar/vigilantgrammar/ContentToken$Occurrence" "symbol" "Ljava/lang/String;" (.ref o_ZERO_OR_MORE_symbol) := own_fld ev_o_ZERO_OR_MORE ev_o_ZERO_OR_MORE_symbol
  have E_o_ZERO_OR_MORE_symbol : Exa s s.heap o_ZERO_OR_MORE_symbol "java/lang/String" := Exa.start ev_o_ZERO_OR_MORE_symbol hn12
  obtain ⟨hn13, hn⟩ := and_e hn
  obtain ⟨o_ZERO_OR_MORE_symbol_value, ev_o_ZERO_OR_MORE_symbol_value⟩ := arr_v hn13
  have F_o_ZERO_OR_MORE_symbol_value : Fld s s.heap o_ZERO_OR_MORE_symbol "java/lang/String" "value" "[B" (.ref o_ZERO_OR_MORE_symbol_value) := own_fld ev_o_ZERO_OR_MORE_symbol ev_o_ZERO_OR_MORE_symbol_value
  obtain ⟨cl_o_ZERO_OR_MORE_symbol_value, Ar_o_ZERO_OR_MORE_symbol_value⟩ := Arr.start ev_o_ZERO_OR_MORE_symbol_value hn13
  obtain ⟨hn14, hn⟩ := and_e hn
  obtain ⟨sm_o_ZERO_OR_MORE_symbol_value, ln_o_ZERO_OR_MORE_symbol_value⟩ := own_len ev_o_ZERO_OR_MORE_symbol_value Ar_o_ZERO_OR_MORE_symbol_value hn14
  obtain ⟨hn15, hn⟩ := and_e hn
  have F_o_ZERO_OR_MORE_symbol_coder : Fld s s.heap o_ZERO_OR_MORE_symbol "java/lang/String" "coder" "B" (.int (0 : Int32)) := own_fld ev_o_ZERO_OR_MORE_symbol (own_eqI hn15)
  obtain ⟨hn16, hn⟩ := and_e hn
  have el_o_ZERO_OR_MORE_symbol_value_0 : cl_o_ZERO_OR_MORE_symbol_value.slots[(0 : Int32).toNatClampNeg]? = some (.int (42 : Int32)) := own_elem (by decide) ev_o_ZERO_OR_MORE_symbol_value Ar_o_ZERO_OR_MORE_symbol_value (own_eqI hn16)
  obtain ⟨hn17, hn⟩ := and_e hn
  obtain ⟨o_OPTIONAL_symbol, ev_o_OPTIONAL_symbol⟩ := exa_v hn17
  have F_o_OPTIONAL_symbol : Fld s s.heap o_OPTIONAL "com/example/vigilant_grammar/vigilantgrammar/ContentToken$Occurrence" "symbol" "Ljava/lang/String;" (.ref o_OPTIONAL_symbol) := own_fld ev_o_OPTIONAL ev_o_OPTIONAL_symbol
  have E_o_OPTIONAL_symbol : Exa s s.heap o_OPTIONAL_symbol "java/lang/String" := Exa.start ev_o_OPTIONAL_symbol hn17
  obtain ⟨hn18, hn⟩ := and_e hn
  obtain ⟨o_OPTIONAL_symbol_value, ev_o_OPTIONAL_symbol_value⟩ := arr_v hn18
  have F_o_OPTIONAL_symbol_value : Fld s s.heap o_OPTIONAL_symbol "java/lang/String" "value" "[B" (.ref o_OPTIONAL_symbol_value) := own_fld ev_o_OPTIONAL_symbol ev_o_OPTIONAL_symbol_value
  obtain ⟨cl_o_OPTIONAL_symbol_value, Ar_o_OPTIONAL_symbol_value⟩ := Arr.start ev_o_OPTIONAL_symbol_value hn18
  obtain ⟨hn19, hn⟩ := and_e hn
  obtain ⟨sm_o_OPTIONAL_symbol_value, ln_o_OPTIONAL_symbol_value⟩ := own_len ev_o_OPTIONAL_symbol_value Ar_o_OPTIONAL_symbol_value hn19
  obtain ⟨hn20, hn⟩ := and_e hn
  have F_o_OPTIONAL_symbol_coder : Fld s s.heap o_OPTIONAL_symbol "java/lang/String" "coder" "B" (.int (0 : Int32)) := own_fld ev_o_OPTIONAL_symbol (own_eqI hn20)
  obtain ⟨hn21, hn⟩ := and_e hn
  have el_o_OPTIONAL_symbol_value_0 : cl_o_OPTIONAL_symbol_value.slots[(0 : Int32).toNatClampNeg]? = some (.int (63 : Int32)) := own_elem (by decide) ev_o_OPTIONAL_symbol_value Ar_o_OPTIONAL_symbol_value (own_eqI hn21)
  obtain ⟨hn22, hn⟩ := and_e hn
  obtain ⟨o_ONE_OR_MORE_symbol, ev_o_ONE_OR_MORE_symbol⟩ := exa_v hn22
  have F_o_ONE_OR_MORE_symbol : Fld s s.heap o_ONE_OR_MORE "com/example/vigilant_grammar/vigilantgrammar/ContentToken$Occurrence" "symbol" "Ljava/lang/String;" (.ref o_ONE_OR_MORE_symbol) := own_fld ev_o_ONE_OR_MORE ev_o_ONE_OR_MORE_symbol
  have E_o_ONE_OR_MORE_symbol : Exa s s.heap o_ONE_OR_MORE_symbol "java/lang/String" := Exa.start ev_o_ONE_OR_MORE_symbol hn22
  obtain ⟨hn23, hn⟩ := and_e hn
  obtain ⟨o_ONE_OR_MORE_symbol_value, ev_o_ONE_OR_MORE_symbol_value⟩ := arr_v hn23
  have F_o_ONE_OR_MORE_symbol_value : Fld s s.heap o_ONE_OR_MORE_symbol "java/lang/String" "value" "[B" (.ref o_ONE_OR_MORE_symbol_value) := own_fld ev_o_ONE_OR_MORE_symbol ev_o_ONE_OR_MORE_symbol_value
  obtain ⟨cl_o_ONE_OR_MORE_symbol_value, Ar_o_ONE_OR_MORE_symbol_value⟩ := Arr.start ev_o_ONE_OR_MORE_symbol_value hn23
  obtain ⟨hn24, hn⟩ := and_e hn
  obtain ⟨sm_o_ONE_OR_MORE_symbol_value, ln_o_ONE_OR_MORE_symbol_value⟩ := own_len ev_o_ONE_OR_MORE_symbol_value Ar_o_ONE_OR_MORE_symbol_value hn24
  obtain ⟨hn25, hn⟩ := and_e hn
  have F_o_ONE_OR_MORE_symbol_coder : Fld s s.heap o_ONE_OR_MORE_symbol "java/lang/String" "coder" "B" (.int (0 : Int32)) := own_fld ev_o_ONE_OR_MORE_symbol (own_eqI hn25)
  have el_o_ONE_OR_MORE_symbol_value_0 : cl_o_ONE_OR_MORE_symbol_value.slots[(0 : Int32).toNatClampNeg]? = some (.int (43 : Int32)) := own_elem (by decide) ev_o_ONE_OR_MORE_symbol_value Ar_o_ONE_OR_MORE_symbol_value (own_eqI hn)
  obtain ⟨i_COMPACT_STRINGS, ev_i_COMPACT_STRINGS⟩ := is_v (Cond.before_iff.mp (hsets _ (List.mem_of_getElem? (i := 1) rfl)))
  have S_COMPACT_STRINGS : Sta s s.heap "java/lang/String" "COMPACT_STRINGS" "Z" (.int i_COMPACT_STRINGS) := Sta.start ev_i_COMPACT_STRINGS (Or.inl (hsets _ (List.mem_of_getElem? (i := 0) rfl)))
  have nz_i_COMPACT_STRINGS : i_COMPACT_STRINGS ≠ (0 : Int32) := own_neI (Cond.before_iff.mp (hsets _ (List.mem_of_getElem? (i := 2) rfl))) ev_i_COMPACT_STRINGS
  obtain ⟨v_SIOOBE_FORMATTER, ev_v_SIOOBE_FORMATTER, ir_v_SIOOBE_FORMATTER⟩ := isR_v (Cond.before_iff.mp (hsets _ (List.mem_of_getElem? (i := 8) rfl)))
  have S_SIOOBE_FORMATTER : Sta s s.heap "jdk/internal/util/Preconditions" "SIOOBE_FORMATTER" "Ljava/util/function/BiFunction;" v_SIOOBE_FORMATTER := Sta.start ev_v_SIOOBE_FORMATTER (Or.inl (hsets _ (List.mem_of_getElem? (i := 7) rfl)))
  obtain ⟨kc_o_INDICATED, V_o_INDICATED⟩ : ∃ k, Arv s s.heap o_INDICATED k (.object "com/example/vigilant_grammar/vigilantgrammar/ContentToken$Occurrence") (3 : Int32) [(.ref o_OPTIONAL), (.ref o_ZERO_OR_MORE), (.ref o_ONE_OR_MORE)] .null := ⟨_, Arv.start hfit Ar_o_INDICATED sm_o_INDICATED ln_o_INDICATED (by decide) rfl ⟨el_o_INDICATED_0, el_o_INDICATED_1, el_o_INDICATED_2, trivial⟩⟩
  obtain ⟨kc_o_ZERO_OR_MORE_symbol_value, V_o_ZERO_OR_MORE_symbol_value⟩ : ∃ k, Arv s s.heap o_ZERO_OR_MORE_symbol_value k .byte (1 : Int32) [(.int (42 : Int32))] (.int (0 : Int32)) := ⟨_, Arv.start hfit Ar_o_ZERO_OR_MORE_symbol_value sm_o_ZERO_OR_MORE_symbol_value ln_o_ZERO_OR_MORE_symbol_value (by decide) rfl ⟨el_o_ZERO_OR_MORE_symbol_value_0, trivial⟩⟩
  obtain ⟨kc_o_OPTIONAL_symbol_value, V_o_OPTIONAL_symbol_value⟩ : ∃ k, Arv s s.heap o_OPTIONAL_symbol_value k .byte (1 : Int32) [(.int (63 : Int32))] (.int (0 : Int32)) := ⟨_, Arv.start hfit Ar_o_OPTIONAL_symbol_value sm_o_OPTIONAL_symbol_value ln_o_OPTIONAL_symbol_value (by decide) rfl ⟨el_o_OPTIONAL_symbol_value_0, trivial⟩⟩
  obtain ⟨kc_o_ONE_OR_MORE_symbol_value, V_o_ONE_OR_MORE_symbol_value⟩ : ∃ k, Arv s s.heap o_ONE_OR_MORE_symbol_value k .byte (1 : Int32) [(.int (43 : Int32))] (.int (0 : Int32)) := ⟨_, Arv.start hfit Ar_o_ONE_OR_MORE_symbol_value sm_o_ONE_OR_MORE_symbol_value ln_o_ONE_OR_MORE_symbol_value (by decide) rfl ⟨el_o_ONE_OR_MORE_symbol_value_0, trivial⟩⟩
  obtain ⟨n, o, h1, h2, h3, _, L, rfl, ⟨rfl, N⟩, hq⟩ := own_law l s _ hw tables_1 i0 i1 o_INDICATED o_OPTIONAL o_ZERO_OR_MORE o_ONE_OR_MORE o_ZERO_OR_MORE_symbol o_ZERO_OR_MORE_symbol_value o_OPTIONAL_symbol o_OPTIONAL_symbol_value o_ONE_OR_MORE_symbol o_ONE_OR_MORE_symbol_value i_COMPACT_STRINGS v_SIOOBE_FORMATTER kc_o_INDICATED kc_o_ZERO_OR_MORE_symbol_value kc_o_OPTIONAL_symbol_value kc_o_ONE_OR_MORE_symbol_value s.heap s.heap.size (Nat.le_refl _) (Old.start s) S_INDICATED S_OPTIONAL E_o_OPTIONAL F_o_OPTIONAL_mark S_ZERO_OR_MORE E_o_ZERO_OR_MORE F_o_ZERO_OR_MORE_mark S_ONE_OR_MORE E_o_ONE_OR_MORE F_o_ONE_OR_MORE_mark F_o_ZERO_OR_MORE_symbol E_o_ZERO_OR_MORE_symbol F_o_ZERO_OR_MORE_symbol_value F_o_ZERO_OR_MORE_symbol_coder F_o_OPTIONAL_symbol E_o_OPTIONAL_symbol F_o_OPTIONAL_symbol_value F_o_OPTIONAL_symbol_coder F_o_ONE_OR_MORE_symbol E_o_ONE_OR_MORE_symbol F_o_ONE_OR_MORE_symbol_value F_o_ONE_OR_MORE_symbol_coder S_COMPACT_STRINGS nz_i_COMPACT_STRINGS S_SIOOBE_FORMATTER ir_v_SIOOBE_FORMATTER V_o_INDICATED V_o_ZERO_OR_MORE_symbol_value V_o_OPTIONAL_symbol_value V_o_ONE_OR_MORE_symbol_value  p e ha hc hk s m _ below hf ((Spec.applies_iff_loose hf).mp happ).1 ⟨rfl, State.Warmed39.refl s, rfl⟩ trivial
  refine ⟨n, _, h1, h2, h3, hpost _ _ _ _ _ _ ⟨Cond.after_iff.mpr rfl, Cond.after_iff.mpr (eq_i res_at (Term.int_eval (1)) rfl), trivial⟩ ⟨hq.1, hq.2.1, (hq.2.2.sift fun y hy => Or.inr (N y hy)).mono (by decide) (by decide)⟩⟩
theorem main_1_1 : Claimed_1_1 := comes_1 fun _ _ _ _ _ _ h hF => ⟨h.1, hF⟩
theorem main_1_2 : Claimed_1_2 := comes_1 fun _ _ _ _ _ _ h hF => ⟨h.2.1, hF⟩
end Jvm.Pilot.@@N@@
namespace Jvm.Pilot.@@N@@
open Jvm Jvm.ClassFile Sem Op Lib Jvm.Free Jvm.Stand Jvm.Pilot.@@N@@.Jvm.D
/-! MADE BY PROGRAM (witnessworld.py) out of the Statement's table words and the real class files: 19 classes; the members and pool entries that the words name. The judged class is class 1, her method 1. -/
namespace start1
open Jvm.ClassFile
def u (s : String) : CpInfo := .utf8 (stringToUtf16 s)
/-- a pool by its gaps: so many unusable entries, then the entry; so many at the end -/
def gap : Nat → List CpInfo → List CpInfo
  | 0, r => r
  | n + 1, r => .unusable :: gap n r
def poolList (es : List (Nat × CpInfo)) (last : Nat) : List CpInfo := es.foldr (fun e r => gap e.1 (e.2 :: r)) (gap last [])
def pool (es : List (Nat × CpInfo)) (last : Nat) : Array CpInfo := ⟨poolList es last⟩
def fileOf (pool : Array CpInfo) (this : Nat) (attrs : Array Attribute := #[]) (ms : Array MethodInfo := #[]) (fl : Nat := 33) (sup : Nat := 0) (ifs : Array Nat := #[]) (fds : Array FieldInfo := #[]) : ClassFile where
  minorVersion := 0
  majorVersion := 65
  constantPool := pool
  accessFlags := fl
  thisClass := this
  superClass := sup
  interfaces := ifs
  fields := fds
  methods := ms
  attributes := attrs
def plain (name : String) (sup : Option ClassId) : Class where
  name := name
  kind := .ordinary
  loader := none
  accessFlags := 33
  super := sup
  interfaces := #[]
  cf := none
  fields := #[]
  methods := #[]
  instanceTypes := #[]
  staticTypes := #[]
  resolved := #[]
  callSites := []
  init := .initialized
  statics := none
  mirror := none

def pool0 : Array CpInfo := pool [(5, u "<init>"), (0, u "()V"), (1, .class_ 10), (1, u "java/lang/Object")] 113

def k0m0 : Method := { name := "<init>", desc := "()V", sig := { parameters := [], returnType := none }, accessFlags := 1, code := none }
/-- java/lang/Object -/
def k0 : Class := { plain "java/lang/Object" none with
  accessFlags := 33
  interfaces := #[]
  cf := some (fileOf pool0 8 #[] #[{ accessFlags := 1, nameIndex := 5, descriptorIndex := 6, attributes := #[] }] 33 0 #[] #[])
  fields := #[]
  methods := #[k0m0]
  instanceTypes := #[]
  staticTypes := #[]
  resolved := Array.replicate 124 none
  statics := none }

def pool1 : Array CpInfo := pool [(2, .class_ 4), (1, u "java/lang/Object"), (0, u "<init>"), (0, u "()V"), (0, .integer 65578), (0, .integer 4294901823), (2, .integer 2147483648), (0, .integer 2147483647), (0, .methodref 14 15), (0, .class_ 16), (0, .nameAndType 17 18), (0, u "com/example/vigilant_grammar/vigilantgrammar/OccurrenceIndicatedByPinLaw"), (0, u "agrees"), (0, u "(I)Z"), (0, .fieldref 20 21), (0, .class_ 22), (0, .nameAndType 23 24), (0, u "com/example/vigilant_grammar/vigilantgrammar/ContentToken$Occurrence"), (0, u "OPTIONAL"), (0, u "Lcom/example/vigilant_grammar/vigilantgrammar/ContentToken$Occurrence;"), (0, .fieldref 20 26), (0, .nameAndType 27 24), (0, u "ZERO_OR_MORE"), (0, .fieldref 20 29), (0, .nameAndType 30 24), (0, u "ONE_OR_MORE"), (0, .methodref 20 32), (0, .nameAndType 33 34), (0, u "indicatedBy"), (0, u "(I)Lcom/example/vigilant_grammar/vigilantgrammar/ContentToken$Occurrence;"), (0, .methodref 14 36), (0, .nameAndType 37 34), (0, u "expected"), (0, .methodref 20 39), (0, .nameAndType 40 41), (0, u "symbol"), (0, u "()Ljava/lang/String;"), (0, .methodref 43 44), (0, .class_ 45), (0, .nameAndType 46 47), (0, u "java/lang/String"), (0, u "length"), (0, u "()I"), (0, .methodref 43 49), (0, .nameAndType 50 51), (0, u "charAt"), (0, u "(I)C"), (2, u "law"), (0, u "(II)Z")] 9

def k1m0 : Method := { name := "<init>", desc := "()V", sig := { parameters := [], returnType := none }, accessFlags := 2, code := none }
def k1c1 : Code := { maxStack := 4, maxLocals := 4, code := code, exceptionTable := #[], attributes := #[] }
def k1m1 : Method := { name := "law", desc := "(II)Z", sig := { parameters := [.int, .int], returnType := some .boolean }, accessFlags := 9, code := some k1c1 }
def k1c2 : Code := { maxStack := 2, maxLocals := 1, code := method_3_code, exceptionTable := #[], attributes := #[] }
def k1m2 : Method := { name := "expected", desc := "(I)Lcom/example/vigilant_grammar/vigilantgrammar/ContentToken$Occurrence;", sig := { parameters := [.int], returnType := some (.object "com/example/vigilant_grammar/vigilantgrammar/ContentToken$Occurrence") }, accessFlags := 10, code := some k1c2 }
def k1c3 : Code := { maxStack := 2, maxLocals := 4, code := method_4_code, exceptionTable := #[], attributes := #[] }
def k1m3 : Method := { name := "agrees", desc := "(I)Z", sig := { parameters := [.int], returnType := some .boolean }, accessFlags := 10, code := some k1c3 }
/-- com/example/vigilant_grammar/vigilantgrammar/OccurrenceIndicatedByPinLaw -/
def k1 : Class := { plain "com/example/vigilant_grammar/vigilantgrammar/OccurrenceIndicatedByPinLaw" (some 0) with
  accessFlags := 49
  interfaces := #[]
  cf := some (fileOf pool1 14 #[] #[{ accessFlags := 2, nameIndex := 5, descriptorIndex := 6, attributes := #[] }, { accessFlags := 9, nameIndex := 54, descriptorIndex := 55, attributes := #[] }, { accessFlags := 10, nameIndex := 37, descriptorIndex := 34, attributes := #[] }, { accessFlags := 10, nameIndex := 17, descriptorIndex := 18, attributes := #[] }] 49 2 #[] #[])
  fields := #[]
  methods := #[k1m0, k1m1, k1m2, k1m3]
  instanceTypes := #[]
  staticTypes := #[]
  resolved := Array.replicate 65 none
  statics := none }

def pool2 : Array CpInfo := pool [(1, .class_ 2), (0, u "java/lang/constant/Constable"), (0, .class_ 4), (0, u "java/lang/Object")] 6

/-- java/lang/constant/Constable -/
def k2 : Class := { plain "java/lang/constant/Constable" (some 0) with
  accessFlags := 1537
  interfaces := #[]
  cf := some (fileOf pool2 1 #[] #[] 1537 3 #[] #[])
  fields := #[]
  methods := #[]
  instanceTypes := #[]
  staticTypes := #[]
  resolved := Array.replicate 11 none
  statics := none }

def pool3 : Array CpInfo := pool [(1, .class_ 2), (0, u "java/lang/Comparable"), (0, .class_ 4), (0, u "java/lang/Object")] 7

/-- java/lang/Comparable -/
def k3 : Class := { plain "java/lang/Comparable" (some 0) with
  accessFlags := 1537
  interfaces := #[]
  cf := some (fileOf pool3 1 #[] #[] 1537 3 #[] #[])
  fields := #[]
  methods := #[]
  instanceTypes := #[]
  staticTypes := #[]
  resolved := Array.replicate 12 none
  statics := none }

def pool4 : Array CpInfo := pool [(1, .class_ 2), (0, u "java/io/Serializable"), (0, .class_ 4), (0, u "java/lang/Object")] 2

/-- java/io/Serializable -/
def k4 : Class := { plain "java/io/Serializable" (some 0) with
  accessFlags := 1537
  interfaces := #[]
  cf := some (fileOf pool4 1 #[] #[] 1537 3 #[] #[])
  fields := #[]
  methods := #[]
  instanceTypes := #[]
  staticTypes := #[]
  resolved := Array.replicate 7 none
  statics := none }

def pool5 : Array CpInfo := pool [(2, .class_ 4), (1, u "java/lang/Enum"), (0, u "name"), (0, u "Ljava/lang/String;"), (2, u "ordinal"), (0, u "I"), (1, .class_ 14), (1, u "java/lang/Object"), (4, u "hash"), (86, .class_ 108), (1, u "java/lang/Enum$EnumDesc"), (2, .class_ 112), (0, u "java/lang/constant/Constable"), (0, .class_ 114), (0, u "java/lang/Comparable"), (0, .class_ 116), (0, u "java/io/Serializable")] 87

/-- java/lang/Enum -/
def k5 : Class := { plain "java/lang/Enum" (some 0) with
  accessFlags := 1057
  interfaces := #[2, 3, 4]
  cf := some (fileOf pool5 2 #[.nestMembers #[106]] #[] 1057 12 #[111, 113, 115] #[{ accessFlags := 18, nameIndex := 5, descriptorIndex := 6, attributes := #[] }, { accessFlags := 18, nameIndex := 9, descriptorIndex := 10, attributes := #[] }, { accessFlags := 2, nameIndex := 19, descriptorIndex := 10, attributes := #[] }])
  fields := #[{ name := "name", type := (.object "java/lang/String"), accessFlags := 18, slot := 0, constantValue := 0 }, { name := "ordinal", type := .int, accessFlags := 18, slot := 1, constantValue := 0 }, { name := "hash", type := .int, accessFlags := 2, slot := 2, constantValue := 0 }]
  methods := #[]
  instanceTypes := #[(.object "java/lang/String"), .int, .int]
  staticTypes := #[]
  resolved := Array.replicate 204 none
  statics := none }

def pool6 : Array CpInfo := pool [(1, .class_ 2), (0, u "com/example/vigilant_grammar/vigilantgrammar/ContentToken$Occurrence"), (2, u "ONCE"), (0, u "Lcom/example/vigilant_grammar/vigilantgrammar/ContentToken$Occurrence;"), (2, u "OPTIONAL"), (2, u "ZERO_OR_MORE"), (2, u "ONE_OR_MORE"), (2, u "$VALUES"), (0, u "[Lcom/example/vigilant_grammar/vigilantgrammar/ContentToken$Occurrence;"), (6, .class_ 28), (1, u "java/lang/Enum"), (6, .fieldref 1 36), (0, .nameAndType 37 38), (0, u "symbol"), (0, u "Ljava/lang/String;"), (10, .fieldref 1 50), (0, .nameAndType 51 52), (0, u "mark"), (0, u "I"), (0, .fieldref 1 54), (0, .nameAndType 55 19), (0, u "INDICATED"), (27, u "indicatedBy"), (0, u "(I)Lcom/example/vigilant_grammar/vigilantgrammar/ContentToken$Occurrence;"), (0, u "()Ljava/lang/String;"), (8, .class_ 95), (0, u "com/example/vigilant_grammar/vigilantgrammar/ContentToken")] 2

def k6c0 : Code := { maxStack := 2, maxLocals := 5, code := prog_39_method_4_code, exceptionTable := #[], attributes := #[] }
def k6m0 : Method := { name := "indicatedBy", desc := "(I)Lcom/example/vigilant_grammar/vigilantgrammar/ContentToken$Occurrence;", sig := { parameters := [.int], returnType := some (.object "com/example/vigilant_grammar/vigilantgrammar/ContentToken$Occurrence") }, accessFlags := 8, code := some k6c0 }
def k6c1 : Code := { maxStack := 1, maxLocals := 1, code := prog_39_method_5_code, exceptionTable := #[], attributes := #[] }
def k6m1 : Method := { name := "symbol", desc := "()Ljava/lang/String;", sig := { parameters := [], returnType := some (.object "java/lang/String") }, accessFlags := 1, code := some k6c1 }
/-- com/example/vigilant_grammar/vigilantgrammar/ContentToken$Occurrence -/
def k6 : Class := { plain "com/example/vigilant_grammar/vigilantgrammar/ContentToken$Occurrence" (some 5) with
  accessFlags := 16433
  interfaces := #[]
  cf := some (fileOf pool6 1 #[.nestHost 94] #[{ accessFlags := 8, nameIndex := 83, descriptorIndex := 84, attributes := #[] }, { accessFlags := 1, nameIndex := 37, descriptorIndex := 85, attributes := #[] }] 16433 26 #[] #[{ accessFlags := 16409, nameIndex := 5, descriptorIndex := 6, attributes := #[] }, { accessFlags := 16409, nameIndex := 9, descriptorIndex := 6, attributes := #[] }, { accessFlags := 16409, nameIndex := 12, descriptorIndex := 6, attributes := #[] }, { accessFlags := 16409, nameIndex := 15, descriptorIndex := 6, attributes := #[] }, { accessFlags := 26, nameIndex := 55, descriptorIndex := 19, attributes := #[] }, { accessFlags := 18, nameIndex := 37, descriptorIndex := 38, attributes := #[] }, { accessFlags := 18, nameIndex := 51, descriptorIndex := 52, attributes := #[] }, { accessFlags := 4122, nameIndex := 18, descriptorIndex := 19, attributes := #[] }])
  fields := #[{ name := "ONCE", type := (.object "com/example/vigilant_grammar/vigilantgrammar/ContentToken$Occurrence"), accessFlags := 16409, slot := 0, constantValue := 0 }, { name := "OPTIONAL", type := (.object "com/example/vigilant_grammar/vigilantgrammar/ContentToken$Occurrence"), accessFlags := 16409, slot := 1, constantValue := 0 }, { name := "ZERO_OR_MORE", type := (.object "com/example/vigilant_grammar/vigilantgrammar/ContentToken$Occurrence"), accessFlags := 16409, slot := 2, constantValue := 0 }, { name := "ONE_OR_MORE", type := (.object "com/example/vigilant_grammar/vigilantgrammar/ContentToken$Occurrence"), accessFlags := 16409, slot := 3, constantValue := 0 }, { name := "INDICATED", type := (.array (.object "com/example/vigilant_grammar/vigilantgrammar/ContentToken$Occurrence")), accessFlags := 26, slot := 4, constantValue := 0 }, { name := "symbol", type := (.object "java/lang/String"), accessFlags := 18, slot := 3, constantValue := 0 }, { name := "mark", type := .int, accessFlags := 18, slot := 4, constantValue := 0 }, { name := "$VALUES", type := (.array (.object "com/example/vigilant_grammar/vigilantgrammar/ContentToken$Occurrence")), accessFlags := 4122, slot := 5, constantValue := 0 }]
  methods := #[k6m0, k6m1]
  instanceTypes := #[(.object "java/lang/String"), .int, .int, (.object "java/lang/String"), .int]
  staticTypes := #[(.object "com/example/vigilant_grammar/vigilantgrammar/ContentToken$Occurrence"), (.object "com/example/vigilant_grammar/vigilantgrammar/ContentToken$Occurrence"), (.object "com/example/vigilant_grammar/vigilantgrammar/ContentToken$Occurrence"), (.object "com/example/vigilant_grammar/vigilantgrammar/ContentToken$Occurrence"), (.array (.object "com/example/vigilant_grammar/vigilantgrammar/ContentToken$Occurrence")), (.array (.object "com/example/vigilant_grammar/vigilantgrammar/ContentToken$Occurrence"))]
  resolved := Array.replicate 98 none
  statics := some 0 }

def pool7 : Array CpInfo := pool [(2, .class_ 4), (1, u "java/lang/CharSequence"), (42, .class_ 48), (0, u "java/lang/CharSequence$1CodePointIterator"), (10, .class_ 60), (0, u "java/lang/CharSequence$1CharIterator"), (5, .class_ 67), (0, u "java/lang/Object")] 63

/-- java/lang/CharSequence -/
def k7 : Class := { plain "java/lang/CharSequence" (some 0) with
  accessFlags := 1537
  interfaces := #[]
  cf := some (fileOf pool7 2 #[.nestMembers #[47, 59]] #[] 1537 66 #[] #[])
  fields := #[]
  methods := #[]
  instanceTypes := #[]
  staticTypes := #[]
  resolved := Array.replicate 131 none
  statics := none }

def pool8 : Array CpInfo := pool [(1, .class_ 2), (0, u "java/lang/constant/ConstantDesc"), (0, .class_ 4), (0, u "java/lang/Object")] 32

/-- java/lang/constant/ConstantDesc -/
def k8 : Class := { plain "java/lang/constant/ConstantDesc" (some 0) with
  accessFlags := 1537
  interfaces := #[]
  cf := some (fileOf pool8 1 #[] #[] 1537 3 #[] #[])
  fields := #[]
  methods := #[]
  instanceTypes := #[]
  staticTypes := #[]
  resolved := Array.replicate 37 none
  statics := none }

def pool9 : Array CpInfo := pool [(2, .class_ 4), (1, u "java/lang/Object"), (0, u "<init>"), (0, u "()V"), (2, .fieldref 10 11), (0, .class_ 12), (0, .nameAndType 13 14), (0, u "java/lang/String"), (0, u "value"), (0, u "[B"), (0, .fieldref 10 16), (0, .nameAndType 17 18), (0, u "coder"), (0, u "B"), (2, u "hash"), (0, u "I"), (2, u "hashIsZero"), (0, u "Z"), (11, .fieldref 10 39), (0, .nameAndType 40 26), (0, u "COMPACT_STRINGS"), (66, .class_ 109), (1, u "java/lang/StringLatin1"), (32, u "()Z"), (191, u "()I"), (0, .methodref 10 336), (0, .nameAndType 17 337), (0, u "()B"), (25, u "([BI)C"), (27, u "(II)V"), (35, u "(I)C"), (64, .methodref 10 493), (0, .nameAndType 494 142), (0, u "isLatin1"), (0, .methodref 107 496), (0, .nameAndType 497 363), (0, u "charAt"), (3, u "checkIndex"), (5, u "length"), (67, .class_ 576), (0, u "java/lang/CharSequence"), (22, u "CASE_INSENSITIVE_ORDER"), (0, u "Ljava/util/Comparator;"), (452, .fieldref 1054 1055), (0, .class_ 1056), (0, .nameAndType 1057 1058), (0, u "jdk/internal/util/Preconditions"), (0, u "SIOOBE_FORMATTER"), (0, u "Ljava/util/function/BiFunction;"), (0, .methodref 1054 1060), (0, .nameAndType 501 1061), (0, u "(IILjava/util/function/BiFunction;)I"), (39, u "serialPersistentFields"), (0, u "[Ljava/io/ObjectStreamField;"), (0, .class_ 1104), (0, u "java/lang/String$CaseInsensitiveComparator"), (1, .class_ 1107), (0, u "java/io/Serializable"), (0, .class_ 1109), (0, u "java/lang/Comparable"), (0, .class_ 1111), (0, u "java/lang/constant/Constable"), (0, .class_ 1113), (0, u "java/lang/constant/ConstantDesc"), (2, u "serialVersionUID"), (0, u "J"), (3, u "REPL"), (0, u "C"), (2, u "LATIN1"), (1, u "UTF16")] 323

def k9m0 : Method := { name := "<init>", desc := "()V", sig := { parameters := [], returnType := none }, accessFlags := 1, code := none }
def k9c1 : Code := { maxStack := 2, maxLocals := 1, code := jdk_42_method_54_code, exceptionTable := #[], attributes := #[] }
def k9m1 : Method := { name := "length", desc := "()I", sig := { parameters := [], returnType := some .int }, accessFlags := 1, code := some k9c1 }
def k9c2 : Code := { maxStack := 2, maxLocals := 2, code := jdk_42_method_56_code, exceptionTable := #[], attributes := #[] }
def k9m2 : Method := { name := "charAt", desc := "(I)C", sig := { parameters := [.int], returnType := some .char }, accessFlags := 1, code := some k9c2 }
def k9c3 : Code := { maxStack := 1, maxLocals := 1, code := jdk_42_method_152_code, exceptionTable := #[], attributes := #[] }
def k9m3 : Method := { name := "coder", desc := "()B", sig := { parameters := [], returnType := some .byte }, accessFlags := 0, code := some k9c3 }
def k9c4 : Code := { maxStack := 1, maxLocals := 1, code := jdk_42_method_154_code, exceptionTable := #[], attributes := #[] }
def k9m4 : Method := { name := "isLatin1", desc := "()Z", sig := { parameters := [], returnType := some .boolean }, accessFlags := 0, code := some k9c4 }
def k9c5 : Code := { maxStack := 3, maxLocals := 2, code := jdk_42_method_155_code, exceptionTable := #[], attributes := #[] }
def k9m5 : Method := { name := "checkIndex", desc := "(II)V", sig := { parameters := [.int, .int], returnType := none }, accessFlags := 8, code := some k9c5 }
/-- java/lang/String -/
def k9 : Class := { plain "java/lang/String" (some 0) with
  accessFlags := 49
  interfaces := #[4, 3, 7, 2, 8]
  cf := some (fileOf pool9 10 #[.nestMembers #[1103]] #[{ accessFlags := 1, nameIndex := 5, descriptorIndex := 6, attributes := #[] }, { accessFlags := 1, nameIndex := 507, descriptorIndex := 334, attributes := #[] }, { accessFlags := 1, nameIndex := 497, descriptorIndex := 427, attributes := #[] }, { accessFlags := 0, nameIndex := 17, descriptorIndex := 337, attributes := #[] }, { accessFlags := 0, nameIndex := 494, descriptorIndex := 142, attributes := #[] }, { accessFlags := 8, nameIndex := 501, descriptorIndex := 391, attributes := #[] }] 49 2 #[1106, 1108, 575, 1110, 1112] #[{ accessFlags := 18, nameIndex := 13, descriptorIndex := 14, attributes := #[] }, { accessFlags := 18, nameIndex := 17, descriptorIndex := 18, attributes := #[] }, { accessFlags := 2, nameIndex := 21, descriptorIndex := 22, attributes := #[] }, { accessFlags := 2, nameIndex := 25, descriptorIndex := 26, attributes := #[] }, { accessFlags := 26, nameIndex := 1116, descriptorIndex := 1117, attributes := #[] }, { accessFlags := 24, nameIndex := 40, descriptorIndex := 26, attributes := #[] }, { accessFlags := 26, nameIndex := 1101, descriptorIndex := 1102, attributes := #[] }, { accessFlags := 26, nameIndex := 1121, descriptorIndex := 1122, attributes := #[] }, { accessFlags := 25, nameIndex := 599, descriptorIndex := 600, attributes := #[] }, { accessFlags := 24, nameIndex := 1125, descriptorIndex := 18, attributes := #[] }, { accessFlags := 24, nameIndex := 1127, descriptorIndex := 18, attributes := #[] }])
  fields := #[{ name := "value", type := (.array .byte), accessFlags := 18, slot := 0, constantValue := 0 }, { name := "coder", type := .byte, accessFlags := 18, slot := 1, constantValue := 0 }, { name := "hash", type := .int, accessFlags := 2, slot := 2, constantValue := 0 }, { name := "hashIsZero", type := .boolean, accessFlags := 2, slot := 3, constantValue := 0 }, { name := "serialVersionUID", type := .long, accessFlags := 26, slot := 0, constantValue := 0 }, { name := "COMPACT_STRINGS", type := .boolean, accessFlags := 24, slot := 1, constantValue := 0 }, { name := "serialPersistentFields", type := (.array (.object "java/io/ObjectStreamField")), accessFlags := 26, slot := 2, constantValue := 0 }, { name := "REPL", type := .char, accessFlags := 26, slot := 3, constantValue := 0 }, { name := "CASE_INSENSITIVE_ORDER", type := (.object "java/util/Comparator"), accessFlags := 25, slot := 4, constantValue := 0 }, { name := "LATIN1", type := .byte, accessFlags := 24, slot := 5, constantValue := 0 }, { name := "UTF16", type := .byte, accessFlags := 24, slot := 6, constantValue := 0 }]
  methods := #[k9m0, k9m1, k9m2, k9m3, k9m4, k9m5]
  instanceTypes := #[(.array .byte), .byte, .int, .boolean]
  staticTypes := #[.long, .boolean, (.array (.object "java/io/ObjectStreamField")), .char, (.object "java/util/Comparator"), .byte, .byte]
  resolved := Array.replicate 1451 none
  statics := some 1 }

def pool10 : Array CpInfo := pool [(1, .class_ 2), (0, u "java/lang/String"), (1, .class_ 6), (1, u "java/lang/Object"), (0, u "<init>"), (0, u "()V"), (0, .methodref 1 10), (0, .nameAndType 11 12), (0, u "checkIndex"), (0, u "(II)V"), (1, .class_ 16), (1, u "java/lang/StringLatin1"), (36, u "([BI)C"), (67, u "$assertionsDisabled"), (0, u "Z"), (98, .class_ 223), (1, u "java/lang/StringLatin1$LinesSpliterator"), (28, u "charAt"), (137, .class_ 391), (0, u "java/lang/StringLatin1$CharsSpliterator")] 3

def k10m0 : Method := { name := "<init>", desc := "()V", sig := { parameters := [], returnType := none }, accessFlags := 0, code := none }
def k10c1 : Code := { maxStack := 2, maxLocals := 2, code := jdk_43_method_2_code, exceptionTable := #[], attributes := #[] }
def k10m1 : Method := { name := "charAt", desc := "([BI)C", sig := { parameters := [(.array .byte), .int], returnType := some .char }, accessFlags := 9, code := some k10c1 }
/-- java/lang/StringLatin1 -/
def k10 : Class := { plain "java/lang/StringLatin1" (some 0) with
  accessFlags := 48
  interfaces := #[]
  cf := some (fileOf pool10 14 #[.nestMembers #[390, 221]] #[{ accessFlags := 0, nameIndex := 7, descriptorIndex := 8, attributes := #[] }, { accessFlags := 9, nameIndex := 252, descriptorIndex := 53, attributes := #[] }] 48 4 #[] #[{ accessFlags := 4120, nameIndex := 121, descriptorIndex := 122, attributes := #[] }])
  fields := #[{ name := "$assertionsDisabled", type := .boolean, accessFlags := 4120, slot := 0, constantValue := 0 }]
  methods := #[k10m0, k10m1]
  instanceTypes := #[]
  staticTypes := #[.boolean]
  resolved := Array.replicate 395 none
  statics := none }

def pool11 : Array CpInfo := pool [(2, .class_ 4), (1, u "java/lang/Object"), (0, u "<init>"), (0, u "()V"), (17, .class_ 26), (1, u "jdk/internal/util/Preconditions"), (6, u "checkIndex"), (21, .class_ 56), (0, u "jdk/internal/util/Preconditions$4"), (57, .class_ 115), (0, u "jdk/internal/util/Preconditions$1"), (7, u "SIOOBE_FORMATTER"), (0, u "Ljava/util/function/BiFunction;"), (0, .class_ 126), (0, u "jdk/internal/util/Preconditions$2"), (3, u "AIOOBE_FORMATTER"), (0, .class_ 132), (0, u "jdk/internal/util/Preconditions$3"), (3, u "IOOBE_FORMATTER"), (41, u "(IILjava/util/function/BiFunction;)I")] 15

def k11m0 : Method := { name := "<init>", desc := "()V", sig := { parameters := [], returnType := none }, accessFlags := 1, code := none }
def k11c1 : Code := { maxStack := 3, maxLocals := 3, code := jdk_41_method_11_code, exceptionTable := #[], attributes := #[] }
def k11m1 : Method := { name := "checkIndex", desc := "(IILjava/util/function/BiFunction;)I", sig := { parameters := [.int, .int, (.object "java/util/function/BiFunction")], returnType := some .int }, accessFlags := 9, code := some k11c1 }
/-- jdk/internal/util/Preconditions -/
def k11 : Class := { plain "jdk/internal/util/Preconditions" (some 0) with
  accessFlags := 33
  interfaces := #[]
  cf := some (fileOf pool11 24 #[.nestMembers #[55, 131, 125, 114]] #[{ accessFlags := 1, nameIndex := 5, descriptorIndex := 6, attributes := #[] }, { accessFlags := 9, nameIndex := 33, descriptorIndex := 178, attributes := #[] }] 33 2 #[] #[{ accessFlags := 25, nameIndex := 123, descriptorIndex := 124, attributes := #[] }, { accessFlags := 25, nameIndex := 130, descriptorIndex := 124, attributes := #[] }, { accessFlags := 25, nameIndex := 136, descriptorIndex := 124, attributes := #[] }])
  fields := #[{ name := "SIOOBE_FORMATTER", type := (.object "java/util/function/BiFunction"), accessFlags := 25, slot := 0, constantValue := 0 }, { name := "AIOOBE_FORMATTER", type := (.object "java/util/function/BiFunction"), accessFlags := 25, slot := 1, constantValue := 0 }, { name := "IOOBE_FORMATTER", type := (.object "java/util/function/BiFunction"), accessFlags := 25, slot := 2, constantValue := 0 }]
  methods := #[k11m0, k11m1]
  instanceTypes := #[]
  staticTypes := #[(.object "java/util/function/BiFunction"), (.object "java/util/function/BiFunction"), (.object "java/util/function/BiFunction")]
  resolved := Array.replicate 194 none
  statics := some 2 }

def pool12 : Array CpInfo := pool [(9, u "<init>"), (6, .class_ 18), (1, u "java/lang/Object"), (0, u "()V"), (1, .class_ 23), (1, u "jdk/internal/util/ArraysSupport"), (0, u "LOG2_ARRAY_LONG_INDEX_SCALE"), (0, u "I"), (2, u "U"), (0, u "Ljdk/internal/misc/Unsafe;"), (8, u "BIG_ENDIAN"), (0, u "Z"), (8, u "LOG2_BYTE_BIT_SIZE"), (4, u "LOG2_ARRAY_INT_INDEX_SCALE"), (54, u "JLA"), (0, u "Ljdk/internal/access/JavaLangAccess;"), (11, u "LOG2_ARRAY_BOOLEAN_INDEX_SCALE"), (9, u "LOG2_ARRAY_BYTE_INDEX_SCALE"), (5, u "LOG2_ARRAY_CHAR_INDEX_SCALE"), (5, u "LOG2_ARRAY_SHORT_INDEX_SCALE"), (18, u "LOG2_ARRAY_FLOAT_INDEX_SCALE"), (24, u "LOG2_ARRAY_DOUBLE_INDEX_SCALE"), (89, u "T_BOOLEAN"), (2, u "T_CHAR"), (1, u "T_FLOAT"), (1, u "T_DOUBLE"), (1, u "T_BYTE"), (1, u "T_SHORT"), (1, u "T_INT"), (1, u "T_LONG"), (1, u "SOFT_MAX_ARRAY_LENGTH")] 83

def k12m0 : Method := { name := "<init>", desc := "()V", sig := { parameters := [], returnType := none }, accessFlags := 2, code := none }
/-- jdk/internal/util/ArraysSupport -/
def k12 : Class := { plain "jdk/internal/util/ArraysSupport" (some 0) with
  accessFlags := 33
  interfaces := #[]
  cf := some (fileOf pool12 21 #[] #[{ accessFlags := 2, nameIndex := 9, descriptorIndex := 19, attributes := #[] }] 33 16 #[] #[{ accessFlags := 24, nameIndex := 28, descriptorIndex := 29, attributes := #[] }, { accessFlags := 26, nameIndex := 38, descriptorIndex := 39, attributes := #[] }, { accessFlags := 25, nameIndex := 121, descriptorIndex := 25, attributes := #[] }, { accessFlags := 25, nameIndex := 131, descriptorIndex := 25, attributes := #[] }, { accessFlags := 25, nameIndex := 137, descriptorIndex := 25, attributes := #[] }, { accessFlags := 25, nameIndex := 143, descriptorIndex := 25, attributes := #[] }, { accessFlags := 25, nameIndex := 53, descriptorIndex := 25, attributes := #[] }, { accessFlags := 25, nameIndex := 24, descriptorIndex := 25, attributes := #[] }, { accessFlags := 25, nameIndex := 162, descriptorIndex := 25, attributes := #[] }, { accessFlags := 25, nameIndex := 187, descriptorIndex := 25, attributes := #[] }, { accessFlags := 26, nameIndex := 48, descriptorIndex := 25, attributes := #[] }, { accessFlags := 25, nameIndex := 277, descriptorIndex := 25, attributes := #[] }, { accessFlags := 25, nameIndex := 280, descriptorIndex := 25, attributes := #[] }, { accessFlags := 25, nameIndex := 282, descriptorIndex := 25, attributes := #[] }, { accessFlags := 25, nameIndex := 284, descriptorIndex := 25, attributes := #[] }, { accessFlags := 25, nameIndex := 286, descriptorIndex := 25, attributes := #[] }, { accessFlags := 25, nameIndex := 288, descriptorIndex := 25, attributes := #[] }, { accessFlags := 25, nameIndex := 290, descriptorIndex := 25, attributes := #[] }, { accessFlags := 25, nameIndex := 292, descriptorIndex := 25, attributes := #[] }, { accessFlags := 26, nameIndex := 108, descriptorIndex := 109, attributes := #[] }, { accessFlags := 25, nameIndex := 294, descriptorIndex := 25, attributes := #[] }])
  fields := #[{ name := "U", type := (.object "jdk/internal/misc/Unsafe"), accessFlags := 24, slot := 0, constantValue := 0 }, { name := "BIG_ENDIAN", type := .boolean, accessFlags := 26, slot := 1, constantValue := 0 }, { name := "LOG2_ARRAY_BOOLEAN_INDEX_SCALE", type := .int, accessFlags := 25, slot := 2, constantValue := 0 }, { name := "LOG2_ARRAY_BYTE_INDEX_SCALE", type := .int, accessFlags := 25, slot := 3, constantValue := 0 }, { name := "LOG2_ARRAY_CHAR_INDEX_SCALE", type := .int, accessFlags := 25, slot := 4, constantValue := 0 }, { name := "LOG2_ARRAY_SHORT_INDEX_SCALE", type := .int, accessFlags := 25, slot := 5, constantValue := 0 }, { name := "LOG2_ARRAY_INT_INDEX_SCALE", type := .int, accessFlags := 25, slot := 6, constantValue := 0 }, { name := "LOG2_ARRAY_LONG_INDEX_SCALE", type := .int, accessFlags := 25, slot := 7, constantValue := 0 }, { name := "LOG2_ARRAY_FLOAT_INDEX_SCALE", type := .int, accessFlags := 25, slot := 8, constantValue := 0 }, { name := "LOG2_ARRAY_DOUBLE_INDEX_SCALE", type := .int, accessFlags := 25, slot := 9, constantValue := 0 }, { name := "LOG2_BYTE_BIT_SIZE", type := .int, accessFlags := 26, slot := 10, constantValue := 0 }, { name := "T_BOOLEAN", type := .int, accessFlags := 25, slot := 11, constantValue := 0 }, { name := "T_CHAR", type := .int, accessFlags := 25, slot := 12, constantValue := 0 }, { name := "T_FLOAT", type := .int, accessFlags := 25, slot := 13, constantValue := 0 }, { name := "T_DOUBLE", type := .int, accessFlags := 25, slot := 14, constantValue := 0 }, { name := "T_BYTE", type := .int, accessFlags := 25, slot := 15, constantValue := 0 }, { name := "T_SHORT", type := .int, accessFlags := 25, slot := 16, constantValue := 0 }, { name := "T_INT", type := .int, accessFlags := 25, slot := 17, constantValue := 0 }, { name := "T_LONG", type := .int, accessFlags := 25, slot := 18, constantValue := 0 }, { name := "JLA", type := (.object "jdk/internal/access/JavaLangAccess"), accessFlags := 26, slot := 19, constantValue := 0 }, { name := "SOFT_MAX_ARRAY_LENGTH", type := .int, accessFlags := 25, slot := 20, constantValue := 0 }]
  methods := #[k12m0]
  instanceTypes := #[]
  staticTypes := #[(.object "jdk/internal/misc/Unsafe"), .boolean, .int, .int, .int, .int, .int, .int, .int, .int, .int, .int, .int, .int, .int, .int, .int, .int, .int, (.object "jdk/internal/access/JavaLangAccess"), .int]
  resolved := Array.replicate 378 none
  statics := none }

def pool13 : Array CpInfo := pool [(1, u "java/lang/Cloneable"), (0, .class_ 1), (0, u "java/lang/Object"), (0, .class_ 3)] 3

/-- java/lang/Cloneable -/
def k13 : Class := { plain "java/lang/Cloneable" (some 0) with
  accessFlags := 1537
  interfaces := #[]
  cf := some (fileOf pool13 2 #[] #[] 1537 4 #[] #[])
  fields := #[]
  methods := #[]
  instanceTypes := #[]
  staticTypes := #[]
  resolved := Array.replicate 8 none
  statics := none }

/-- the primitive byte -/
def k14 : Class := { plain "byte" none with kind := .primitive 'B', accessFlags := 0x411 }
/-- [B -/
def k15 : Class := { plain "[B" (some 0) with kind := .array 14 .byte, interfaces := #[13, 4], accessFlags := 1041 }

/-- the primitive int -/
def k16 : Class := { plain "int" none with kind := .primitive 'I', accessFlags := 0x411 }
/-- [I -/
def k17 : Class := { plain "[I" (some 0) with kind := .array 16 .int, interfaces := #[13, 4], accessFlags := 1041 }

/-- [Lcom/example/vigilant_grammar/vigilantgrammar/ContentToken$Occurrence; -/
def k18 : Class := { plain "[Lcom/example/vigilant_grammar/vigilantgrammar/ContentToken$Occurrence;" (some 0) with kind := .array 6 (.object "com/example/vigilant_grammar/vigilantgrammar/ContentToken$Occurrence"), interfaces := #[13, 4], accessFlags := 1041 }

def heap : Heap := #[{ cls := 6, slots := #[.null, .ref 4, .ref 5, .ref 6, .ref 3, .null], vm := .statics 6 },
  { cls := 9, slots := #[.long 0, .int 1, .null, .int 0, .null, .int 0, .int 0], vm := .statics 9 },
  { cls := 11, slots := #[.null, .null, .null], vm := .statics 11 },
  { cls := 18, slots := #[.ref 4, .ref 5, .ref 6], vm := .none },
  { cls := 6, slots := #[.null, .int 1, .int 0, .ref 7, .int 63], vm := .none },
  { cls := 6, slots := #[.null, .int 2, .int 0, .ref 8, .int 42], vm := .none },
  { cls := 6, slots := #[.null, .int 3, .int 0, .ref 9, .int 43], vm := .none },
  { cls := 9, slots := #[.ref 10, .int 0, .int 0, .int 0], vm := .none },
  { cls := 9, slots := #[.ref 11, .int 0, .int 0, .int 0], vm := .none },
  { cls := 9, slots := #[.ref 12, .int 0, .int 0, .int 0], vm := .none },
  { cls := 15, slots := #[.int 63], vm := .none },
  { cls := 15, slots := #[.int 42], vm := .none },
  { cls := 15, slots := #[.int 43], vm := .none }]
def classes : Array Class := #[k0, k1, k2, k3, k4, k5, k6, k7, k8, k9, k10, k11, k12, k13, k14, k15, k16, k17, k18]
def interned : List (Array UInt16 × Addr) := []
def slotsUsed : Nat := 49
def theMethod : MethodId := ⟨1, 1⟩
def args0 : Array Value := #[.int 42, .int 3]
def aboutOver (below : List Frame) : State where
  vm := { classes := classes, interned := interned.toArray }
  heap := heap
  slotsUsed := slotsUsed
  threads := #[{ frames := .invoking theMethod args0 :: below }]
def below0 : List Frame := [.native { method := ⟨0, 0⟩, args := #[] }]
def about1 : State := aboutOver below0
def p0 : Program := .bare "" "" ""
def e0 : Env := launch0.env 0 0 0
theorem w_frames : about1.frames = Frame.invoking theMethod args0 :: below0 := rfl
set_option maxRecDepth 65536 in
theorem w_args : argsFit about1.vm theMethod args0 = true := by decide +kernel
set_option maxRecDepth 65536 in
theorem w_heap : heapFits about1 = true := by decide +kernel
set_option maxRecDepth 65536 in
theorem w_runnable : about1.curStatus? = some .runnable := by decide +kernel
set_option maxRecDepth 65536 in
theorem w_alone : about1.alone = true := by decide +kernel
set_option maxRecDepth 65536 in
theorem w_named : about1.methodNamed? x = some theMethod := by decide +kernel
set_option maxRecDepth 65536 in
theorem w_hears : about1.hears theMethod below0 = true := by decide +kernel
set_option maxRecDepth 65536 in
theorem w_ripe : about1.ripe theMethod args0 below0 = true := by decide +kernel
theorem w_running : about1.status = .running := rfl
set_option maxRecDepth 65536 in
theorem w_room : about1.hasRoom e0.platform room_1 = true :=
  launch0.hasRoom_least _ room_1 (by decide +kernel) (by decide +kernel) (by decide +kernel) (by decide +kernel) (by decide +kernel) (by decide +kernel)
theorem allAtoms_all (ts : List Jvm.Cond) (a : Array Jvm.Value) (st : Jvm.State) : (allAtoms ts).before a st = ts.all (fun c => c.before a st) := by
  induction ts with
  | nil => rfl
  | cons c t ih =>
    show (Jvm.Cond.and c (allAtoms t)).before a st = _
    rw [Jvm.Cond.before_and, ih, List.all_cons]
def words1 : List Jvm.Cond := Jvm.Cond.code x code maxLocals ret :: tables_1
/-- a 'code' word, met by the world's own term for the bytes: nothing is compared byte by byte -/
theorem code_word {y : MethodName} {bytes : ByteArray} {mx : Nat} {rt : Option FieldType} {a : Array Value} {s : State} {m : MethodId} {meth : Method} {c : Code} (h1 : s.methodNamed? y = some m) (h2 : s.vm.method? m = some meth) (h3 : meth.code = some c) (h4 : c.code = bytes)
    (h5 : (c.maxLocals == mx && c.exceptionTable.isEmpty && decide (c.maxStack ≤ mostOperands) && decide (meth.sig.returnType = rt) && !meth.locks && decide (parseMethodDescriptor y.desc = some meth.sig)) = true) : (Jvm.Cond.code y bytes mx rt).before a s = true := by
  simp only [Bool.and_eq_true, beq_iff_eq, Bool.not_eq_true', decide_eq_true_eq] at h5
  obtain ⟨⟨⟨⟨⟨g1, g2⟩, g3⟩, g4⟩, g5⟩, g6⟩ := h5
  simp [Cond.before, Cond.holds, Cond.value, h1, h2, h3, h4, g1, g2, g3, g4, g5, g6]
def isCode : Jvm.Cond → Bool
  | .code _ _ _ _ => true
  | _ => false
theorem all_split {L : List Jvm.Cond} {P : Jvm.Cond → Bool} (h1 : L.all (fun c => isCode c || P c) = true) (h2 : ∀ c ∈ L.filter isCode, P c = true) : L.all P = true := by
  refine List.all_eq_true.mpr fun c hc => ?_
  have h := List.all_eq_true.mp h1 c hc
  rcases Bool.eq_false_or_eq_true (isCode c) with hi | hi
  · exact h2 c (List.mem_filter.mpr ⟨hc, hi⟩)
  · simpa [hi] using h
set_option maxRecDepth 65536 in
theorem w_c0 : (Jvm.Cond.code x code maxLocals ret).before args0 about1 = true := code_word (m := ⟨1, 1⟩) (meth := k1m1) (c := k1c1) (by decide +kernel) rfl rfl rfl (by decide +kernel)
set_option maxRecDepth 65536 in
theorem w_c1 : (Jvm.Cond.code ({ cls := "com/example/vigilant_grammar/vigilantgrammar/OccurrenceIndicatedByPinLaw", name := "agrees", desc := "(I)Z" } : Jvm.MethodName) method_4_code (4 : Nat) (Option.some Jvm.ClassFile.FieldType.boolean)).before args0 about1 = true := code_word (m := ⟨1, 3⟩) (meth := k1m3) (c := k1c3) (by decide +kernel) rfl rfl rfl (by decide +kernel)
set_option maxRecDepth 65536 in
theorem w_c2 : (Jvm.Cond.code ({ cls := "com/example/vigilant_grammar/vigilantgrammar/ContentToken$Occurrence", name := "indicatedBy", desc := "(I)Lcom/example/vigilant_grammar/vigilantgrammar/ContentToken$Occurrence;" } : Jvm.MethodName) prog_39_method_4_code (5 : Nat) (Option.some (Jvm.ClassFile.FieldType.object "com/example/vigilant_grammar/vigilantgrammar/ContentToken$Occurrence"))).before args0 about1 = true := code_word (m := ⟨6, 0⟩) (meth := k6m0) (c := k6c0) (by decide +kernel) rfl rfl rfl (by decide +kernel)
set_option maxRecDepth 65536 in
theorem w_c3 : (Jvm.Cond.code ({ cls := "com/example/vigilant_grammar/vigilantgrammar/OccurrenceIndicatedByPinLaw", name := "expected", desc := "(I)Lcom/example/vigilant_grammar/vigilantgrammar/ContentToken$Occurrence;" } : Jvm.MethodName) method_3_code (1 : Nat) (Option.some (Jvm.ClassFile.FieldType.object "com/example/vigilant_grammar/vigilantgrammar/ContentToken$Occurrence"))).before args0 about1 = true := code_word (m := ⟨1, 2⟩) (meth := k1m2) (c := k1c2) (by decide +kernel) rfl rfl rfl (by decide +kernel)
set_option maxRecDepth 65536 in
theorem w_c4 : (Jvm.Cond.code ({ cls := "com/example/vigilant_grammar/vigilantgrammar/ContentToken$Occurrence", name := "symbol", desc := "()Ljava/lang/String;" } : Jvm.MethodName) prog_39_method_5_code (1 : Nat) (Option.some (Jvm.ClassFile.FieldType.object "java/lang/String"))).before args0 about1 = true := code_word (m := ⟨6, 1⟩) (meth := k6m1) (c := k6c1) (by decide +kernel) rfl rfl rfl (by decide +kernel)
set_option maxRecDepth 65536 in
theorem w_c5 : (Jvm.Cond.code ({ cls := "java/lang/String", name := "length", desc := "()I" } : Jvm.MethodName) jdk_42_method_54_code (1 : Nat) (Option.some Jvm.ClassFile.FieldType.int)).before args0 about1 = true := code_word (m := ⟨9, 1⟩) (meth := k9m1) (c := k9c1) (by decide +kernel) rfl rfl rfl (by decide +kernel)
set_option maxRecDepth 65536 in
theorem w_c6 : (Jvm.Cond.code ({ cls := "java/lang/String", name := "coder", desc := "()B" } : Jvm.MethodName) jdk_42_method_152_code (1 : Nat) (Option.some Jvm.ClassFile.FieldType.byte)).before args0 about1 = true := code_word (m := ⟨9, 3⟩) (meth := k9m3) (c := k9c3) (by decide +kernel) rfl rfl rfl (by decide +kernel)
set_option maxRecDepth 65536 in
theorem w_c7 : (Jvm.Cond.code ({ cls := "java/lang/String", name := "charAt", desc := "(I)C" } : Jvm.MethodName) jdk_42_method_56_code (2 : Nat) (Option.some Jvm.ClassFile.FieldType.char)).before args0 about1 = true := code_word (m := ⟨9, 2⟩) (meth := k9m2) (c := k9c2) (by decide +kernel) rfl rfl rfl (by decide +kernel)
set_option maxRecDepth 65536 in
theorem w_c8 : (Jvm.Cond.code ({ cls := "java/lang/String", name := "isLatin1", desc := "()Z" } : Jvm.MethodName) jdk_42_method_154_code (1 : Nat) (Option.some Jvm.ClassFile.FieldType.boolean)).before args0 about1 = true := code_word (m := ⟨9, 4⟩) (meth := k9m4) (c := k9c4) (by decide +kernel) rfl rfl rfl (by decide +kernel)
set_option maxRecDepth 65536 in
theorem w_c9 : (Jvm.Cond.code ({ cls := "java/lang/StringLatin1", name := "charAt", desc := "([BI)C" } : Jvm.MethodName) jdk_43_method_2_code (2 : Nat) (Option.some Jvm.ClassFile.FieldType.char)).before args0 about1 = true := code_word (m := ⟨10, 1⟩) (meth := k10m1) (c := k10c1) (by decide +kernel) rfl rfl rfl (by decide +kernel)
set_option maxRecDepth 65536 in
theorem w_c10 : (Jvm.Cond.code ({ cls := "java/lang/String", name := "checkIndex", desc := "(II)V" } : Jvm.MethodName) jdk_42_method_155_code (2 : Nat) (Option.none : Option Jvm.ClassFile.FieldType)).before args0 about1 = true := code_word (m := ⟨9, 5⟩) (meth := k9m5) (c := k9c5) (by decide +kernel) rfl rfl rfl (by decide +kernel)
set_option maxRecDepth 65536 in
theorem w_c11 : (Jvm.Cond.code ({ cls := "jdk/internal/util/Preconditions", name := "checkIndex", desc := "(IILjava/util/function/BiFunction;)I" } : Jvm.MethodName) jdk_41_method_11_code (3 : Nat) (Option.some Jvm.ClassFile.FieldType.int)).before args0 about1 = true := code_word (m := ⟨11, 1⟩) (meth := k11m1) (c := k11c1) (by decide +kernel) rfl rfl rfl (by decide +kernel)
def codes1 : List Jvm.Cond := [Jvm.Cond.code x code maxLocals ret, Jvm.Cond.code ({ cls := "com/example/vigilant_grammar/vigilantgrammar/OccurrenceIndicatedByPinLaw", name := "agrees", desc := "(I)Z" } : Jvm.MethodName) method_4_code (4 : Nat) (Option.some Jvm.ClassFile.FieldType.boolean), Jvm.Cond.code ({ cls := "com/example/vigilant_grammar/vigilantgrammar/ContentToken$Occurrence", name := "indicatedBy", desc := "(I)Lcom/example/vigilant_grammar/vigilantgrammar/ContentToken$Occurrence;" } : Jvm.MethodName) prog_39_method_4_code (5 : Nat) (Option.some (Jvm.ClassFile.FieldType.object "com/example/vigilant_grammar/vigilantgrammar/ContentToken$Occurrence")), Jvm.Cond.code ({ cls := "com/example/vigilant_grammar/vigilantgrammar/OccurrenceIndicatedByPinLaw", name := "expected", desc := "(I)Lcom/example/vigilant_grammar/vigilantgrammar/ContentToken$Occurrence;" } : Jvm.MethodName) method_3_code (1 : Nat) (Option.some (Jvm.ClassFile.FieldType.object "com/example/vigilant_grammar/vigilantgrammar/ContentToken$Occurrence")), Jvm.Cond.code ({ cls := "com/example/vigilant_grammar/vigilantgrammar/ContentToken$Occurrence", name := "symbol", desc := "()Ljava/lang/String;" } : Jvm.MethodName) prog_39_method_5_code (1 : Nat) (Option.some (Jvm.ClassFile.FieldType.object "java/lang/String")), Jvm.Cond.code ({ cls := "java/lang/String", name := "length", desc := "()I" } : Jvm.MethodName) jdk_42_method_54_code (1 : Nat) (Option.some Jvm.ClassFile.FieldType.int), Jvm.Cond.code ({ cls := "java/lang/String", name := "coder", desc := "()B" } : Jvm.MethodName) jdk_42_method_152_code (1 : Nat) (Option.some Jvm.ClassFile.FieldType.byte), Jvm.Cond.code ({ cls := "java/lang/String", name := "charAt", desc := "(I)C" } : Jvm.MethodName) jdk_42_method_56_code (2 : Nat) (Option.some Jvm.ClassFile.FieldType.char), Jvm.Cond.code ({ cls := "java/lang/String", name := "isLatin1", desc := "()Z" } : Jvm.MethodName) jdk_42_method_154_code (1 : Nat) (Option.some Jvm.ClassFile.FieldType.boolean), Jvm.Cond.code ({ cls := "java/lang/StringLatin1", name := "charAt", desc := "([BI)C" } : Jvm.MethodName) jdk_43_method_2_code (2 : Nat) (Option.some Jvm.ClassFile.FieldType.char), Jvm.Cond.code ({ cls := "java/lang/String", name := "checkIndex", desc := "(II)V" } : Jvm.MethodName) jdk_42_method_155_code (2 : Nat) (Option.none : Option Jvm.ClassFile.FieldType), Jvm.Cond.code ({ cls := "jdk/internal/util/Preconditions", name := "checkIndex", desc := "(IILjava/util/function/BiFunction;)I" } : Jvm.MethodName) jdk_41_method_11_code (3 : Nat) (Option.some Jvm.ClassFile.FieldType.int)]
set_option maxRecDepth 65536 in
theorem codes_eq : words1.filter isCode = codes1 := rfl
theorem w_codes : ∀ c ∈ words1.filter isCode, c.before args0 about1 = true := by
  rw [codes_eq]
  intro c hc
  simp only [codes1, List.mem_cons, List.not_mem_nil, or_false] at hc
  rcases hc with rfl | rfl | rfl | rfl | rfl | rfl | rfl | rfl | rfl | rfl | rfl | rfl
  · exact w_c0
  · exact w_c1
  · exact w_c2
  · exact w_c3
  · exact w_c4
  · exact w_c5
  · exact w_c6
  · exact w_c7
  · exact w_c8
  · exact w_c9
  · exact w_c10
  · exact w_c11
set_option maxRecDepth 65536 in
theorem w_t1 : (words1.take 24).all (fun c => isCode c || c.before args0 about1) = true := by decide +kernel
set_option maxRecDepth 65536 in
theorem w_t2 : ((words1.drop 24).take 24).all (fun c => isCode c || c.before args0 about1) = true := by decide +kernel
set_option maxRecDepth 65536 in
theorem w_t3 : ((words1.drop 24).drop 24).all (fun c => isCode c || c.before args0 about1) = true := by decide +kernel
theorem w_tables : (allAtoms (Jvm.Cond.code x code maxLocals ret :: tables_1)).before args0 about1 = true := by
  rw [allAtoms_all]
  show words1.all (fun c => c.before args0 about1) = true
  refine all_split ?_ w_codes
  rw [← List.take_append_drop 24 words1, List.all_append, w_t1, ← List.take_append_drop 24 (words1.drop 24), List.all_append, w_t2, w_t3]
  rfl
set_option maxRecDepth 65536 in
theorem w_rest : rest_1_c.before args0 about1 = true := by decide +kernel
set_option maxRecDepth 65536 in
theorem w_case : (Jvm.Cond.and given_1 narrow_1).before args0 about1 = true := by decide +kernel
theorem w_applies : (headSpec (Jvm.Cond.code x code maxLocals ret :: tables_1) room_1).applies x e0.platform about1 = true :=
  (Spec.applies_iff w_frames).mpr ⟨w_running, w_runnable, w_alone, w_named, w_hears, w_ripe, w_room, w_tables⟩
theorem atStart : AtStart classFile x code maxLocals ret World_1 tables_1 room_1 Calls_1 rest_1 Pre_1 launch0 p0 e0 about1 theMethod args0 below0 :=
  ⟨lists_1, trivial, launch0.admits_env _ _ _, launch0.least_env, fairChoices_fair.cas, fairChoices_fair.clock, w_frames, w_args, w_heap, w_applies, trivial, w_rest, w_case⟩
end start1
theorem witness_1 : WitnessClaimed_1 := ⟨start1.p0, start1.e0, start1.about1, start1.theMethod, start1.args0, start1.below0, start1.atStart⟩
end Jvm.Pilot.@@N@@
