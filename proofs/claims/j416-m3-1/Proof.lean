import JvmDerived
import JvmDerived.Pilot.@@N@@Statement
import JvmDerived.Pilot.@@N@@Code
set_option linter.unusedVariables false
set_option linter.unusedSimpArgs false
namespace Jvm.RoadKit
open Sem ClassFile Op Lib Jvm.Stand Jvm.Free Jvm.LawKit
section New
variable {p : Program} {l : Launch} {e : Env} {R : Room} {s : State} {m : MethodId} {args : Array Value} {below : List Frame} {meth : Method} {c : Code} {T : State} {locs : List Loc} {cells slots : Nat}
theorem retI (X : Stand p l e R s m args below meth c T locs cells slots) (hx : p.tables.exec = Jvm.exec) {pc : Nat} {Ls : Array Slot} {z : Int32} {rest : List Value} (hret : meth.sig.returnType = some .int) (hd : decode c.code pc = .ok (.ireturn, 1)) {fs : List Frame}
    (hl : ∀ (f : JFrame) (acts : List Action), f.method = m → f.locked = none → f.entered = [] → (doReturn e (T.setTop f) acts (some (.int z))).1 = T.setFrames fs) : Steps p.tables e below (T.setTop (mkF m pc Ls (.int z :: rest))) (T.setFrames fs) := by
  have hm' : T.vm.method? m = some meth := X.method'
  have hn : narrow .int (.int z) = .int z := rfl
  show Steps p.tables e below (T.setTop { method := m, pc := pc, locals := Ls, stack := _ :: rest, locked := none }) _
  jvm_step X.here [X.here.top, hx, hd, hm', hret, hn]
  first | (intro acts; rw [hl _ acts rfl rfl rfl]) | rw [hl _ _ rfl rfl rfl]
  exact Steps.refl _
end New
end Jvm.RoadKit
namespace Jvm.Pilot.@@N@@
open Jvm Jvm.ClassFile Sem Op Lib Jvm.Free Jvm.Stand Jvm.LawKit Jvm.RoadKit Bundle Jvm.Pilot.@@N@@.Jvm.D
abbrev OwnG (tb : Tables) (e : Env) (below : List Frame) (R : State → Outcome → Prop) (cur : State) : Prop := ∃ s₂ o, Steps tb e below cur s₂ ∧ R s₂ o
theorem own_go {tb : Tables} {e : Env} {below : List Frame} {R : State → Outcome → Prop} {cur nxt : State} (h : ∀ t, Steps tb e below nxt t → Steps tb e below cur t) (k : OwnG tb e below R nxt) : OwnG tb e below R cur := by
  obtain ⟨s₂, o, h1, h2⟩ := k
  exact ⟨s₂, o, h _ h1, h2⟩
theorem own_pick {α : Type} (c : Prop) (a b : α) : ∃ z : α, (c → z = a) ∧ (¬ c → z = b) := by
  by_cases h : c
  · exact ⟨a, fun _ => rfl, fun q => absurd h q⟩
  · exact ⟨b, fun q => absurd q h, fun _ => rfl⟩
theorem own_ne_or {a d x n : Nat} (h : x = d ∨ n ≤ x) (h1 : a ≠ d) (h2 : a < n) : a ≠ x := by
  rcases h with h | h <;> omega
theorem own_ge_or {d x n k : Nat} (h : x = d ∨ n ≤ x) (h1 : k ≤ d) (h2 : k ≤ n) : k ≤ x := by
  rcases h with h | h <;> omega
theorem own_in_or {d x n k : Nat} {ws : List Nat} (h : x = d ∨ n ≤ x) (h1 : d ∈ ws) (h2 : k ≤ n) : x ∈ ws ∨ k ≤ x := by
  rcases h with rfl | h
  · exact Or.inl h1
  · exact Or.inr (Nat.le_trans h2 h)
theorem own_iw_or {d x n k : Nat} {ws : List Nat} (h : x = d ∨ n ≤ x) (h1 : d ∈ ws ∨ k ≤ d) (h2 : k ≤ n) : x ∈ ws ∨ k ≤ x := by
  rcases h with rfl | h
  · exact h1
  · exact Or.inr (Nat.le_trans h2 h)
section OwnStat
variable {args : Array Value} {s : State} {t u w : Term} {a b : Addr} {cl : Cell} {ty : FieldType}
theorem own_eqI {v : Int32} (h : (Cond.eq t (.int v)).value args s none s [] = some true) : t.eval args s none [] s = some (.int v) := by
  cases hx : t.eval args s none [] s with
  | none => simp [Cond.value, Term.eval, hx] at h
  | some y => cases y <;> simp [Cond.value, Term.eval, hx] at h; rw [h]
theorem own_eqJ {v : Int64} (h : (Cond.eq t (.long v)).value args s none s [] = some true) : t.eval args s none [] s = some (.long v) := by
  cases hx : t.eval args s none [] s with
  | none => simp [Cond.value, Term.eval, hx] at h
  | some y => cases y <;> simp [Cond.value, Term.eval, hx] at h; rw [h]
theorem own_eqR (h : (Cond.eq t u).value args s none s [] = some true) (hu : u.eval args s none [] s = some (.ref b)) : t.eval args s none [] s = some (.ref b) := by
  cases hx : t.eval args s none [] s with
  | none => simp [Cond.value, hu, hx] at h
  | some y => cases y <;> simp [Cond.value, hu, hx] at h; rw [h]
theorem own_neI {i v : Int32} (h : (Cond.not (.eq t (.int v))).value args s none s [] = some true) (ev : t.eval args s none [] s = some (.int i)) : i ≠ v := by
  intro e
  subst e
  simp [Cond.value, ev, Term.eval] at h
theorem own_len {n : Int32} (ev : t.eval args s none [] s = some (.ref a)) (A : Arr s s.heap a cl ty) (h : (Cond.eq (.length t) (.int n)).value args s none s [] = some true) : cl.slots.size < 2 ^ 31 ∧ cl.slots.size.toInt32 = n := by
  have e := own_eqI h
  have hA : s.arrayAt? a = some cl := A.fin (Vm.Alike.refl _)
  by_cases q : cl.slots.size < 2 ^ 31
  · rw [len_f ev hA q] at e
    exact ⟨q, by cases e; rfl⟩
  · simp [Term.eval, ev, hA, q] at e
theorem own_elem {j : Int32} {v : Value} (hj : ¬ j < 0) (ev : t.eval args s none [] s = some (.ref a)) (A : Arr s s.heap a cl ty) (h : (Term.elem t (.int j)).eval args s none [] s = some v) : cl.slots[j.toNatClampNeg]? = some v := by
  rw [elem_f (a := .int j) ev rfl (A.fin (Vm.Alike.refl _)) hj] at h; exact h
theorem own_fld {C n d : String} {v : Value} (ev : t.eval args s none [] s = some (.ref a)) (h : (Term.field t C n d).eval args s none [] s = some v) : Fld s s.heap a C n d v :=
  Fld.start (by rw [← fld_at ev]; exact h)
end OwnStat

def own_spc (x : Int32) : Int32 := if x = 32 then 1 else if x = 9 then 1 else if x = 10 then 1 else if x = 13 then 1 else 0
def own_ref (x : Int32) : Int32 := if x = 32 then 1 else if x < 9 then 0 else if 13 < x then 0 else if x = 11 then 0 else if x = 12 then 0 else 1
theorem own_same (x : Int32) : own_spc x = own_ref x := by
  unfold own_spc own_ref
  have h : ∀ y : Int32, (x = y) = (x.toInt = y.toInt) := fun y => propext Int32.toInt_inj.symm
  have g : ∀ y z : Int32, (y < z) = (y.toInt < z.toInt) := fun y z => propext Int32.lt_iff_toInt_lt
  simp only [h, g, Int32.reduceToInt]
  generalize x.toInt = i
  by_cases h1 : i = 32
  · simp [h1]
  by_cases h2 : i = 9
  · simp [h2]
  by_cases h3 : i = 10
  · simp [h3]
  by_cases h4 : i = 13
  · simp [h4]
  by_cases h5 : i < 9
  · simp [h1, h2, h3, h4, h5]
  by_cases h6 : 13 < i
  · simp [h1, h2, h3, h4, h5, h6]
  by_cases h7 : i = 11
  · simp [h7]
  by_cases h8 : i = 12
  · simp [h8]
  omega
theorem own_idx (k : Int32) : ¬ (k &&& 3) < 0 ∧ (k &&& 3) < 4 := by
  have h := c_mask k 3 2 (by decide) rfl
  rw [Int32.lt_iff_toInt_lt, Int32.lt_iff_toInt_lt, h]
  have : (0 : Int32).toInt = 0 := rfl
  have : (4 : Int32).toInt = 4 := rfl
  omega
theorem own_pickc (k : Int32) : ∃ ch : Int32, ([(.int (32 : Int32)), (.int (9 : Int32)), (.int (10 : Int32)), (.int (13 : Int32))] : List Value).getD (k &&& 3).toNatClampNeg (.int (0 : Int32)) = .int ch ∧ own_spc ch = 1 := by
  have h := c_mask k 3 2 (by decide) rfl
  have e : (k &&& 3).toNatClampNeg < 4 := by simp only [Int32.toNatClampNeg, h]; omega
  generalize (k &&& 3).toNatClampNeg = i at e
  match i, e with
  | 0, _ => exact ⟨32, rfl, rfl⟩
  | 1, _ => exact ⟨9, rfl, rfl⟩
  | 2, _ => exact ⟨10, rfl, rfl⟩
  | 3, _ => exact ⟨13, rfl, rfl⟩
theorem own_ef0 (m : MethodId) (p1 : Int32) : entryFrame m #[(.int p1)] 1 = mkF m 0 #[.val (.int p1)] [] := by first | (simp [entryFrame, mkF, argsToLocals, Value.category]; done) | rfl
theorem own_pn1 : plainName "com/example/vigilant_grammar/vigilantgrammar/DtdInput" = true := by first | (simp [plainName, overriddenIn]; done) | decide +kernel
theorem own_d2 : decode prog_59_method_24_code 0 = .ok (.iload_n 0, 1) := by decide +kernel
theorem own_d3 : decode prog_59_method_24_code 1 = .ok (.bipush 32, 2) := by decide +kernel
theorem own_d4 : decode prog_59_method_24_code 3 = .ok (.if_icmp .eq 21, 3) := by decide +kernel
theorem own_d5 : decode prog_59_method_24_code 24 = .ok (.iconst 1, 1) := by decide +kernel
theorem own_d6 : decode prog_59_method_24_code 25 = .ok (.goto 4, 3) := by decide +kernel
theorem own_d7 : decode prog_59_method_24_code 29 = .ok (.ireturn, 1) := by decide +kernel
theorem own_d8 : decode prog_59_method_24_code 6 = .ok (.iload_n 0, 1) := by decide +kernel
theorem own_d9 : decode prog_59_method_24_code 7 = .ok (.bipush 9, 2) := by decide +kernel
theorem own_d10 : decode prog_59_method_24_code 9 = .ok (.if_icmp .eq 15, 3) := by decide +kernel
theorem own_d11 : decode prog_59_method_24_code 12 = .ok (.iload_n 0, 1) := by decide +kernel
theorem own_d12 : decode prog_59_method_24_code 13 = .ok (.bipush 10, 2) := by decide +kernel
theorem own_d13 : decode prog_59_method_24_code 15 = .ok (.if_icmp .eq 9, 3) := by decide +kernel
theorem own_d14 : decode prog_59_method_24_code 18 = .ok (.iload_n 0, 1) := by decide +kernel
theorem own_d15 : decode prog_59_method_24_code 19 = .ok (.bipush 13, 2) := by decide +kernel
theorem own_d16 : decode prog_59_method_24_code 21 = .ok (.if_icmp .ne 7, 3) := by decide +kernel
theorem own_d17 : decode prog_59_method_24_code 28 = .ok (.iconst 0, 1) := by decide +kernel
def Q_own_isSpace (Z : State) (p1 : Int32) (h0 : Heap) (n0 : Nat) (v : Option Value) (h : Heap) (L : List Loc) : Prop := v = some (.int (own_spc p1)) ∧ Fr n0 L ∧ h = h0
set_option maxRecDepth 65536 in
set_option maxHeartbeats 40000000 in
theorem own_isSpace (l : Launch) (Z : State) (a0 : Array Value) (hw : ∀ d ∈ tables_1, d.before a0 Z = true) (ws : List Jvm.Cond) (p1 : Int32) (h0 : Heap) (n0 : Nat) (Z0 : n0 ≤ h0.size) :
    MetFree l (⟨"com/example/vigilant_grammar/vigilantgrammar/DtdInput", "isSpace", "(I)Z"⟩ : MethodName) (head1 (Jvm.Cond.code (⟨"com/example/vigilant_grammar/vigilantgrammar/DtdInput", "isSpace", "(I)Z"⟩ : MethodName) prog_59_method_24_code 1 (some .boolean) :: ws) ({ frames := 0, cells := 0, slots := 0, locals := 0 } : Room)) (fun a U => a = #[(.int p1)] ∧ Z.Warmed39 U.vm ∧ U.heap = h0) (fun _ _ _ _ _ => True) (fun _ U o U' => ∃ v L, o = .returned v ∧ Q_own_isSpace Z p1 h0 n0 v U'.heap L ∧ FrameEnd U o U' L ({ frames := 0, cells := 0, slots := 0, locals := 0 } : Room).cells ({ frames := 0, cells := 0, slots := 0, locals := 0 } : Room).slots) := by
  refine MetFree.of_bodySF (plainFor_of_name own_pn1) hisR ?_
  intro p e s m args below meth c s₁ Bd hml0 hP hK
  obtain ⟨rfl, hZ, hh⟩ := hP
  have hx := Bd.exec
  have hby := Bd.bytes
  have hml : c.maxLocals = 1 := hml0
  have hown : s.vm.findClass "com/example/vigilant_grammar/vigilantgrammar/DtdInput" = some m.cls := findClass_of_methodNamed Bd.named
  have hnm := (name_of_methodNamed Bd.named Bd.method).1
  have X0 : Stand p l e ({ frames := 0, cells := 0, slots := 0, locals := 0 } : Room) s m #[(.int p1)] below meth c s₁ [] 0 0 := Stand.of_body Bd
  have e0 : s₁.heap = h0 := by rw [← hh, Bd.state]; rfl
  have N0 := Fr.nil n0
  have K0 := Keep.refl h0 []
  refine own_go (fun t k => castTop (own_ef0 m p1) k) ?_
  show OwnG p.tables e below _ (s₁.setTop (mkF m 0 #[.val (.int p1)] []))
  refine own_go (fun t k => XS.iloadN X0.here hx rfl (hb hby own_d2) rfl  k) ?_
  show OwnG p.tables e below _ (s₁.setTop (mkF m 1 #[.val (.int p1)] [(.int p1)]))
  refine own_go (fun t k => XS.bipush X0.here hx rfl (hb hby own_d3) k) ?_
  show OwnG p.tables e below _ (s₁.setTop (mkF m 3 #[.val (.int p1)] [(.int (32 : Int32)), (.int p1)]))
  by_cases hc1 : p1 = (32 : Int32)
  · refine own_go (fun t k => XS.icmpYes X0.here hx rfl (pc0 := 3) (pc' := 24) rfl (hb hby own_d4) rfl (teq hc1).1 (by decide) (by decide) k) ?_
    show OwnG p.tables e below _ (s₁.setTop (mkF m 24 #[.val (.int p1)] []))
    refine own_go (fun t k => XS.iconst X0.here hx rfl (hb hby own_d5) k) ?_
    show OwnG p.tables e below _ (s₁.setTop (mkF m 25 #[.val (.int p1)] [(.int (1 : Int32))]))
    refine own_go (fun t k => XS.goto X0.here hx rfl (pc0 := 25) (pc' := 29) rfl (hb hby own_d6) (by decide) (by decide) k) ?_
    show OwnG p.tables e below _ (s₁.setTop (mkF m 29 #[.val (.int p1)] [(.int (1 : Int32))]))
    obtain ⟨fs, hr, hrun, hended, hW, hsame⟩ := X0.leave (v := some (.int (1 : Int32))) (fun h => by rw [Bd.returns] at h; cases h)
    refine ⟨_, _, retN X0 hx (t := .boolean) Bd.returns (by simp) (hb hby own_d7) hr, hrun, hended, _, _, rfl, ?_, ⟨_, rfl⟩, hW, hsame.mono (by decide) (by decide)⟩
    show Q_own_isSpace Z p1 h0 n0 _ s₁.heap _
    rw [e0]
    exact ⟨by simp [own_spc, hc1], N0, rfl⟩
  · refine own_go (fun t k => XS.icmpNo X0.here hx rfl (hb hby own_d4) rfl (feq hc1).1 k) ?_
    show OwnG p.tables e below _ (s₁.setTop (mkF m 6 #[.val (.int p1)] []))
    refine own_go (fun t k => XS.iloadN X0.here hx rfl (hb hby own_d8) rfl  k) ?_
    show OwnG p.tables e below _ (s₁.setTop (mkF m 7 #[.val (.int p1)] [(.int p1)]))
    refine own_go (fun t k => XS.bipush X0.here hx rfl (hb hby own_d9) k) ?_
    show OwnG p.tables e below _ (s₁.setTop (mkF m 9 #[.val (.int p1)] [(.int (9 : Int32)), (.int p1)]))
    by_cases hc2 : p1 = (9 : Int32)
    · refine own_go (fun t k => XS.icmpYes X0.here hx rfl (pc0 := 9) (pc' := 24) rfl (hb hby own_d10) rfl (teq hc2).1 (by decide) (by decide) k) ?_
      show OwnG p.tables e below _ (s₁.setTop (mkF m 24 #[.val (.int p1)] []))
      refine own_go (fun t k => XS.iconst X0.here hx rfl (hb hby own_d5) k) ?_
      show OwnG p.tables e below _ (s₁.setTop (mkF m 25 #[.val (.int p1)] [(.int (1 : Int32))]))
      refine own_go (fun t k => XS.goto X0.here hx rfl (pc0 := 25) (pc' := 29) rfl (hb hby own_d6) (by decide) (by decide) k) ?_
      show OwnG p.tables e below _ (s₁.setTop (mkF m 29 #[.val (.int p1)] [(.int (1 : Int32))]))
      obtain ⟨fs, hr, hrun, hended, hW, hsame⟩ := X0.leave (v := some (.int (1 : Int32))) (fun h => by rw [Bd.returns] at h; cases h)
      refine ⟨_, _, retN X0 hx (t := .boolean) Bd.returns (by simp) (hb hby own_d7) hr, hrun, hended, _, _, rfl, ?_, ⟨_, rfl⟩, hW, hsame.mono (by decide) (by decide)⟩
      show Q_own_isSpace Z p1 h0 n0 _ s₁.heap _
      rw [e0]
      exact ⟨by simp [own_spc, hc1, hc2], N0, rfl⟩
    · refine own_go (fun t k => XS.icmpNo X0.here hx rfl (hb hby own_d10) rfl (feq hc2).1 k) ?_
      show OwnG p.tables e below _ (s₁.setTop (mkF m 12 #[.val (.int p1)] []))
      refine own_go (fun t k => XS.iloadN X0.here hx rfl (hb hby own_d11) rfl  k) ?_
      show OwnG p.tables e below _ (s₁.setTop (mkF m 13 #[.val (.int p1)] [(.int p1)]))
      refine own_go (fun t k => XS.bipush X0.here hx rfl (hb hby own_d12) k) ?_
      show OwnG p.tables e below _ (s₁.setTop (mkF m 15 #[.val (.int p1)] [(.int (10 : Int32)), (.int p1)]))
      by_cases hc3 : p1 = (10 : Int32)
      · refine own_go (fun t k => XS.icmpYes X0.here hx rfl (pc0 := 15) (pc' := 24) rfl (hb hby own_d13) rfl (teq hc3).1 (by decide) (by decide) k) ?_
        show OwnG p.tables e below _ (s₁.setTop (mkF m 24 #[.val (.int p1)] []))
        refine own_go (fun t k => XS.iconst X0.here hx rfl (hb hby own_d5) k) ?_
        show OwnG p.tables e below _ (s₁.setTop (mkF m 25 #[.val (.int p1)] [(.int (1 : Int32))]))
        refine own_go (fun t k => XS.goto X0.here hx rfl (pc0 := 25) (pc' := 29) rfl (hb hby own_d6) (by decide) (by decide) k) ?_
        show OwnG p.tables e below _ (s₁.setTop (mkF m 29 #[.val (.int p1)] [(.int (1 : Int32))]))
        obtain ⟨fs, hr, hrun, hended, hW, hsame⟩ := X0.leave (v := some (.int (1 : Int32))) (fun h => by rw [Bd.returns] at h; cases h)
        refine ⟨_, _, retN X0 hx (t := .boolean) Bd.returns (by simp) (hb hby own_d7) hr, hrun, hended, _, _, rfl, ?_, ⟨_, rfl⟩, hW, hsame.mono (by decide) (by decide)⟩
        show Q_own_isSpace Z p1 h0 n0 _ s₁.heap _
        rw [e0]
        exact ⟨by simp [own_spc, hc1, hc2, hc3], N0, rfl⟩
      · refine own_go (fun t k => XS.icmpNo X0.here hx rfl (hb hby own_d13) rfl (feq hc3).1 k) ?_
        show OwnG p.tables e below _ (s₁.setTop (mkF m 18 #[.val (.int p1)] []))
        refine own_go (fun t k => XS.iloadN X0.here hx rfl (hb hby own_d14) rfl  k) ?_
        show OwnG p.tables e below _ (s₁.setTop (mkF m 19 #[.val (.int p1)] [(.int p1)]))
        refine own_go (fun t k => XS.bipush X0.here hx rfl (hb hby own_d15) k) ?_
        show OwnG p.tables e below _ (s₁.setTop (mkF m 21 #[.val (.int p1)] [(.int (13 : Int32)), (.int p1)]))
        by_cases hc4 : p1 = (13 : Int32)
        · refine own_go (fun t k => XS.icmpNo X0.here hx rfl (hb hby own_d16) rfl (teq hc4).2 k) ?_
          show OwnG p.tables e below _ (s₁.setTop (mkF m 24 #[.val (.int p1)] []))
          refine own_go (fun t k => XS.iconst X0.here hx rfl (hb hby own_d5) k) ?_
          show OwnG p.tables e below _ (s₁.setTop (mkF m 25 #[.val (.int p1)] [(.int (1 : Int32))]))
          refine own_go (fun t k => XS.goto X0.here hx rfl (pc0 := 25) (pc' := 29) rfl (hb hby own_d6) (by decide) (by decide) k) ?_
          show OwnG p.tables e below _ (s₁.setTop (mkF m 29 #[.val (.int p1)] [(.int (1 : Int32))]))
          obtain ⟨fs, hr, hrun, hended, hW, hsame⟩ := X0.leave (v := some (.int (1 : Int32))) (fun h => by rw [Bd.returns] at h; cases h)
          refine ⟨_, _, retN X0 hx (t := .boolean) Bd.returns (by simp) (hb hby own_d7) hr, hrun, hended, _, _, rfl, ?_, ⟨_, rfl⟩, hW, hsame.mono (by decide) (by decide)⟩
          show Q_own_isSpace Z p1 h0 n0 _ s₁.heap _
          rw [e0]
          exact ⟨by simp [own_spc, hc1, hc2, hc3, hc4], N0, rfl⟩
        · refine own_go (fun t k => XS.icmpYes X0.here hx rfl (pc0 := 21) (pc' := 28) rfl (hb hby own_d16) rfl (feq hc4).2 (by decide) (by decide) k) ?_
          show OwnG p.tables e below _ (s₁.setTop (mkF m 28 #[.val (.int p1)] []))
          refine own_go (fun t k => XS.iconst X0.here hx rfl (hb hby own_d17) k) ?_
          show OwnG p.tables e below _ (s₁.setTop (mkF m 29 #[.val (.int p1)] [(.int (0 : Int32))]))
          obtain ⟨fs, hr, hrun, hended, hW, hsame⟩ := X0.leave (v := some (.int (0 : Int32))) (fun h => by rw [Bd.returns] at h; cases h)
          refine ⟨_, _, retN X0 hx (t := .boolean) Bd.returns (by simp) (hb hby own_d7) hr, hrun, hended, _, _, rfl, ?_, ⟨_, rfl⟩, hW, hsame.mono (by decide) (by decide)⟩
          show Q_own_isSpace Z p1 h0 n0 _ s₁.heap _
          rw [e0]
          exact ⟨by simp [own_spc, hc1, hc2, hc3, hc4], N0, rfl⟩
theorem own_ef18 (m : MethodId) (p1 : Int32) : entryFrame m #[(.int p1)] 1 = mkF m 0 #[.val (.int p1)] [] := by first | (simp [entryFrame, mkF, argsToLocals, Value.category]; done) | rfl
theorem own_pn19 : plainName "com/example/vigilant_grammar/vigilantgrammar/DtdInputIsSpacePinLaw" = true := by first | (simp [plainName, overriddenIn]; done) | decide +kernel
theorem own_d20 : decode method_2_code 0 = .ok (.iload_n 0, 1) := by decide +kernel
theorem own_d21 : decode method_2_code 1 = .ok (.bipush 32, 2) := by decide +kernel
theorem own_d22 : decode method_2_code 3 = .ok (.if_icmp .ne 5, 3) := by decide +kernel
theorem own_d23 : decode method_2_code 6 = .ok (.iconst 1, 1) := by decide +kernel
theorem own_d24 : decode method_2_code 7 = .ok (.ireturn, 1) := by decide +kernel
theorem own_d25 : decode method_2_code 8 = .ok (.iload_n 0, 1) := by decide +kernel
theorem own_d26 : decode method_2_code 9 = .ok (.bipush 9, 2) := by decide +kernel
theorem own_d27 : decode method_2_code 11 = .ok (.if_icmp .lt 9, 3) := by decide +kernel
theorem own_d28 : decode method_2_code 20 = .ok (.iconst 0, 1) := by decide +kernel
theorem own_d29 : decode method_2_code 21 = .ok (.ireturn, 1) := by decide +kernel
theorem own_d30 : decode method_2_code 14 = .ok (.iload_n 0, 1) := by decide +kernel
theorem own_d31 : decode method_2_code 15 = .ok (.bipush 13, 2) := by decide +kernel
theorem own_d32 : decode method_2_code 17 = .ok (.if_icmp .le 5, 3) := by decide +kernel
theorem own_d33 : decode method_2_code 22 = .ok (.iload_n 0, 1) := by decide +kernel
theorem own_d34 : decode method_2_code 23 = .ok (.bipush 11, 2) := by decide +kernel
theorem own_d35 : decode method_2_code 25 = .ok (.if_icmp .eq 13, 3) := by decide +kernel
theorem own_d36 : decode method_2_code 38 = .ok (.iconst 0, 1) := by decide +kernel
theorem own_d37 : decode method_2_code 39 = .ok (.ireturn, 1) := by decide +kernel
theorem own_d38 : decode method_2_code 28 = .ok (.iload_n 0, 1) := by decide +kernel
theorem own_d39 : decode method_2_code 29 = .ok (.bipush 12, 2) := by decide +kernel
theorem own_d40 : decode method_2_code 31 = .ok (.if_icmp .eq 7, 3) := by decide +kernel
theorem own_d41 : decode method_2_code 34 = .ok (.iconst 1, 1) := by decide +kernel
theorem own_d42 : decode method_2_code 35 = .ok (.goto 4, 3) := by decide +kernel
def Q_own_reference (Z : State) (p1 : Int32) (h0 : Heap) (n0 : Nat) (v : Option Value) (h : Heap) (L : List Loc) : Prop := v = some (.int (own_ref p1)) ∧ Fr n0 L ∧ h = h0
set_option maxRecDepth 65536 in
set_option maxHeartbeats 40000000 in
theorem own_reference (l : Launch) (Z : State) (a0 : Array Value) (hw : ∀ d ∈ tables_1, d.before a0 Z = true) (ws : List Jvm.Cond) (p1 : Int32) (h0 : Heap) (n0 : Nat) (Z0 : n0 ≤ h0.size) :
    MetFree l (⟨"com/example/vigilant_grammar/vigilantgrammar/DtdInputIsSpacePinLaw", "reference", "(I)Z"⟩ : MethodName) (head1 (Jvm.Cond.code (⟨"com/example/vigilant_grammar/vigilantgrammar/DtdInputIsSpacePinLaw", "reference", "(I)Z"⟩ : MethodName) method_2_code 1 (some .boolean) :: ws) ({ frames := 0, cells := 0, slots := 0, locals := 0 } : Room)) (fun a U => a = #[(.int p1)] ∧ Z.Warmed39 U.vm ∧ U.heap = h0) (fun _ _ _ _ _ => True) (fun _ U o U' => ∃ v L, o = .returned v ∧ Q_own_reference Z p1 h0 n0 v U'.heap L ∧ FrameEnd U o U' L ({ frames := 0, cells := 0, slots := 0, locals := 0 } : Room).cells ({ frames := 0, cells := 0, slots := 0, locals := 0 } : Room).slots) := by
  refine MetFree.of_bodySF (plainFor_of_name own_pn19) hisR ?_
  intro p e s m args below meth c s₁ Bd hml0 hP hK
  obtain ⟨rfl, hZ, hh⟩ := hP
  have hx := Bd.exec
  have hby := Bd.bytes
  have hml : c.maxLocals = 1 := hml0
  have hown : s.vm.findClass "com/example/vigilant_grammar/vigilantgrammar/DtdInputIsSpacePinLaw" = some m.cls := findClass_of_methodNamed Bd.named
  have hnm := (name_of_methodNamed Bd.named Bd.method).1
  have X0 : Stand p l e ({ frames := 0, cells := 0, slots := 0, locals := 0 } : Room) s m #[(.int p1)] below meth c s₁ [] 0 0 := Stand.of_body Bd
  have e0 : s₁.heap = h0 := by rw [← hh, Bd.state]; rfl
  have N0 := Fr.nil n0
  have K0 := Keep.refl h0 []
  refine own_go (fun t k => castTop (own_ef18 m p1) k) ?_
  show OwnG p.tables e below _ (s₁.setTop (mkF m 0 #[.val (.int p1)] []))
  refine own_go (fun t k => XS.iloadN X0.here hx rfl (hb hby own_d20) rfl  k) ?_
  show OwnG p.tables e below _ (s₁.setTop (mkF m 1 #[.val (.int p1)] [(.int p1)]))
  refine own_go (fun t k => XS.bipush X0.here hx rfl (hb hby own_d21) k) ?_
  show OwnG p.tables e below _ (s₁.setTop (mkF m 3 #[.val (.int p1)] [(.int (32 : Int32)), (.int p1)]))
  by_cases hc1 : p1 = (32 : Int32)
  · refine own_go (fun t k => XS.icmpNo X0.here hx rfl (hb hby own_d22) rfl (teq hc1).2 k) ?_
    show OwnG p.tables e below _ (s₁.setTop (mkF m 6 #[.val (.int p1)] []))
    refine own_go (fun t k => XS.iconst X0.here hx rfl (hb hby own_d23) k) ?_
    show OwnG p.tables e below _ (s₁.setTop (mkF m 7 #[.val (.int p1)] [(.int (1 : Int32))]))
    obtain ⟨fs, hr, hrun, hended, hW, hsame⟩ := X0.leave (v := some (.int (1 : Int32))) (fun h => by rw [Bd.returns] at h; cases h)
    refine ⟨_, _, retN X0 hx (t := .boolean) Bd.returns (by simp) (hb hby own_d24) hr, hrun, hended, _, _, rfl, ?_, ⟨_, rfl⟩, hW, hsame.mono (by decide) (by decide)⟩
    show Q_own_reference Z p1 h0 n0 _ s₁.heap _
    rw [e0]
    exact ⟨by simp [own_ref, hc1], N0, rfl⟩
  · refine own_go (fun t k => XS.icmpYes X0.here hx rfl (pc0 := 3) (pc' := 8) rfl (hb hby own_d22) rfl (feq hc1).2 (by decide) (by decide) k) ?_
    show OwnG p.tables e below _ (s₁.setTop (mkF m 8 #[.val (.int p1)] []))
    refine own_go (fun t k => XS.iloadN X0.here hx rfl (hb hby own_d25) rfl  k) ?_
    show OwnG p.tables e below _ (s₁.setTop (mkF m 9 #[.val (.int p1)] [(.int p1)]))
    refine own_go (fun t k => XS.bipush X0.here hx rfl (hb hby own_d26) k) ?_
    show OwnG p.tables e below _ (s₁.setTop (mkF m 11 #[.val (.int p1)] [(.int (9 : Int32)), (.int p1)]))
    by_cases hc2 : p1 < (9 : Int32)
    · refine own_go (fun t k => XS.icmpYes X0.here hx rfl (pc0 := 11) (pc' := 20) rfl (hb hby own_d27) rfl (tlt hc2).1 (by decide) (by decide) k) ?_
      show OwnG p.tables e below _ (s₁.setTop (mkF m 20 #[.val (.int p1)] []))
      refine own_go (fun t k => XS.iconst X0.here hx rfl (hb hby own_d28) k) ?_
      show OwnG p.tables e below _ (s₁.setTop (mkF m 21 #[.val (.int p1)] [(.int (0 : Int32))]))
      obtain ⟨fs, hr, hrun, hended, hW, hsame⟩ := X0.leave (v := some (.int (0 : Int32))) (fun h => by rw [Bd.returns] at h; cases h)
      refine ⟨_, _, retN X0 hx (t := .boolean) Bd.returns (by simp) (hb hby own_d29) hr, hrun, hended, _, _, rfl, ?_, ⟨_, rfl⟩, hW, hsame.mono (by decide) (by decide)⟩
      show Q_own_reference Z p1 h0 n0 _ s₁.heap _
      rw [e0]
      exact ⟨by simp [own_ref, hc1, hc2], N0, rfl⟩
    · refine own_go (fun t k => XS.icmpNo X0.here hx rfl (hb hby own_d27) rfl (flt hc2).1 k) ?_
      show OwnG p.tables e below _ (s₁.setTop (mkF m 14 #[.val (.int p1)] []))
      refine own_go (fun t k => XS.iloadN X0.here hx rfl (hb hby own_d30) rfl  k) ?_
      show OwnG p.tables e below _ (s₁.setTop (mkF m 15 #[.val (.int p1)] [(.int p1)]))
      refine own_go (fun t k => XS.bipush X0.here hx rfl (hb hby own_d31) k) ?_
      show OwnG p.tables e below _ (s₁.setTop (mkF m 17 #[.val (.int p1)] [(.int (13 : Int32)), (.int p1)]))
      by_cases hc3 : (13 : Int32) < p1
      · refine own_go (fun t k => XS.icmpNo X0.here hx rfl (hb hby own_d32) rfl (tlt hc3).2.2.2 k) ?_
        show OwnG p.tables e below _ (s₁.setTop (mkF m 20 #[.val (.int p1)] []))
        refine own_go (fun t k => XS.iconst X0.here hx rfl (hb hby own_d28) k) ?_
        show OwnG p.tables e below _ (s₁.setTop (mkF m 21 #[.val (.int p1)] [(.int (0 : Int32))]))
        obtain ⟨fs, hr, hrun, hended, hW, hsame⟩ := X0.leave (v := some (.int (0 : Int32))) (fun h => by rw [Bd.returns] at h; cases h)
        refine ⟨_, _, retN X0 hx (t := .boolean) Bd.returns (by simp) (hb hby own_d29) hr, hrun, hended, _, _, rfl, ?_, ⟨_, rfl⟩, hW, hsame.mono (by decide) (by decide)⟩
        show Q_own_reference Z p1 h0 n0 _ s₁.heap _
        rw [e0]
        exact ⟨by simp [own_ref, hc1, hc2, hc3], N0, rfl⟩
      · refine own_go (fun t k => XS.icmpYes X0.here hx rfl (pc0 := 17) (pc' := 22) rfl (hb hby own_d32) rfl (flt hc3).2.2.2 (by decide) (by decide) k) ?_
        show OwnG p.tables e below _ (s₁.setTop (mkF m 22 #[.val (.int p1)] []))
        refine own_go (fun t k => XS.iloadN X0.here hx rfl (hb hby own_d33) rfl  k) ?_
        show OwnG p.tables e below _ (s₁.setTop (mkF m 23 #[.val (.int p1)] [(.int p1)]))
        refine own_go (fun t k => XS.bipush X0.here hx rfl (hb hby own_d34) k) ?_
        show OwnG p.tables e below _ (s₁.setTop (mkF m 25 #[.val (.int p1)] [(.int (11 : Int32)), (.int p1)]))
        by_cases hc4 : p1 = (11 : Int32)
        · refine own_go (fun t k => XS.icmpYes X0.here hx rfl (pc0 := 25) (pc' := 38) rfl (hb hby own_d35) rfl (teq hc4).1 (by decide) (by decide) k) ?_
          show OwnG p.tables e below _ (s₁.setTop (mkF m 38 #[.val (.int p1)] []))
          refine own_go (fun t k => XS.iconst X0.here hx rfl (hb hby own_d36) k) ?_
          show OwnG p.tables e below _ (s₁.setTop (mkF m 39 #[.val (.int p1)] [(.int (0 : Int32))]))
          obtain ⟨fs, hr, hrun, hended, hW, hsame⟩ := X0.leave (v := some (.int (0 : Int32))) (fun h => by rw [Bd.returns] at h; cases h)
          refine ⟨_, _, retN X0 hx (t := .boolean) Bd.returns (by simp) (hb hby own_d37) hr, hrun, hended, _, _, rfl, ?_, ⟨_, rfl⟩, hW, hsame.mono (by decide) (by decide)⟩
          show Q_own_reference Z p1 h0 n0 _ s₁.heap _
          rw [e0]
          exact ⟨by simp [own_ref, hc1, hc2, hc3, hc4], N0, rfl⟩
        · refine own_go (fun t k => XS.icmpNo X0.here hx rfl (hb hby own_d35) rfl (feq hc4).1 k) ?_
          show OwnG p.tables e below _ (s₁.setTop (mkF m 28 #[.val (.int p1)] []))
          refine own_go (fun t k => XS.iloadN X0.here hx rfl (hb hby own_d38) rfl  k) ?_
          show OwnG p.tables e below _ (s₁.setTop (mkF m 29 #[.val (.int p1)] [(.int p1)]))
          refine own_go (fun t k => XS.bipush X0.here hx rfl (hb hby own_d39) k) ?_
          show OwnG p.tables e below _ (s₁.setTop (mkF m 31 #[.val (.int p1)] [(.int (12 : Int32)), (.int p1)]))
          by_cases hc5 : p1 = (12 : Int32)
          · refine own_go (fun t k => XS.icmpYes X0.here hx rfl (pc0 := 31) (pc' := 38) rfl (hb hby own_d40) rfl (teq hc5).1 (by decide) (by decide) k) ?_
            show OwnG p.tables e below _ (s₁.setTop (mkF m 38 #[.val (.int p1)] []))
            refine own_go (fun t k => XS.iconst X0.here hx rfl (hb hby own_d36) k) ?_
            show OwnG p.tables e below _ (s₁.setTop (mkF m 39 #[.val (.int p1)] [(.int (0 : Int32))]))
            obtain ⟨fs, hr, hrun, hended, hW, hsame⟩ := X0.leave (v := some (.int (0 : Int32))) (fun h => by rw [Bd.returns] at h; cases h)
            refine ⟨_, _, retN X0 hx (t := .boolean) Bd.returns (by simp) (hb hby own_d37) hr, hrun, hended, _, _, rfl, ?_, ⟨_, rfl⟩, hW, hsame.mono (by decide) (by decide)⟩
            show Q_own_reference Z p1 h0 n0 _ s₁.heap _
            rw [e0]
            exact ⟨by simp [own_ref, hc1, hc2, hc3, hc4, hc5], N0, rfl⟩
          · refine own_go (fun t k => XS.icmpNo X0.here hx rfl (hb hby own_d40) rfl (feq hc5).1 k) ?_
            show OwnG p.tables e below _ (s₁.setTop (mkF m 34 #[.val (.int p1)] []))
            refine own_go (fun t k => XS.iconst X0.here hx rfl (hb hby own_d41) k) ?_
            show OwnG p.tables e below _ (s₁.setTop (mkF m 35 #[.val (.int p1)] [(.int (1 : Int32))]))
            refine own_go (fun t k => XS.goto X0.here hx rfl (pc0 := 35) (pc' := 39) rfl (hb hby own_d42) (by decide) (by decide) k) ?_
            show OwnG p.tables e below _ (s₁.setTop (mkF m 39 #[.val (.int p1)] [(.int (1 : Int32))]))
            obtain ⟨fs, hr, hrun, hended, hW, hsame⟩ := X0.leave (v := some (.int (1 : Int32))) (fun h => by rw [Bd.returns] at h; cases h)
            refine ⟨_, _, retN X0 hx (t := .boolean) Bd.returns (by simp) (hb hby own_d37) hr, hrun, hended, _, _, rfl, ?_, ⟨_, rfl⟩, hW, hsame.mono (by decide) (by decide)⟩
            show Q_own_reference Z p1 h0 n0 _ s₁.heap _
            rw [e0]
            exact ⟨by simp [own_ref, hc1, hc2, hc3, hc4, hc5], N0, rfl⟩
theorem own_ef43 (m : MethodId) (p0 : Int32) (p1 : Int32) : entryFrame m #[(.int p0), (.int p1)] maxLocals = mkF m 0 #[.val (.int p0), .val (.int p1), .unset, .unset, .unset, .unset] [] := by first | (simp [entryFrame, mkF, argsToLocals, Value.category, maxLocals]; done) | rfl
theorem own_pd44 : parseMethodDescriptor "(I)Z" = some ⟨[.int], some .boolean⟩ := by decide +kernel
def Q_own_law (Z : State) (p0 : Int32) (p1 : Int32) (o_SPACES : Addr) (kc_o_SPACES : ClassId) (h0 : Heap) (n0 : Nat) (v : Option Value) (h : Heap) (L : List Loc) : Prop := v = some (.int (1 : Int32)) ∧ Fr n0 L
set_option maxRecDepth 65536 in
set_option maxHeartbeats 40000000 in
theorem own_law (l : Launch) (Z : State) (a0 : Array Value) (hw : ∀ d ∈ tables_1, d.before a0 Z = true) (ws : List Jvm.Cond) (p0 : Int32) (p1 : Int32) (o_SPACES : Addr) (kc_o_SPACES : ClassId) (h0 : Heap) (n0 : Nat) (Z0 : n0 ≤ h0.size) (O0 : Old Z n0 h0) (S_SPACES : Sta Z Z.heap "com/example/vigilant_grammar/vigilantgrammar/DtdInput" "SPACES" "[C" (.ref o_SPACES)) (V_o_SPACES : Arv Z Z.heap o_SPACES kc_o_SPACES .char (4 : Int32) [(.int (32 : Int32)), (.int (9 : Int32)), (.int (10 : Int32)), (.int (13 : Int32))] (.int (0 : Int32))) :
    MetFree l x (head1 (Jvm.Cond.code x code maxLocals ret :: ws) room_1) (fun a U => a = #[(.int p0), (.int p1)] ∧ Z.Warmed39 U.vm ∧ U.heap = h0) (fun _ _ _ _ _ => True) (fun _ U o U' => ∃ v L, o = .returned v ∧ Q_own_law Z p0 p1 o_SPACES kc_o_SPACES h0 n0 v U'.heap L ∧ FrameEnd U o U' L room_1.cells room_1.slots) := by
  refine MetFree.of_bodySF (plainFor_of_name own_pn19) hisR ?_
  intro p e s m args below meth c s₁ Bd hml0 hP hK
  obtain ⟨rfl, hZ, hh⟩ := hP
  have hx := Bd.exec
  have hby := Bd.bytes
  have hml : c.maxLocals = 6 := hml0
  have hown : s.vm.findClass "com/example/vigilant_grammar/vigilantgrammar/DtdInputIsSpacePinLaw" = some m.cls := findClass_of_methodNamed Bd.named
  have hnm := (name_of_methodNamed Bd.named Bd.method).1
  have X0 : Stand p l e room_1 s m #[(.int p0), (.int p1)] below meth c s₁ [] 0 0 := Stand.of_body Bd
  have e0 : s₁.heap = h0 := by rw [← hh, Bd.state]; rfl
  have N0 := Fr.nil n0
  have K0 := Keep.refl h0 []
  refine own_go (fun t k => castTop (own_ef43 m p0 p1) k) ?_
  show OwnG p.tables e below _ (s₁.setTop (mkF m 0 #[.val (.int p0), .val (.int p1), .unset, .unset, .unset, .unset] []))
  obtain ⟨T1, X1, e1, st1⟩ := getS2 X0 hx hZ hown (host := "") (Or.inl (hw _ (List.mem_of_getElem? (i := 0) rfl))) Via.refl e0 (S_SPACES.ext O0.2) (g := (mkF m 0 #[.val (.int p0), .val (.int p1), .unset, .unset, .unset, .unset] [])) rfl (hb hby at_0)
  refine own_go (fun t k => st1 t k) ?_
  show OwnG p.tables e below _ (T1.setTop (mkF m 3 #[.val (.int p0), .val (.int p1), .unset, .unset, .unset, .unset] [(.ref o_SPACES)]))
  refine own_go (fun t k => XS.iloadN X1.here hx rfl (hb hby at_3) rfl  k) ?_
  show OwnG p.tables e below _ (T1.setTop (mkF m 4 #[.val (.int p0), .val (.int p1), .unset, .unset, .unset, .unset] [(.int p1), (.ref o_SPACES)]))
  refine own_go (fun t k => XS.iconst X1.here hx rfl (hb hby at_4) k) ?_
  show OwnG p.tables e below _ (T1.setTop (mkF m 5 #[.val (.int p0), .val (.int p1), .unset, .unset, .unset, .unset] [(.int (3 : Int32)), (.int p1), (.ref o_SPACES)]))
  refine own_go (fun t k => XS.iand X1.here hx rfl (hb hby at_5) rfl k) ?_
  show OwnG p.tables e below _ (T1.setTop (mkF m 6 #[.val (.int p0), .val (.int p1), .unset, .unset, .unset, .unset] [(.int (p1 &&& (3 : Int32))), (.ref o_SPACES)]))
  obtain ⟨ch, hch, hsp⟩ := own_pickc p1
  obtain ⟨cl2, Ar2, qk2, Sz2, Nn2, Hs2, Gs2⟩ := (V_o_SPACES.ext O0.2)
  have hin2 : ¬ ((p1 &&& (3 : Int32)) < 0 ∨ cl2.slots.size ≤ ((p1 &&& (3 : Int32))).toNatClampNeg) := inb_of Sz2 (own_idx p1)
  have hat2 : cl2.slots[((p1 &&& (3 : Int32))).toNatClampNeg]? = some (.int ch) := Hs2.at hin2 hch
  refine own_go (fun t k => (X1.caload hx (j := (p1 &&& (3 : Int32))) (v := (.int ch)) (by rw [e1]; exact Ar2.1) (State.isArrayOf_alike hZ.alike Ar2.2.1) Ar2.2.2 hin2 hat2 (g := (mkF m 6 #[.val (.int p0), .val (.int p1), .unset, .unset, .unset, .unset] [(.int (p1 &&& (3 : Int32))), (.ref o_SPACES)])) rfl rfl (hb hby at_6)) t k) ?_
  show OwnG p.tables e below _ (T1.setTop (mkF m 7 #[.val (.int p0), .val (.int p1), .unset, .unset, .unset, .unset] [(.int ch)]))
  refine own_go (fun t k => XS.istoreN X1.here hx rfl (hb hby at_7) rfl (l' := #[.val (.int p0), .val (.int p1), .val (.int ch), .unset, .unset, .unset]) rfl k) ?_
  show OwnG p.tables e below _ (T1.setTop (mkF m 8 #[.val (.int p0), .val (.int p1), .val (.int ch), .unset, .unset, .unset] []))
  refine own_go (fun t k => XS.iloadN X1.here hx rfl (hb hby at_8) rfl  k) ?_
  show OwnG p.tables e below _ (T1.setTop (mkF m 9 #[.val (.int p0), .val (.int p1), .val (.int ch), .unset, .unset, .unset] [(.int ch)]))
  obtain ⟨_, _, ⟨T3, L3, k3, n3⟩, -, X3, ⟨Lc3, hQ3, l3, y3, z3⟩, st3⟩ := Jvm.LawKit.callS X1 hx (y := (⟨"com/example/vigilant_grammar/vigilantgrammar/DtdInput", "isSpace", "(I)Z"⟩ : MethodName)) hown (mvT hZ (hw _ (List.mem_of_getElem? (i := 3) rfl))) (mvT hZ (hw _ (List.mem_of_getElem? (i := 4) rfl))) (mvT hZ (hw _ (List.mem_of_getElem? (i := 1) rfl))) (mvT hZ (hw _ (List.mem_of_getElem? (i := 5) rfl))) (by decide) (backOf (W := 0) (own_isSpace l Z a0 hw [] ch h0 n0 Z0) hZ (hw _ (List.mem_of_getElem? (i := 5) rfl)) (hw _ (List.mem_of_getElem? (i := 1) rfl)) (by decide) (by decide)) (g := (mkF m 9 #[.val (.int p0), .val (.int p1), .val (.int ch), .unset, .unset, .unset] [(.int ch)])) rfl (by rw [hml]; rfl) (argsL := [(.int ch)]) (rest := []) (lenOf own_pd44 rfl) rfl (by show 2 * 0 + _ ≤ _; exact Nat.le_of_eq rfl) (hb hby at_9) (fun _ _ => ⟨rfl, e1, (by decide : 0 + 0 ≤ _), (by decide : 0 + 0 ≤ _)⟩)
  dsimp only [Pt.U, Pt.locs, Pt.cells, Pt.slots] at X3 l3 y3 z3 st3 hQ3
  subst l3 y3 z3
  obtain ⟨rfl, Nq3, eq3⟩ := hQ3
  have N3 := Fr.app N0 Nq3
  have e3 : T3.heap = h0 := eq3
  refine own_go (fun t k => st3 t k) ?_
  show OwnG p.tables e below _ (T3.setTop (mkF m 12 #[.val (.int p0), .val (.int p1), .val (.int ch), .unset, .unset, .unset] [(.int (own_spc ch))]))
  rw [hsp]
  show OwnG p.tables e below _ (T3.setTop (mkF m 12 #[.val (.int p0), .val (.int p1), .val (.int ch), .unset, .unset, .unset] [(.int (1 : Int32))]))
  refine own_go (fun t k => XS.istoreN X3.here hx rfl (hb hby at_12) rfl (l' := #[.val (.int p0), .val (.int p1), .val (.int ch), .val (.int (1 : Int32)), .unset, .unset]) rfl k) ?_
  show OwnG p.tables e below _ (T3.setTop (mkF m 13 #[.val (.int p0), .val (.int p1), .val (.int ch), .val (.int (1 : Int32)), .unset, .unset] []))
  refine own_go (fun t k => XS.iloadN X3.here hx rfl (hb hby at_13) rfl  k) ?_
  show OwnG p.tables e below _ (T3.setTop (mkF m 14 #[.val (.int p0), .val (.int p1), .val (.int ch), .val (.int (1 : Int32)), .unset, .unset] [(.int p1)]))
  refine own_go (fun t k => XS.iconst X3.here hx rfl (hb hby at_14) k) ?_
  show OwnG p.tables e below _ (T3.setTop (mkF m 15 #[.val (.int p0), .val (.int p1), .val (.int ch), .val (.int (1 : Int32)), .unset, .unset] [(.int (2 : Int32)), (.int p1)]))
  refine own_go (fun t k => XS.iushr X3.here hx rfl (hb hby at_15) rfl k) ?_
  show OwnG p.tables e below _ (T3.setTop (mkF m 16 #[.val (.int p0), .val (.int p1), .val (.int ch), .val (.int (1 : Int32)), .unset, .unset] [(.int ((p1.toUInt32 >>> ((2 : Int32) &&& 31).toUInt32).toInt32))]))
  refine own_go (fun t k => XS.iconst X3.here hx rfl (hb hby at_16) k) ?_
  show OwnG p.tables e below _ (T3.setTop (mkF m 17 #[.val (.int p0), .val (.int p1), .val (.int ch), .val (.int (1 : Int32)), .unset, .unset] [(.int (1 : Int32)), (.int ((p1.toUInt32 >>> ((2 : Int32) &&& 31).toUInt32).toInt32))]))
  refine own_go (fun t k => XS.iand X3.here hx rfl (hb hby at_17) rfl k) ?_
  show OwnG p.tables e below _ (T3.setTop (mkF m 18 #[.val (.int p0), .val (.int p1), .val (.int ch), .val (.int (1 : Int32)), .unset, .unset] [(.int (((p1.toUInt32 >>> ((2 : Int32) &&& 31).toUInt32).toInt32) &&& (1 : Int32)))]))
  obtain ⟨z4, hp4, hn4⟩ := own_pick ((((p1.toUInt32 >>> ((2 : Int32) &&& 31).toUInt32).toInt32) &&& (1 : Int32)) = (0 : Int32)) (p0) (((p0 &&& (63 : Int32)) - (1 : Int32)))
  refine own_go (nxt := T3.setTop (mkF m 31 #[.val (.int p0), .val (.int p1), .val (.int ch), .val (.int (1 : Int32)), .unset, .unset] [(.int z4)])) (fun t k => ?_) ?_
  · by_cases hq : (((p1.toUInt32 >>> ((2 : Int32) &&& 31).toUInt32).toInt32) &&& (1 : Int32)) = (0 : Int32)
    · rw [hp4 hq] at k
      refine XS.ifYes X3.here hx rfl (pc0 := 18) (pc' := 30) rfl (hb hby at_18) rfl ((if0 _ _).trans (teq hq).1) (by decide) (by decide) ?_
      show Steps p.tables e below (T3.setTop (mkF m 30 #[.val (.int p0), .val (.int p1), .val (.int ch), .val (.int (1 : Int32)), .unset, .unset] [])) _
      refine XS.iloadN X3.here hx rfl (hb hby at_30) rfl  ?_
      show Steps p.tables e below (T3.setTop (mkF m 31 #[.val (.int p0), .val (.int p1), .val (.int ch), .val (.int (1 : Int32)), .unset, .unset] [(.int p0)])) _
      exact k
    · rw [hn4 hq] at k
      refine XS.ifNo X3.here hx rfl (hb hby at_18) rfl ((if0 _ _).trans (feq hq).1) ?_
      show Steps p.tables e below (T3.setTop (mkF m 21 #[.val (.int p0), .val (.int p1), .val (.int ch), .val (.int (1 : Int32)), .unset, .unset] [])) _
      refine XS.iloadN X3.here hx rfl (hb hby at_21) rfl  ?_
      show Steps p.tables e below (T3.setTop (mkF m 22 #[.val (.int p0), .val (.int p1), .val (.int ch), .val (.int (1 : Int32)), .unset, .unset] [(.int p0)])) _
      refine XS.bipush X3.here hx rfl (hb hby at_22) ?_
      show Steps p.tables e below (T3.setTop (mkF m 24 #[.val (.int p0), .val (.int p1), .val (.int ch), .val (.int (1 : Int32)), .unset, .unset] [(.int (63 : Int32)), (.int p0)])) _
      refine XS.iand X3.here hx rfl (hb hby at_24) rfl ?_
      show Steps p.tables e below (T3.setTop (mkF m 25 #[.val (.int p0), .val (.int p1), .val (.int ch), .val (.int (1 : Int32)), .unset, .unset] [(.int (p0 &&& (63 : Int32)))])) _
      refine XS.iconst X3.here hx rfl (hb hby at_25) ?_
      show Steps p.tables e below (T3.setTop (mkF m 26 #[.val (.int p0), .val (.int p1), .val (.int ch), .val (.int (1 : Int32)), .unset, .unset] [(.int (1 : Int32)), (.int (p0 &&& (63 : Int32)))])) _
      refine XS.isub X3.here hx rfl (hb hby at_26) rfl ?_
      show Steps p.tables e below (T3.setTop (mkF m 27 #[.val (.int p0), .val (.int p1), .val (.int ch), .val (.int (1 : Int32)), .unset, .unset] [(.int ((p0 &&& (63 : Int32)) - (1 : Int32)))])) _
      refine XS.goto X3.here hx rfl (pc0 := 27) (pc' := 31) rfl (hb hby at_27) (by decide) (by decide) ?_
      show Steps p.tables e below (T3.setTop (mkF m 31 #[.val (.int p0), .val (.int p1), .val (.int ch), .val (.int (1 : Int32)), .unset, .unset] [(.int ((p0 &&& (63 : Int32)) - (1 : Int32)))])) _
      exact k
  show OwnG p.tables e below _ (T3.setTop (mkF m 31 #[.val (.int p0), .val (.int p1), .val (.int ch), .val (.int (1 : Int32)), .unset, .unset] [(.int z4)]))
  refine own_go (fun t k => XS.istore X3.here hx rfl (hb hby at_31) rfl (l' := #[.val (.int p0), .val (.int p1), .val (.int ch), .val (.int (1 : Int32)), .val (.int z4), .unset]) rfl k) ?_
  show OwnG p.tables e below _ (T3.setTop (mkF m 33 #[.val (.int p0), .val (.int p1), .val (.int ch), .val (.int (1 : Int32)), .val (.int z4), .unset] []))
  refine own_go (fun t k => XS.iload X3.here hx rfl (hb hby at_33) rfl  k) ?_
  show OwnG p.tables e below _ (T3.setTop (mkF m 35 #[.val (.int p0), .val (.int p1), .val (.int ch), .val (.int (1 : Int32)), .val (.int z4), .unset] [(.int z4)]))
  obtain ⟨_, _, ⟨T5, L5, k5, n5⟩, -, X5, ⟨Lc5, hQ5, l5, y5, z5⟩, st5⟩ := Jvm.LawKit.callS X3 hx (y := (⟨"com/example/vigilant_grammar/vigilantgrammar/DtdInput", "isSpace", "(I)Z"⟩ : MethodName)) hown (mvT hZ (hw _ (List.mem_of_getElem? (i := 3) rfl))) (mvT hZ (hw _ (List.mem_of_getElem? (i := 4) rfl))) (mvT hZ (hw _ (List.mem_of_getElem? (i := 1) rfl))) (mvT hZ (hw _ (List.mem_of_getElem? (i := 5) rfl))) (by decide) (backOf (W := 0) (own_isSpace l Z a0 hw [] z4 h0 n0 Z0) hZ (hw _ (List.mem_of_getElem? (i := 5) rfl)) (hw _ (List.mem_of_getElem? (i := 1) rfl)) (by decide) (by decide)) (g := (mkF m 35 #[.val (.int p0), .val (.int p1), .val (.int ch), .val (.int (1 : Int32)), .val (.int z4), .unset] [(.int z4)])) rfl (by rw [hml]; rfl) (argsL := [(.int z4)]) (rest := []) (lenOf own_pd44 rfl) rfl (by show 2 * 0 + _ ≤ _; exact Nat.le_of_eq rfl) (hb hby at_35) (fun _ _ => ⟨rfl, e3, (by decide : 0 + 0 ≤ _), (by decide : 0 + 0 ≤ _)⟩)
  dsimp only [Pt.U, Pt.locs, Pt.cells, Pt.slots] at X5 l5 y5 z5 st5 hQ5
  subst l5 y5 z5
  obtain ⟨rfl, Nq5, eq5⟩ := hQ5
  have N5 := Fr.app N3 Nq5
  have e5 : T5.heap = h0 := eq5
  refine own_go (fun t k => st5 t k) ?_
  show OwnG p.tables e below _ (T5.setTop (mkF m 38 #[.val (.int p0), .val (.int p1), .val (.int ch), .val (.int (1 : Int32)), .val (.int z4), .unset] [(.int (own_spc z4))]))
  refine own_go (fun t k => XS.istore X5.here hx rfl (hb hby at_38) rfl (l' := #[.val (.int p0), .val (.int p1), .val (.int ch), .val (.int (1 : Int32)), .val (.int z4), .val (.int (own_spc z4))]) rfl k) ?_
  show OwnG p.tables e below _ (T5.setTop (mkF m 40 #[.val (.int p0), .val (.int p1), .val (.int ch), .val (.int (1 : Int32)), .val (.int z4), .val (.int (own_spc z4))] []))
  refine own_go (fun t k => XS.iloadN X5.here hx rfl (hb hby at_40) rfl  k) ?_
  show OwnG p.tables e below _ (T5.setTop (mkF m 41 #[.val (.int p0), .val (.int p1), .val (.int ch), .val (.int (1 : Int32)), .val (.int z4), .val (.int (own_spc z4))] [(.int (1 : Int32))]))
  refine own_go (fun t k => XS.ifNo X5.here hx rfl (hb hby at_41) rfl ((if0 _ _).trans (feq (by decide : ¬ ((1 : Int32) = (0 : Int32)))).1) k) ?_
  show OwnG p.tables e below _ (T5.setTop (mkF m 44 #[.val (.int p0), .val (.int p1), .val (.int ch), .val (.int (1 : Int32)), .val (.int z4), .val (.int (own_spc z4))] []))
  refine own_go (fun t k => XS.iload X5.here hx rfl (hb hby at_44) rfl  k) ?_
  show OwnG p.tables e below _ (T5.setTop (mkF m 46 #[.val (.int p0), .val (.int p1), .val (.int ch), .val (.int (1 : Int32)), .val (.int z4), .val (.int (own_spc z4))] [(.int (own_spc z4))]))
  refine own_go (fun t k => XS.iload X5.here hx rfl (hb hby at_46) rfl  k) ?_
  show OwnG p.tables e below _ (T5.setTop (mkF m 48 #[.val (.int p0), .val (.int p1), .val (.int ch), .val (.int (1 : Int32)), .val (.int z4), .val (.int (own_spc z4))] [(.int z4), (.int (own_spc z4))]))
  obtain ⟨_, _, ⟨T6, L6, k6, n6⟩, -, X6, ⟨Lc6, hQ6, l6, y6, z6⟩, st6⟩ := Jvm.LawKit.callS X5 hx (y := (⟨"com/example/vigilant_grammar/vigilantgrammar/DtdInputIsSpacePinLaw", "reference", "(I)Z"⟩ : MethodName)) hown (mvT hZ (hw _ (List.mem_of_getElem? (i := 6) rfl))) (mvT hZ (hw _ (List.mem_of_getElem? (i := 7) rfl))) (mvT hZ (hw _ (List.mem_of_getElem? (i := 8) rfl))) (mvT hZ (hw _ (List.mem_of_getElem? (i := 9) rfl))) (by decide) (backOf (W := 1) (own_reference l Z a0 hw [] z4 h0 n0 Z0) hZ (hw _ (List.mem_of_getElem? (i := 9) rfl)) (hw _ (List.mem_of_getElem? (i := 8) rfl)) (by decide) (by decide)) (g := (mkF m 48 #[.val (.int p0), .val (.int p1), .val (.int ch), .val (.int (1 : Int32)), .val (.int z4), .val (.int (own_spc z4))] [(.int z4), (.int (own_spc z4))])) rfl (by rw [hml]; rfl) (argsL := [(.int z4)]) (rest := [(.int (own_spc z4))]) (lenOf own_pd44 rfl) rfl (by show 2 * 0 + _ ≤ _; exact Nat.le_of_eq rfl) (hb hby at_48) (fun _ _ => ⟨rfl, e5, (by decide : 0 + 0 ≤ _), (by decide : 0 + 0 ≤ _)⟩)
  dsimp only [Pt.U, Pt.locs, Pt.cells, Pt.slots] at X6 l6 y6 z6 st6 hQ6
  subst l6 y6 z6
  obtain ⟨rfl, Nq6, eq6⟩ := hQ6
  have N6 := Fr.app N5 Nq6
  have e6 : T6.heap = h0 := eq6
  refine own_go (fun t k => st6 t k) ?_
  show OwnG p.tables e below _ (T6.setTop (mkF m 51 #[.val (.int p0), .val (.int p1), .val (.int ch), .val (.int (1 : Int32)), .val (.int z4), .val (.int (own_spc z4))] [(.int (own_ref z4)), (.int (own_spc z4))]))
  refine own_go (fun t k => XS.icmpNo X6.here hx rfl (hb hby at_51) rfl (teq (own_same z4)).2 k) ?_
  show OwnG p.tables e below _ (T6.setTop (mkF m 54 #[.val (.int p0), .val (.int p1), .val (.int ch), .val (.int (1 : Int32)), .val (.int z4), .val (.int (own_spc z4))] []))
  refine own_go (fun t k => XS.iconst X6.here hx rfl (hb hby at_54) k) ?_
  show OwnG p.tables e below _ (T6.setTop (mkF m 55 #[.val (.int p0), .val (.int p1), .val (.int ch), .val (.int (1 : Int32)), .val (.int z4), .val (.int (own_spc z4))] [(.int (1 : Int32))]))
  refine own_go (fun t k => XS.goto X6.here hx rfl (pc0 := 55) (pc' := 59) rfl (hb hby at_55) (by decide) (by decide) k) ?_
  show OwnG p.tables e below _ (T6.setTop (mkF m 59 #[.val (.int p0), .val (.int p1), .val (.int ch), .val (.int (1 : Int32)), .val (.int z4), .val (.int (own_spc z4))] [(.int (1 : Int32))]))
  obtain ⟨fs, hr, hrun, hended, hW, hsame⟩ := X6.leave (v := some (.int (1 : Int32))) (fun h => by rw [Bd.returns] at h; cases h)
  refine ⟨_, _, retN X6 hx (t := .boolean) Bd.returns (by simp) (hb hby at_59) hr, hrun, hended, _, _, rfl, ?_, ⟨_, rfl⟩, hW, hsame.mono (by decide) (by decide)⟩
  show Q_own_law Z p0 p1 o_SPACES kc_o_SPACES h0 n0 _ T6.heap _
  rw [e6]
  exact ⟨rfl, N6⟩
set_option maxRecDepth 65536 in
set_option maxHeartbeats 40000000 in
theorem comes_1 {Post : Tables → Env → Array Value → State → Outcome → State → Prop} (hpost : ∀ tb e args s v u, (limb_1_1.after args s (.returned v) u = true ∧ limb_1_2.after args s (.returned v) u = true ∧ True) → FrameEnd s (.returned v) u (Jvm.fieldLocs frame_1_writes args s ++ Jvm.arrayLocs frame_1_arrays args s ++ Jvm.staticLocs frame_1_statics s) 0 0 → Post tb e args s (.returned v) u) :
    ArmFor flags0 classFile x code maxLocals ret World_1 tables_1 room_1 Calls_1 rest_1 Pre_1 Post := by
  intro l hfl _ _ p e ha hc hk s m args below hf hA hF happ hP
  obtain ⟨hcalls, hrest, hpre⟩ := hP
  obtain ⟨-, -, -, hnamed, -, -, -, hat⟩ := (Spec.applies_iff hf).mp happ
  obtain ⟨hg, hn⟩ := and_e (Cond.before_iff.mp (show (Jvm.Cond.and given_1 narrow_1).before args s = true from hpre))
  obtain ⟨hcount, hg⟩ := and_e hg
  obtain ⟨ga0, hg⟩ := and_e hg
  have ga1 := hg
  obtain ⟨w0, w1, rfl⟩ : ∃ w0 w1 : Value, args = #[w0, w1] := by
    have hs : args.size = 2 := by simpa [Cond.value, given_1] using hcount
    obtain ⟨L⟩ := args
    match L, hs with
    | [w0, w1], _ => exact ⟨w0, w1, rfl⟩
  have hw := fun d (hd : d ∈ tables_1) => atoms_spec (ws := Jvm.Cond.code x code maxLocals ret :: tables_1) hat d (List.mem_cons_of_mem _ hd)
  have hfit : Fit s := fun {y c} hc i hi => by
    obtain ⟨ha, rfl⟩ := Array.getElem?_eq_some_iff.mp hc
    have q := List.all_eq_true.mp ((Array.all_eq_true_iff_forall_mem.mp hF) _ (Array.getElem_mem ha)) i (List.mem_range.mpr hi)
    simpa [Array.getElem?_eq_getElem hi] using q
  obtain ⟨i0, ei0⟩ := is_v ga0
  obtain rfl : w0 = (.int i0) := Option.some.inj ei0
  obtain ⟨i1, ei1⟩ := is_v ga1
  obtain rfl : w1 = (.int i1) := Option.some.inj ei1
  obtain ⟨hn1, hn⟩ := and_e hn
  obtain ⟨o_SPACES, ev_o_SPACES⟩ := arr_v hn1
  have S_SPACES : Sta s s.heap "com/example/vigilant_grammar/vigilantgrammar/DtdInput" "SPACES" "[C" (.ref o_SPACES) := Sta.start ev_o_SPACES (Or.inr ⟨(hw _ (List.mem_of_getElem? (i := 1) rfl)), (hw _ (List.mem_of_getElem? (i := 2) rfl))⟩)
  obtain ⟨cl_o_SPACES, Ar_o_SPACES⟩ := Arr.start ev_o_SPACES hn1
  obtain ⟨hn2, hn⟩ := and_e hn
  obtain ⟨sm_o_SPACES, ln_o_SPACES⟩ := own_len ev_o_SPACES Ar_o_SPACES hn2
  obtain ⟨hn3, hn⟩ := and_e hn
  have el_o_SPACES_3 : cl_o_SPACES.slots[(3 : Int32).toNatClampNeg]? = some (.int (13 : Int32)) := own_elem (by decide) ev_o_SPACES Ar_o_SPACES (own_eqI hn3)
  obtain ⟨hn4, hn⟩ := and_e hn
  have el_o_SPACES_1 : cl_o_SPACES.slots[(1 : Int32).toNatClampNeg]? = some (.int (9 : Int32)) := own_elem (by decide) ev_o_SPACES Ar_o_SPACES (own_eqI hn4)
  obtain ⟨hn5, hn⟩ := and_e hn
  have el_o_SPACES_0 : cl_o_SPACES.slots[(0 : Int32).toNatClampNeg]? = some (.int (32 : Int32)) := own_elem (by decide) ev_o_SPACES Ar_o_SPACES (own_eqI hn5)
  have el_o_SPACES_2 : cl_o_SPACES.slots[(2 : Int32).toNatClampNeg]? = some (.int (10 : Int32)) := own_elem (by decide) ev_o_SPACES Ar_o_SPACES (own_eqI hn)
  obtain ⟨kc_o_SPACES, V_o_SPACES⟩ : ∃ k, Arv s s.heap o_SPACES k .char (4 : Int32) [(.int (32 : Int32)), (.int (9 : Int32)), (.int (10 : Int32)), (.int (13 : Int32))] (.int (0 : Int32)) := ⟨_, Arv.start hfit Ar_o_SPACES sm_o_SPACES ln_o_SPACES (by decide) rfl ⟨el_o_SPACES_0, el_o_SPACES_1, el_o_SPACES_2, el_o_SPACES_3, trivial⟩⟩
  obtain ⟨n, o, h1, h2, h3, _, L, rfl, ⟨rfl, N⟩, hq⟩ := own_law l s _ hw tables_1 i0 i1 o_SPACES kc_o_SPACES s.heap s.heap.size (Nat.le_refl _) (Old.start s) S_SPACES V_o_SPACES  p e ha hc hk s m _ below hf ((Spec.applies_iff_loose hf).mp happ).1 ⟨rfl, State.Warmed39.refl s, rfl⟩ trivial
  refine ⟨n, _, h1, h2, h3, hpost _ _ _ _ _ _ ⟨Cond.after_iff.mpr rfl, Cond.after_iff.mpr (eq_i res_at (Term.int_eval (1)) rfl), trivial⟩ ⟨hq.1, hq.2.1, (hq.2.2.sift fun y hy => Or.inr (N y hy)).mono (by decide) (by decide)⟩⟩
theorem main_1_1 : Claimed_1_1 := comes_1 fun _ _ _ _ _ _ h hF => ⟨h.1, hF⟩
theorem main_1_2 : Claimed_1_2 := comes_1 fun _ _ _ _ _ _ h hF => ⟨h.2.1, hF⟩
end Jvm.Pilot.@@N@@
namespace Jvm.Pilot.@@N@@
open Jvm Jvm.ClassFile Sem Op Lib Jvm.Free Jvm.Stand Jvm.Pilot.@@N@@.Jvm.D
/-! MADE BY PROGRAM (witnessworld.py) out of the Statement's table words and the real class files: 11 classes; the members and pool entries that the words name. The judged class is class 1, her method 2. -/
namespace start1
open Jvm.ClassFile
def u (s : String) : CpInfo := .utf8 (stringToUtf16 s)
/-- a pool by its gaps: so many unusable entries, then the entry; so many at the end -/
def gap : Nat → List CpInfo → List CpInfo
  | 0, r => r
  | n + 1, r => .unusable :: gap n r
def poolList (es : List (Nat × CpInfo)) (last : Nat) : List CpInfo := es.foldr (fun e r => gap e.1 (e.2 :: r)) (gap last [])
def pool (es : List (Nat × CpInfo)) (last : Nat) : Array CpInfo := ⟨poolList es last⟩
def fileOf (pool : Array CpInfo) (this : Nat) (attrs : Array Attribute := #[]) (ms : Array MethodInfo := #[]) (fl : Nat := 33) (sup : Nat := 0) (ifs : Array Nat := #[]) (fds : Array FieldInfo := #[]) : ClassFile where
  minorVersion := 0
  majorVersion := 65
  constantPool := pool
  accessFlags := fl
  thisClass := this
  superClass := sup
  interfaces := ifs
  fields := fds
  methods := ms
  attributes := attrs
def plain (name : String) (sup : Option ClassId) : Class where
  name := name
  kind := .ordinary
  loader := none
  accessFlags := 33
  super := sup
  interfaces := #[]
  cf := none
  fields := #[]
  methods := #[]
  instanceTypes := #[]
  staticTypes := #[]
  resolved := #[]
  callSites := []
  init := .initialized
  statics := none
  mirror := none

def pool0 : Array CpInfo := pool [(5, u "<init>"), (0, u "()V"), (1, .class_ 10), (1, u "java/lang/Object")] 113

def k0m0 : Method := { name := "<init>", desc := "()V", sig := { parameters := [], returnType := none }, accessFlags := 1, code := none }
/-- java/lang/Object -/
def k0 : Class := { plain "java/lang/Object" none with
  accessFlags := 33
  interfaces := #[]
  cf := some (fileOf pool0 8 #[] #[{ accessFlags := 1, nameIndex := 5, descriptorIndex := 6, attributes := #[] }] 33 0 #[] #[])
  fields := #[]
  methods := #[k0m0]
  instanceTypes := #[]
  staticTypes := #[]
  resolved := Array.replicate 124 none
  statics := none }

def pool1 : Array CpInfo := pool [(2, .class_ 4), (1, u "java/lang/Object"), (0, u "<init>"), (0, u "()V"), (0, .fieldref 8 9), (0, .class_ 10), (0, .nameAndType 11 12), (0, u "com/example/vigilant_grammar/vigilantgrammar/DtdInput"), (0, u "SPACES"), (0, u "[C"), (0, .methodref 8 14), (0, .nameAndType 15 16), (0, u "isSpace"), (0, u "(I)Z"), (0, .methodref 18 19), (0, .class_ 20), (0, .nameAndType 21 16), (0, u "com/example/vigilant_grammar/vigilantgrammar/DtdInputIsSpacePinLaw"), (0, u "reference"), (3, u "law"), (0, u "(II)Z")] 2

def k1m0 : Method := { name := "<init>", desc := "()V", sig := { parameters := [], returnType := none }, accessFlags := 2, code := none }
def k1c1 : Code := { maxStack := 2, maxLocals := 1, code := method_2_code, exceptionTable := #[], attributes := #[] }
def k1m1 : Method := { name := "reference", desc := "(I)Z", sig := { parameters := [.int], returnType := some .boolean }, accessFlags := 10, code := some k1c1 }
def k1c2 : Code := { maxStack := 3, maxLocals := 6, code := code, exceptionTable := #[], attributes := #[] }
def k1m2 : Method := { name := "law", desc := "(II)Z", sig := { parameters := [.int, .int], returnType := some .boolean }, accessFlags := 9, code := some k1c2 }
/-- com/example/vigilant_grammar/vigilantgrammar/DtdInputIsSpacePinLaw -/
def k1 : Class := { plain "com/example/vigilant_grammar/vigilantgrammar/DtdInputIsSpacePinLaw" (some 0) with
  accessFlags := 49
  interfaces := #[]
  cf := some (fileOf pool1 18 #[] #[{ accessFlags := 2, nameIndex := 5, descriptorIndex := 6, attributes := #[] }, { accessFlags := 10, nameIndex := 21, descriptorIndex := 16, attributes := #[] }, { accessFlags := 9, nameIndex := 25, descriptorIndex := 26, attributes := #[] }] 49 2 #[] #[])
  fields := #[]
  methods := #[k1m0, k1m1, k1m2]
  instanceTypes := #[]
  staticTypes := #[]
  resolved := Array.replicate 29 none
  statics := none }

def pool2 : Array CpInfo := pool [(2, .class_ 4), (1, u "java/lang/Object"), (6, .class_ 13), (1, u "com/example/vigilant_grammar/vigilantgrammar/DtdInput"), (0, u "left"), (0, u "Ljava/util/Deque;"), (11, u "open"), (0, u "Ljava/util/Set;"), (5, u "names"), (0, u "Lcom/example/vigilant_grammar/vigilantgrammar/NameTable;"), (0, .class_ 37), (0, u "com/example/vigilant_grammar/vigilantgrammar/DtdInput$Source"), (15, u "source"), (0, u "Lcom/example/vigilant_grammar/vigilantgrammar/DtdInput$Source;"), (14, u "depth"), (0, u "I"), (20, u "[C"), (38, u "isSpace"), (0, u "(I)Z"), (18, u "SPACES")] 42

def k2c0 : Code := { maxStack := 2, maxLocals := 1, code := prog_59_method_24_code, exceptionTable := #[], attributes := #[] }
def k2m0 : Method := { name := "isSpace", desc := "(I)Z", sig := { parameters := [.int], returnType := some .boolean }, accessFlags := 8, code := some k2c0 }
/-- com/example/vigilant_grammar/vigilantgrammar/DtdInput -/
def k2 : Class := { plain "com/example/vigilant_grammar/vigilantgrammar/DtdInput" (some 0) with
  accessFlags := 48
  interfaces := #[]
  cf := some (fileOf pool2 11 #[.nestMembers #[36]] #[{ accessFlags := 8, nameIndex := 130, descriptorIndex := 131, attributes := #[] }] 48 2 #[] #[{ accessFlags := 24, nameIndex := 150, descriptorIndex := 91, attributes := #[] }, { accessFlags := 18, nameIndex := 14, descriptorIndex := 15, attributes := #[] }, { accessFlags := 18, nameIndex := 27, descriptorIndex := 28, attributes := #[] }, { accessFlags := 18, nameIndex := 34, descriptorIndex := 35, attributes := #[] }, { accessFlags := 2, nameIndex := 53, descriptorIndex := 54, attributes := #[] }, { accessFlags := 2, nameIndex := 69, descriptorIndex := 70, attributes := #[] }])
  fields := #[{ name := "SPACES", type := (.array .char), accessFlags := 24, slot := 0, constantValue := 0 }, { name := "left", type := (.object "java/util/Deque"), accessFlags := 18, slot := 0, constantValue := 0 }, { name := "open", type := (.object "java/util/Set"), accessFlags := 18, slot := 1, constantValue := 0 }, { name := "names", type := (.object "com/example/vigilant_grammar/vigilantgrammar/NameTable"), accessFlags := 18, slot := 2, constantValue := 0 }, { name := "source", type := (.object "com/example/vigilant_grammar/vigilantgrammar/DtdInput$Source"), accessFlags := 2, slot := 3, constantValue := 0 }, { name := "depth", type := .int, accessFlags := 2, slot := 4, constantValue := 0 }]
  methods := #[k2m0]
  instanceTypes := #[(.object "java/util/Deque"), (.object "java/util/Set"), (.object "com/example/vigilant_grammar/vigilantgrammar/NameTable"), (.object "com/example/vigilant_grammar/vigilantgrammar/DtdInput$Source"), .int]
  staticTypes := #[(.array .char)]
  resolved := Array.replicate 193 none
  statics := some 0 }

def pool3 : Array CpInfo := pool [(1, u "java/lang/Cloneable"), (0, .class_ 1), (0, u "java/lang/Object"), (0, .class_ 3)] 3

/-- java/lang/Cloneable -/
def k3 : Class := { plain "java/lang/Cloneable" (some 0) with
  accessFlags := 1537
  interfaces := #[]
  cf := some (fileOf pool3 2 #[] #[] 1537 4 #[] #[])
  fields := #[]
  methods := #[]
  instanceTypes := #[]
  staticTypes := #[]
  resolved := Array.replicate 8 none
  statics := none }

def pool4 : Array CpInfo := pool [(1, u "java/io/Serializable"), (0, .class_ 1), (0, u "java/lang/Object"), (0, .class_ 3)] 3

/-- java/io/Serializable -/
def k4 : Class := { plain "java/io/Serializable" (some 0) with
  accessFlags := 1537
  interfaces := #[]
  cf := some (fileOf pool4 2 #[] #[] 1537 4 #[] #[])
  fields := #[]
  methods := #[]
  instanceTypes := #[]
  staticTypes := #[]
  resolved := Array.replicate 8 none
  statics := none }

/-- the primitive byte -/
def k5 : Class := { plain "byte" none with kind := .primitive 'B', accessFlags := 0x411 }
/-- [B -/
def k6 : Class := { plain "[B" (some 0) with kind := .array 5 .byte, interfaces := #[3, 4], accessFlags := 1041 }

/-- the primitive char -/
def k7 : Class := { plain "char" none with kind := .primitive 'C', accessFlags := 0x411 }
/-- [C -/
def k8 : Class := { plain "[C" (some 0) with kind := .array 7 .char, interfaces := #[3, 4], accessFlags := 1041 }

/-- the primitive int -/
def k9 : Class := { plain "int" none with kind := .primitive 'I', accessFlags := 0x411 }
/-- [I -/
def k10 : Class := { plain "[I" (some 0) with kind := .array 9 .int, interfaces := #[3, 4], accessFlags := 1041 }

def heap : Heap := #[{ cls := 2, slots := #[.ref 1], vm := .statics 2 },
  { cls := 8, slots := #[.int 32, .int 9, .int 10, .int 13], vm := .none }]
def classes : Array Class := #[k0, k1, k2, k3, k4, k5, k6, k7, k8, k9, k10]
def interned : List (Array UInt16 × Addr) := []
def slotsUsed : Nat := 5
def theMethod : MethodId := ⟨1, 2⟩
def args0 : Array Value := #[.int 5, .int 6]
def aboutOver (below : List Frame) : State where
  vm := { classes := classes, interned := interned.toArray }
  heap := heap
  slotsUsed := slotsUsed
  threads := #[{ frames := .invoking theMethod args0 :: below }]
def below0 : List Frame := [.native { method := ⟨0, 0⟩, args := #[] }]
def about1 : State := aboutOver below0
def p0 : Program := .bare "" "" ""
def e0 : Env := launch0.env 0 0 0
theorem w_frames : about1.frames = Frame.invoking theMethod args0 :: below0 := rfl
set_option maxRecDepth 65536 in
theorem w_args : argsFit about1.vm theMethod args0 = true := by decide +kernel
set_option maxRecDepth 65536 in
theorem w_heap : heapFits about1 = true := by decide +kernel
set_option maxRecDepth 65536 in
theorem w_runnable : about1.curStatus? = some .runnable := by decide +kernel
set_option maxRecDepth 65536 in
theorem w_alone : about1.alone = true := by decide +kernel
set_option maxRecDepth 65536 in
theorem w_named : about1.methodNamed? x = some theMethod := by decide +kernel
set_option maxRecDepth 65536 in
theorem w_hears : about1.hears theMethod below0 = true := by decide +kernel
set_option maxRecDepth 65536 in
theorem w_ripe : about1.ripe theMethod args0 below0 = true := by decide +kernel
theorem w_running : about1.status = .running := rfl
set_option maxRecDepth 65536 in
theorem w_room : about1.hasRoom e0.platform room_1 = true :=
  launch0.hasRoom_least _ room_1 (by decide +kernel) (by decide +kernel) (by decide +kernel) (by decide +kernel) (by decide +kernel) (by decide +kernel)
theorem allAtoms_all (ts : List Jvm.Cond) (a : Array Jvm.Value) (st : Jvm.State) : (allAtoms ts).before a st = ts.all (fun c => c.before a st) := by
  induction ts with
  | nil => rfl
  | cons c t ih =>
    show (Jvm.Cond.and c (allAtoms t)).before a st = _
    rw [Jvm.Cond.before_and, ih, List.all_cons]
def words1 : List Jvm.Cond := Jvm.Cond.code x code maxLocals ret :: tables_1
/-- a 'code' word, met by the world's own term for the bytes: nothing is compared byte by byte -/
theorem code_word {y : MethodName} {bytes : ByteArray} {mx : Nat} {rt : Option FieldType} {a : Array Value} {s : State} {m : MethodId} {meth : Method} {c : Code} (h1 : s.methodNamed? y = some m) (h2 : s.vm.method? m = some meth) (h3 : meth.code = some c) (h4 : c.code = bytes)
    (h5 : (c.maxLocals == mx && c.exceptionTable.isEmpty && decide (c.maxStack ≤ mostOperands) && decide (meth.sig.returnType = rt) && !meth.locks && decide (parseMethodDescriptor y.desc = some meth.sig)) = true) : (Jvm.Cond.code y bytes mx rt).before a s = true := by
  simp only [Bool.and_eq_true, beq_iff_eq, Bool.not_eq_true', decide_eq_true_eq] at h5
  obtain ⟨⟨⟨⟨⟨g1, g2⟩, g3⟩, g4⟩, g5⟩, g6⟩ := h5
  simp [Cond.before, Cond.holds, Cond.value, h1, h2, h3, h4, g1, g2, g3, g4, g5, g6]
def isCode : Jvm.Cond → Bool
  | .code _ _ _ _ => true
  | _ => false
theorem all_split {L : List Jvm.Cond} {P : Jvm.Cond → Bool} (h1 : L.all (fun c => isCode c || P c) = true) (h2 : ∀ c ∈ L.filter isCode, P c = true) : L.all P = true := by
  refine List.all_eq_true.mpr fun c hc => ?_
  have h := List.all_eq_true.mp h1 c hc
  rcases Bool.eq_false_or_eq_true (isCode c) with hi | hi
  · exact h2 c (List.mem_filter.mpr ⟨hc, hi⟩)
  · simpa [hi] using h
set_option maxRecDepth 65536 in
theorem w_c0 : (Jvm.Cond.code x code maxLocals ret).before args0 about1 = true := code_word (m := ⟨1, 2⟩) (meth := k1m2) (c := k1c2) (by decide +kernel) rfl rfl rfl (by decide +kernel)
set_option maxRecDepth 65536 in
theorem w_c1 : (Jvm.Cond.code ({ cls := "com/example/vigilant_grammar/vigilantgrammar/DtdInput", name := "isSpace", desc := "(I)Z" } : Jvm.MethodName) prog_59_method_24_code (1 : Nat) (Option.some Jvm.ClassFile.FieldType.boolean)).before args0 about1 = true := code_word (m := ⟨2, 0⟩) (meth := k2m0) (c := k2c0) (by decide +kernel) rfl rfl rfl (by decide +kernel)
set_option maxRecDepth 65536 in
theorem w_c2 : (Jvm.Cond.code ({ cls := "com/example/vigilant_grammar/vigilantgrammar/DtdInputIsSpacePinLaw", name := "reference", desc := "(I)Z" } : Jvm.MethodName) method_2_code (1 : Nat) (Option.some Jvm.ClassFile.FieldType.boolean)).before args0 about1 = true := code_word (m := ⟨1, 1⟩) (meth := k1m1) (c := k1c1) (by decide +kernel) rfl rfl rfl (by decide +kernel)
def codes1 : List Jvm.Cond := [Jvm.Cond.code x code maxLocals ret, Jvm.Cond.code ({ cls := "com/example/vigilant_grammar/vigilantgrammar/DtdInput", name := "isSpace", desc := "(I)Z" } : Jvm.MethodName) prog_59_method_24_code (1 : Nat) (Option.some Jvm.ClassFile.FieldType.boolean), Jvm.Cond.code ({ cls := "com/example/vigilant_grammar/vigilantgrammar/DtdInputIsSpacePinLaw", name := "reference", desc := "(I)Z" } : Jvm.MethodName) method_2_code (1 : Nat) (Option.some Jvm.ClassFile.FieldType.boolean)]
set_option maxRecDepth 65536 in
theorem codes_eq : words1.filter isCode = codes1 := rfl
theorem w_codes : ∀ c ∈ words1.filter isCode, c.before args0 about1 = true := by
  rw [codes_eq]
  intro c hc
  simp only [codes1, List.mem_cons, List.not_mem_nil, or_false] at hc
  rcases hc with rfl | rfl | rfl
  · exact w_c0
  · exact w_c1
  · exact w_c2
set_option maxRecDepth 65536 in
theorem w_t1 : words1.all (fun c => isCode c || c.before args0 about1) = true := by decide +kernel
theorem w_tables : (allAtoms (Jvm.Cond.code x code maxLocals ret :: tables_1)).before args0 about1 = true := by
  rw [allAtoms_all]
  show words1.all (fun c => c.before args0 about1) = true
  refine all_split ?_ w_codes
  rw [w_t1]
set_option maxRecDepth 65536 in
theorem w_case : (Jvm.Cond.and given_1 narrow_1).before args0 about1 = true := by decide +kernel
theorem w_applies : (headSpec (Jvm.Cond.code x code maxLocals ret :: tables_1) room_1).applies x e0.platform about1 = true :=
  (Spec.applies_iff w_frames).mpr ⟨w_running, w_runnable, w_alone, w_named, w_hears, w_ripe, w_room, w_tables⟩
theorem atStart : AtStart classFile x code maxLocals ret World_1 tables_1 room_1 Calls_1 rest_1 Pre_1 launch0 p0 e0 about1 theMethod args0 below0 :=
  ⟨lists_1, trivial, launch0.admits_env _ _ _, launch0.least_env, fairChoices_fair.cas, fairChoices_fair.clock, w_frames, w_args, w_heap, w_applies, trivial, trivial, w_case⟩
end start1
theorem witness_1 : WitnessClaimed_1 := ⟨start1.p0, start1.e0, start1.about1, start1.theMethod, start1.args0, start1.below0, start1.atStart⟩
end Jvm.Pilot.@@N@@
