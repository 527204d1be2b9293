import JvmDerived
import JvmDerived.Pilot.@@N@@Statement
import JvmDerived.Pilot.@@N@@Code
set_option linter.unusedVariables false
set_option linter.unusedSimpArgs false
namespace Jvm.RoadKit
open Sem ClassFile Op Lib Jvm.Stand Jvm.Free Jvm.LawKit
section New
variable {p : Program} {l : Launch} {e : Env} {R : Room} {s : State} {m : MethodId} {args : Array Value} {below : List Frame} {meth : Method} {c : Code} {T : State} {locs : List Loc} {cells slots : Nat}
theorem retI (X : Stand p l e R s m args below meth c T locs cells slots) (hx : p.tables.exec = Jvm.exec) {pc : Nat} {Ls : Array Slot} {z : Int32} {rest : List Value} (hret : meth.sig.returnType = some .int) (hd : decode c.code pc = .ok (.ireturn, 1)) {fs : List Frame}
    (hl : ∀ (f : JFrame) (acts : List Action), f.method = m → f.locked = none → f.entered = [] → (doReturn e (T.setTop f) acts (some (.int z))).1 = T.setFrames fs) : Steps p.tables e below (T.setTop (mkF m pc Ls (.int z :: rest))) (T.setFrames fs) := by
  have hm' : T.vm.method? m = some meth := X.method'
  have hn : narrow .int (.int z) = .int z := rfl
  show Steps p.tables e below (T.setTop { method := m, pc := pc, locals := Ls, stack := _ :: rest, locked := none }) _
  jvm_step X.here [X.here.top, hx, hd, hm', hret, hn]
  first | (intro acts; rw [hl _ acts rfl rfl rfl]) | rw [hl _ _ rfl rfl rfl]
  exact Steps.refl _
end New
end Jvm.RoadKit
namespace Jvm.Pilot.@@N@@
open Jvm Jvm.ClassFile Sem Op Lib Jvm.Free Jvm.Stand Jvm.LawKit Jvm.RoadKit Bundle Jvm.Pilot.@@N@@.Jvm.D
abbrev OwnG (tb : Tables) (e : Env) (below : List Frame) (R : State → Outcome → Prop) (cur : State) : Prop := ∃ s₂ o, Steps tb e below cur s₂ ∧ R s₂ o
theorem own_go {tb : Tables} {e : Env} {below : List Frame} {R : State → Outcome → Prop} {cur nxt : State} (h : ∀ t, Steps tb e below nxt t → Steps tb e below cur t) (k : OwnG tb e below R nxt) : OwnG tb e below R cur := by
  obtain ⟨s₂, o, h1, h2⟩ := k
  exact ⟨s₂, o, h _ h1, h2⟩
theorem own_pick {α : Type} (c : Prop) (a b : α) : ∃ z : α, (c → z = a) ∧ (¬ c → z = b) := by
  by_cases h : c
  · exact ⟨a, fun _ => rfl, fun q => absurd h q⟩
  · exact ⟨b, fun q => absurd q h, fun _ => rfl⟩
theorem own_ne_or {a d x n : Nat} (h : x = d ∨ n ≤ x) (h1 : a ≠ d) (h2 : a < n) : a ≠ x := by
  rcases h with h | h <;> omega
theorem own_ge_or {d x n k : Nat} (h : x = d ∨ n ≤ x) (h1 : k ≤ d) (h2 : k ≤ n) : k ≤ x := by
  rcases h with h | h <;> omega
theorem own_in_or {d x n k : Nat} {ws : List Nat} (h : x = d ∨ n ≤ x) (h1 : d ∈ ws) (h2 : k ≤ n) : x ∈ ws ∨ k ≤ x := by
  rcases h with rfl | h
  · exact Or.inl h1
  · exact Or.inr (Nat.le_trans h2 h)
theorem own_iw_or {d x n k : Nat} {ws : List Nat} (h : x = d ∨ n ≤ x) (h1 : d ∈ ws ∨ k ≤ d) (h2 : k ≤ n) : x ∈ ws ∨ k ≤ x := by
  rcases h with rfl | h
  · exact h1
  · exact Or.inr (Nat.le_trans h2 h)
def own_maxL (a b : Int64) : Int64 := if a < b then b else a
def own_took (l h q : Int64) : Int32 := if l - h < q then 0 else 1
def own_held (l h q : Int64) : Int64 := if l - h < q then h else h + q
theorem own_max_ge (y : Int64) : ¬ own_maxL (1 : Int64) y < (1 : Int64) := by
  unfold own_maxL
  split
  · rename_i h; rw [Int64.lt_iff_toInt_lt] at h ⊢; omega
  · decide
theorem own_max_nz (y : Int64) : own_maxL (1 : Int64) y ≠ 0 := fun q => own_max_ge y (by rw [q]; decide)
theorem own_took_eq {l h q : Int64} {z : Int32} (h1 : l - h < q → z = 0) (h0 : ¬ l - h < q → z = 1) : own_took l h q = z := by
  unfold own_took
  split
  · rename_i c; exact (h1 c).symm
  · rename_i c; exact (h0 c).symm
theorem own_took_0 {l h q : Int64} {z : Int64} (h1 : own_took l h q = 0 → z = h) (h0 : ¬ own_took l h q = 0 → z = h + q) : z = own_held l h q := by
  unfold own_held
  split
  · rename_i c; exact h1 (if_pos c)
  · rename_i c; exact h0 (fun e => by rw [own_took, if_neg c] at e; exact absurd e (by decide))
theorem own_sub0 (l : Int64) : l - 0 = l := Int64.sub_zero l
theorem own_succ {r : Int64} (h : ¬ r = (9223372036854775807 : Int64)) : r < r + 1 := by
  have h1 := rng64 r; have h2 := c_ladd r 1; have h3 := rng64 (r + 1)
  have e1 : (1 : Int64).toInt = 1 := rfl
  have h4 : r.toInt ≠ 9223372036854775807 := fun q => h (Int64.toInt_inj.mp q)
  rw [Int64.lt_iff_toInt_lt]; omega
theorem own_fill (l h : Int64) : l = h + (l - h) := by
  apply Int64.toBitVec_inj.mp; simp only [Int64.toBitVec_add, Int64.toBitVec_sub]; rw [BitVec.add_comm, BitVec.sub_add_cancel]
theorem own_irr (r : Int64) : ¬ r < r := by rw [Int64.lt_iff_toInt_lt]; omega
theorem own_ef0 (m : MethodId) (q1 : Int64) (q2 : Int64) : entryFrame m #[(.long q1), (.long q2)] 4 = mkF m 0 #[.val (.long q1), .second, .val (.long q2), .second] [] := by first | (simp [entryFrame, mkF, argsToLocals, Value.category]; done) | rfl
theorem own_d1 : decode jdk_29_method_66_code 0 = .ok (.lload_n 0, 1) := by decide +kernel
theorem own_d2 : decode jdk_29_method_66_code 1 = .ok (.lload_n 2, 1) := by decide +kernel
theorem own_d3 : decode jdk_29_method_66_code 2 = .ok (.lcmp, 1) := by decide +kernel
theorem own_d4 : decode jdk_29_method_66_code 3 = .ok (.ifCond .lt 7, 3) := by decide +kernel
theorem own_d5 : decode jdk_29_method_66_code 10 = .ok (.lload_n 2, 1) := by decide +kernel
theorem own_d6 : decode jdk_29_method_66_code 11 = .ok (.lreturn, 1) := by decide +kernel
theorem own_d7 : decode jdk_29_method_66_code 6 = .ok (.lload_n 0, 1) := by decide +kernel
theorem own_d8 : decode jdk_29_method_66_code 7 = .ok (.goto 4, 3) := by decide +kernel
def Q_own_max (Z : State) (q1 : Int64) (q2 : Int64) (h0 : Heap) (n0 : Nat) (v : Option Value) (h : Heap) (L : List Loc) : Prop := v = some (.long (own_maxL q1 q2)) ∧ Fr n0 L ∧ h = h0
set_option maxRecDepth 65536 in
set_option maxHeartbeats 40000000 in
theorem own_max (l : Launch) (Z : State) (a0 : Array Value) (hw : ∀ d ∈ tables_1, d.before a0 Z = true) (ws : List Jvm.Cond) (q1 : Int64) (q2 : Int64) (h0 : Heap) (n0 : Nat) (Z0 : n0 ≤ h0.size) :
    MetFree l (⟨"java/lang/Math", "max", "(JJ)J"⟩ : MethodName) (head1 (Jvm.Cond.code (⟨"java/lang/Math", "max", "(JJ)J"⟩ : MethodName) jdk_29_method_66_code 4 (some .long) :: ws) ({ frames := 0, cells := 0, slots := 0, locals := 0 } : Room)) (fun a U => a = #[(.long q1), (.long q2)] ∧ Z.Warmed39 U.vm ∧ U.heap = h0) (fun _ _ _ _ _ => True) (fun _ U o U' => ∃ v L, o = .returned v ∧ Q_own_max Z q1 q2 h0 n0 v U'.heap L ∧ FrameEnd U o U' L ({ frames := 0, cells := 0, slots := 0, locals := 0 } : Room).cells ({ frames := 0, cells := 0, slots := 0, locals := 0 } : Room).slots) := by
  refine MetFree.of_bodySF (Jvm.Free.JP.mathPlain rfl (by decide +kernel)) hisR ?_
  intro p e s m args below meth c s₁ Bd hml0 hP hK
  obtain ⟨rfl, hZ, hh⟩ := hP
  have hx := Bd.exec
  have hby := Bd.bytes
  have hml : c.maxLocals = 4 := hml0
  have hown : s.vm.findClass "java/lang/Math" = some m.cls := findClass_of_methodNamed Bd.named
  have hnm := (name_of_methodNamed Bd.named Bd.method).1
  have X0 : Stand p l e ({ frames := 0, cells := 0, slots := 0, locals := 0 } : Room) s m #[(.long q1), (.long q2)] below meth c s₁ [] 0 0 := Stand.of_body Bd
  have e0 : s₁.heap = h0 := by rw [← hh, Bd.state]; rfl
  have N0 := Fr.nil n0
  have K0 := Keep.refl h0 []
  refine own_go (fun t k => castTop (own_ef0 m q1 q2) k) ?_
  show OwnG p.tables e below _ (s₁.setTop (mkF m 0 #[.val (.long q1), .second, .val (.long q2), .second] []))
  refine own_go (fun t k => XS.lloadN X0.here hx rfl (hb hby own_d1) rfl  k) ?_
  show OwnG p.tables e below _ (s₁.setTop (mkF m 1 #[.val (.long q1), .second, .val (.long q2), .second] [(.long q1)]))
  refine own_go (fun t k => XS.lloadN X0.here hx rfl (hb hby own_d2) rfl  k) ?_
  show OwnG p.tables e below _ (s₁.setTop (mkF m 2 #[.val (.long q1), .second, .val (.long q2), .second] [(.long q2), (.long q1)]))
  refine own_go (fun t k => XS.lcmp X0.here hx rfl (hb hby own_d3) rfl k) ?_
  show OwnG p.tables e below _ (s₁.setTop (mkF m 3 #[.val (.long q1), .second, .val (.long q2), .second] [(.int (lcmpW q1 q2))]))
  by_cases hc1 : q1 < q2
  · refine own_go (fun t k => XS.ifYes X0.here hx rfl (pc0 := 3) (pc' := 10) rfl (hb hby own_d4) rfl ((if0 _ _).trans (tlt ((lw_lt _ _).mpr hc1)).1) (by decide) (by decide) k) ?_
    show OwnG p.tables e below _ (s₁.setTop (mkF m 10 #[.val (.long q1), .second, .val (.long q2), .second] []))
    refine own_go (fun t k => XS.lloadN X0.here hx rfl (hb hby own_d5) rfl  k) ?_
    show OwnG p.tables e below _ (s₁.setTop (mkF m 11 #[.val (.long q1), .second, .val (.long q2), .second] [(.long q2)]))
    obtain ⟨fs, hr, hrun, hended, hW, hsame⟩ := X0.leave (v := some (.long q2)) (fun h => by rw [Bd.returns] at h; cases h)
    have hlast : Steps p.tables e below (s₁.setTop (mkF m 11 #[.val (.long q1), .second, .val (.long q2), .second] [(.long q2)])) (s₁.setFrames fs) := by
      exact retOut X0 hx (t := .long) Bd.returns rfl (Or.inr (Or.inl ⟨rfl, rfl, _, rfl⟩)) (hb hby own_d6) hr
    refine ⟨_, _, hlast, hrun, hended, _, _, rfl, ?_, ⟨_, rfl⟩, hW, hsame.mono (by decide) (by decide)⟩
    show Q_own_max Z q1 q2 h0 n0 _ s₁.heap _
    rw [e0]
    exact ⟨by rw [own_maxL, if_pos hc1], N0, rfl⟩
  · refine own_go (fun t k => XS.ifNo X0.here hx rfl (hb hby own_d4) rfl ((if0 _ _).trans (flt (mt (lw_lt _ _).mp hc1)).1) k) ?_
    show OwnG p.tables e below _ (s₁.setTop (mkF m 6 #[.val (.long q1), .second, .val (.long q2), .second] []))
    refine own_go (fun t k => XS.lloadN X0.here hx rfl (hb hby own_d7) rfl  k) ?_
    show OwnG p.tables e below _ (s₁.setTop (mkF m 7 #[.val (.long q1), .second, .val (.long q2), .second] [(.long q1)]))
    refine own_go (fun t k => XS.goto X0.here hx rfl (pc0 := 7) (pc' := 11) rfl (hb hby own_d8) (by decide) (by decide) k) ?_
    show OwnG p.tables e below _ (s₁.setTop (mkF m 11 #[.val (.long q1), .second, .val (.long q2), .second] [(.long q1)]))
    obtain ⟨fs, hr, hrun, hended, hW, hsame⟩ := X0.leave (v := some (.long q1)) (fun h => by rw [Bd.returns] at h; cases h)
    have hlast : Steps p.tables e below (s₁.setTop (mkF m 11 #[.val (.long q1), .second, .val (.long q2), .second] [(.long q1)])) (s₁.setFrames fs) := by
      exact retOut X0 hx (t := .long) Bd.returns rfl (Or.inr (Or.inl ⟨rfl, rfl, _, rfl⟩)) (hb hby own_d6) hr
    refine ⟨_, _, hlast, hrun, hended, _, _, rfl, ?_, ⟨_, rfl⟩, hW, hsame.mono (by decide) (by decide)⟩
    show Q_own_max Z q1 q2 h0 n0 _ s₁.heap _
    rw [e0]
    exact ⟨by rw [own_maxL, if_neg hc1], N0, rfl⟩
theorem own_ef9 (m : MethodId) (a1 : Addr) (q1 : Int64) : entryFrame m #[(.ref a1), (.long q1)] 3 = mkF m 0 #[.val (.ref a1), .val (.long q1), .second] [] := by first | (simp [entryFrame, mkF, argsToLocals, Value.category]; done) | rfl
theorem own_pn10 : plainName "com/example/offst/offst/group/MemberBytes" = true := by first | (simp [plainName, overriddenIn]; done) | decide +kernel
theorem own_d11 : decode prog_27_method_1_code 0 = .ok (.aload_n 0, 1) := by decide +kernel
theorem own_d12 : decode prog_27_method_1_code 1 = .ok (.invokespecial 1, 3) := by decide +kernel
theorem own_d13 : decode prog_27_method_1_code 4 = .ok (.lload_n 1, 1) := by decide +kernel
theorem own_d14 : decode prog_27_method_1_code 5 = .ok (.lconst 1, 1) := by decide +kernel
theorem own_d15 : decode prog_27_method_1_code 6 = .ok (.lcmp, 1) := by decide +kernel
theorem own_d16 : decode prog_27_method_1_code 7 = .ok (.ifCond .ge 17, 3) := by decide +kernel
theorem own_d17 : decode prog_27_method_1_code 24 = .ok (.aload_n 0, 1) := by decide +kernel
theorem own_d18 : decode prog_27_method_1_code 25 = .ok (.lload_n 1, 1) := by decide +kernel
theorem own_d19 : decode prog_27_method_1_code 26 = .ok (.putfield 16, 3) := by decide +kernel
theorem own_d20 : decode prog_27_method_1_code 29 = .ok (.return_, 1) := by decide +kernel
def Q_own_init (Z : State) (a1 : Addr) (q1 : Int64) (h0 : Heap) (n0 : Nat) (v : Option Value) (h : Heap) (L : List Loc) : Prop := v = none ∧ Fr n0 L ∧ Keep h0 h [a1] ∧ Exa Z h a1 "com/example/offst/offst/group/MemberBytes" ∧ Fld Z h a1 "com/example/offst/offst/group/MemberBytes" "limit" "J" (.long q1) ∧ Fld Z h a1 "com/example/offst/offst/group/MemberBytes" "held" "J" (.long (0 : Int64))
set_option maxRecDepth 65536 in
set_option maxHeartbeats 40000000 in
theorem own_init (l : Launch) (Z : State) (a0 : Array Value) (hw : ∀ d ∈ tables_1, d.before a0 Z = true) (ws : List Jvm.Cond) (a1 : Addr) (q1 : Int64) (h0 : Heap) (n0 : Nat) (Z0 : n0 ≤ h0.size) (f0_0 : Exa Z h0 a1 "com/example/offst/offst/group/MemberBytes") (f0_1 : Fld Z h0 a1 "com/example/offst/offst/group/MemberBytes" "limit" "J" (.long (0 : Int64))) (f0_2 : Fld Z h0 a1 "com/example/offst/offst/group/MemberBytes" "held" "J" (.long (0 : Int64))) (g_a1 : n0 ≤ a1) (hq : ¬ q1 < (1 : Int64)) :
    MetFree l (⟨"com/example/offst/offst/group/MemberBytes", "<init>", "(J)V"⟩ : MethodName) (head1 (Jvm.Cond.code (⟨"com/example/offst/offst/group/MemberBytes", "<init>", "(J)V"⟩ : MethodName) prog_27_method_1_code 3 none :: ws) ({ frames := 1, cells := 0, slots := 0, locals := 12 } : Room)) (fun a U => a = #[(.ref a1), (.long q1)] ∧ Z.Warmed39 U.vm ∧ U.heap = h0) (fun _ _ _ _ _ => True) (fun _ U o U' => ∃ v L, o = .returned v ∧ Q_own_init Z a1 q1 h0 n0 v U'.heap L ∧ FrameEnd U o U' L ({ frames := 1, cells := 0, slots := 0, locals := 12 } : Room).cells ({ frames := 1, cells := 0, slots := 0, locals := 12 } : Room).slots) := by
  refine MetFree.of_bodySF (plainFor_of_name own_pn10) hisR ?_
  intro p e s m args below meth c s₁ Bd hml0 hP hK
  obtain ⟨rfl, hZ, hh⟩ := hP
  have hx := Bd.exec
  have hby := Bd.bytes
  have hml : c.maxLocals = 3 := hml0
  have hown : s.vm.findClass "com/example/offst/offst/group/MemberBytes" = some m.cls := findClass_of_methodNamed Bd.named
  have hnm := (name_of_methodNamed Bd.named Bd.method).1
  have X0 : Stand p l e ({ frames := 1, cells := 0, slots := 0, locals := 12 } : Room) s m #[(.ref a1), (.long q1)] below meth c s₁ [] 0 0 := Stand.of_body Bd
  have e0 : s₁.heap = h0 := by rw [← hh, Bd.state]; rfl
  have N0 := Fr.nil n0
  have K0 := Keep.refl h0 [a1]
  refine own_go (fun t k => castTop (own_ef9 m a1 q1) k) ?_
  show OwnG p.tables e below _ (s₁.setTop (mkF m 0 #[.val (.ref a1), .val (.long q1), .second] []))
  refine own_go (fun t k => XS.aloadN X0.here hx rfl (hb hby own_d11) rfl rfl k) ?_
  show OwnG p.tables e below _ (s₁.setTop (mkF m 1 #[.val (.ref a1), .val (.long q1), .second] [(.ref a1)]))
  obtain ⟨T1, X1, e1, st1⟩ := initO X0 hx hZ hown (hw _ (List.mem_of_getElem? (i := 11) rfl)) (hw _ (List.mem_of_getElem? (i := 12) rfl)) (hw _ (List.mem_of_getElem? (i := 13) rfl)) e0 (g := (mkF m 1 #[.val (.ref a1), .val (.long q1), .second] [(.ref a1)])) rfl (by rw [hml]; rfl) rfl (hb hby own_d12) (by decide) (W := 0) (by show 2 * 0 + _ ≤ _; exact Nat.le_of_eq rfl) (by decide)
  refine own_go (fun t k => st1 t k) ?_
  show OwnG p.tables e below _ (T1.setTop (mkF m 4 #[.val (.ref a1), .val (.long q1), .second] []))
  refine own_go (fun t k => XS.lloadN X1.here hx rfl (hb hby own_d13) rfl  k) ?_
  show OwnG p.tables e below _ (T1.setTop (mkF m 5 #[.val (.ref a1), .val (.long q1), .second] [(.long q1)]))
  refine own_go (fun t k => XS.lconst X1.here hx rfl (hb hby own_d14) k) ?_
  show OwnG p.tables e below _ (T1.setTop (mkF m 6 #[.val (.ref a1), .val (.long q1), .second] [(.long (1 : Int64)), (.long q1)]))
  refine own_go (fun t k => XS.lcmp X1.here hx rfl (hb hby own_d15) rfl k) ?_
  show OwnG p.tables e below _ (T1.setTop (mkF m 7 #[.val (.ref a1), .val (.long q1), .second] [(.int (lcmpW q1 (1 : Int64)))]))
  refine own_go (fun t k => XS.ifYes X1.here hx rfl (pc0 := 7) (pc' := 24) rfl (hb hby own_d16) rfl ((if0 _ _).trans (flt (mt (lw_lt _ _).mp hq)).2.1) (by decide) (by decide) k) ?_
  show OwnG p.tables e below _ (T1.setTop (mkF m 24 #[.val (.ref a1), .val (.long q1), .second] []))
  refine own_go (fun t k => XS.aloadN X1.here hx rfl (hb hby own_d17) rfl rfl k) ?_
  show OwnG p.tables e below _ (T1.setTop (mkF m 25 #[.val (.ref a1), .val (.long q1), .second] [(.ref a1)]))
  refine own_go (fun t k => XS.lloadN X1.here hx rfl (hb hby own_d18) rfl  k) ?_
  show OwnG p.tables e below _ (T1.setTop (mkF m 26 #[.val (.ref a1), .val (.long q1), .second] [(.long q1), (.ref a1)]))
  obtain ⟨T2, h2, X2, e2, W2, st2⟩ := putF X1 hx hZ hown (host := "") (Or.inl (hw _ (List.mem_of_getElem? (i := 14) rfl))) Via.refl e1 f0_1 f0_0 (Or.inr ⟨(hw _ (List.mem_of_getElem? (i := 15) rfl)), rfl, hnm⟩) (hw _ (List.mem_of_getElem? (i := 6) rfl)) (ty := .long) (by decide) rfl rfl (g := (mkF m 26 #[.val (.ref a1), .val (.long q1), .second] [(.long q1), (.ref a1)])) rfl rfl (hb hby own_d19)
  have F3 : Exa Z h2 a1 "com/example/offst/offst/group/MemberBytes" := f0_0.wr W2
  have F4 : Fld Z h2 a1 "com/example/offst/offst/group/MemberBytes" "limit" "J" (.long q1) := f0_1.same W2
  have F5 : Fld Z h2 a1 "com/example/offst/offst/group/MemberBytes" "held" "J" (.long (0 : Int64)) := f0_2.other W2 (Or.inr (slot_ne (Or.inl (hw _ (List.mem_of_getElem? (i := 22) rfl))) (Or.inr (hw _ (List.mem_of_getElem? (i := 15) rfl))) (by decide) (t := .long) (t' := .long) (by decide) (by decide)))
  have N6 := Fr.snoc X2 N0 g_a1
  have K6 : Keep h0 h2 [a1] := K0.wr W2 (Or.inl (List.mem_of_getElem? (i := 0) rfl))
  have Z6 : n0 ≤ h2.size := Nat.le_trans Z0 (Keep.of_wr W2).1
  refine own_go (fun t k => st2 t k) ?_
  show OwnG p.tables e below _ (T2.setTop (mkF m 29 #[.val (.ref a1), .val (.long q1), .second] []))
  obtain ⟨fs, hr, hrun, hended, hW, hsame⟩ := X2.leave (v := none) (fun _ => rfl)
  refine ⟨_, _, X2.returnOut hx Bd.returns (hb hby own_d20) hr, hrun, hended, _, _, rfl, ?_, ⟨_, rfl⟩, hW, hsame.mono (by decide) (by decide)⟩
  show Q_own_init Z a1 q1 h0 n0 _ T2.heap _
  rw [e2]
  exact ⟨rfl, N6, K6, F3, F4, F5⟩
theorem own_ef21 (m : MethodId) (a1 : Addr) (q1 : Int64) : entryFrame m #[(.ref a1), (.long q1)] 3 = mkF m 0 #[.val (.ref a1), .val (.long q1), .second] [] := by first | (simp [entryFrame, mkF, argsToLocals, Value.category]; done) | rfl
theorem own_d22 : decode prog_27_method_3_code 0 = .ok (.lload_n 1, 1) := by decide +kernel
theorem own_d23 : decode prog_27_method_3_code 1 = .ok (.aload_n 0, 1) := by decide +kernel
theorem own_d24 : decode prog_27_method_3_code 2 = .ok (.getfield 16, 3) := by decide +kernel
theorem own_d25 : decode prog_27_method_3_code 5 = .ok (.aload_n 0, 1) := by decide +kernel
theorem own_d26 : decode prog_27_method_3_code 6 = .ok (.getfield 32, 3) := by decide +kernel
theorem own_d27 : decode prog_27_method_3_code 9 = .ok (.lsub, 1) := by decide +kernel
theorem own_d28 : decode prog_27_method_3_code 10 = .ok (.lcmp, 1) := by decide +kernel
theorem own_d29 : decode prog_27_method_3_code 11 = .ok (.ifCond .le 5, 3) := by decide +kernel
theorem own_d30 : decode prog_27_method_3_code 14 = .ok (.iconst 0, 1) := by decide +kernel
theorem own_d31 : decode prog_27_method_3_code 15 = .ok (.ireturn, 1) := by decide +kernel
theorem own_d32 : decode prog_27_method_3_code 16 = .ok (.aload_n 0, 1) := by decide +kernel
theorem own_d33 : decode prog_27_method_3_code 17 = .ok (.dup, 1) := by decide +kernel
theorem own_d34 : decode prog_27_method_3_code 18 = .ok (.getfield 32, 3) := by decide +kernel
theorem own_d35 : decode prog_27_method_3_code 21 = .ok (.lload_n 1, 1) := by decide +kernel
theorem own_d36 : decode prog_27_method_3_code 22 = .ok (.ladd, 1) := by decide +kernel
theorem own_d37 : decode prog_27_method_3_code 23 = .ok (.putfield 32, 3) := by decide +kernel
theorem own_d38 : decode prog_27_method_3_code 26 = .ok (.iconst 1, 1) := by decide +kernel
theorem own_d39 : decode prog_27_method_3_code 27 = .ok (.ireturn, 1) := by decide +kernel
def Q_own_take (Z : State) (a1 : Addr) (q1 : Int64) (lm : Int64) (hd : Int64) (h0 : Heap) (n0 : Nat) (v : Option Value) (h : Heap) (L : List Loc) : Prop := v = some (.int (own_took lm hd q1)) ∧ Fr n0 L ∧ Keep h0 h [a1] ∧ Exa Z h a1 "com/example/offst/offst/group/MemberBytes" ∧ Fld Z h a1 "com/example/offst/offst/group/MemberBytes" "limit" "J" (.long lm) ∧ Fld Z h a1 "com/example/offst/offst/group/MemberBytes" "held" "J" (.long (own_held lm hd q1))
set_option maxRecDepth 65536 in
set_option maxHeartbeats 40000000 in
theorem own_take (l : Launch) (Z : State) (a0 : Array Value) (hw : ∀ d ∈ tables_1, d.before a0 Z = true) (ws : List Jvm.Cond) (a1 : Addr) (q1 : Int64) (lm : Int64) (hd : Int64) (h0 : Heap) (n0 : Nat) (Z0 : n0 ≤ h0.size) (f0_0 : Exa Z h0 a1 "com/example/offst/offst/group/MemberBytes") (f0_1 : Fld Z h0 a1 "com/example/offst/offst/group/MemberBytes" "limit" "J" (.long lm)) (f0_2 : Fld Z h0 a1 "com/example/offst/offst/group/MemberBytes" "held" "J" (.long hd)) (g_a1 : n0 ≤ a1) :
    MetFree l (⟨"com/example/offst/offst/group/MemberBytes", "take", "(J)Z"⟩ : MethodName) (head1 (Jvm.Cond.code (⟨"com/example/offst/offst/group/MemberBytes", "take", "(J)Z"⟩ : MethodName) prog_27_method_3_code 3 (some .boolean) :: ws) ({ frames := 0, cells := 0, slots := 0, locals := 0 } : Room)) (fun a U => a = #[(.ref a1), (.long q1)] ∧ Z.Warmed39 U.vm ∧ U.heap = h0) (fun _ _ _ _ _ => True) (fun _ U o U' => ∃ v L, o = .returned v ∧ Q_own_take Z a1 q1 lm hd h0 n0 v U'.heap L ∧ FrameEnd U o U' L ({ frames := 0, cells := 0, slots := 0, locals := 0 } : Room).cells ({ frames := 0, cells := 0, slots := 0, locals := 0 } : Room).slots) := by
  refine MetFree.of_bodySF (plainFor_of_name own_pn10) hisR ?_
  intro p e s m args below meth c s₁ Bd hml0 hP hK
  obtain ⟨rfl, hZ, hh⟩ := hP
  have hx := Bd.exec
  have hby := Bd.bytes
  have hml : c.maxLocals = 3 := hml0
  have hown : s.vm.findClass "com/example/offst/offst/group/MemberBytes" = some m.cls := findClass_of_methodNamed Bd.named
  have hnm := (name_of_methodNamed Bd.named Bd.method).1
  have X0 : Stand p l e ({ frames := 0, cells := 0, slots := 0, locals := 0 } : Room) s m #[(.ref a1), (.long q1)] below meth c s₁ [] 0 0 := Stand.of_body Bd
  have e0 : s₁.heap = h0 := by rw [← hh, Bd.state]; rfl
  have N0 := Fr.nil n0
  have K0 := Keep.refl h0 [a1]
  refine own_go (fun t k => castTop (own_ef21 m a1 q1) k) ?_
  show OwnG p.tables e below _ (s₁.setTop (mkF m 0 #[.val (.ref a1), .val (.long q1), .second] []))
  refine own_go (fun t k => XS.lloadN X0.here hx rfl (hb hby own_d22) rfl  k) ?_
  show OwnG p.tables e below _ (s₁.setTop (mkF m 1 #[.val (.ref a1), .val (.long q1), .second] [(.long q1)]))
  refine own_go (fun t k => XS.aloadN X0.here hx rfl (hb hby own_d23) rfl rfl k) ?_
  show OwnG p.tables e below _ (s₁.setTop (mkF m 2 #[.val (.ref a1), .val (.long q1), .second] [(.ref a1), (.long q1)]))
  obtain ⟨T1, X1, e1, st1⟩ := getF X0 hx hZ hown (host := "") (Or.inl (hw _ (List.mem_of_getElem? (i := 14) rfl))) Via.refl e0 f0_1 (g := (mkF m 2 #[.val (.ref a1), .val (.long q1), .second] [(.ref a1), (.long q1)])) rfl rfl (hb hby own_d24)
  refine own_go (fun t k => st1 t k) ?_
  show OwnG p.tables e below _ (T1.setTop (mkF m 5 #[.val (.ref a1), .val (.long q1), .second] [(.long lm), (.long q1)]))
  refine own_go (fun t k => XS.aloadN X1.here hx rfl (hb hby own_d25) rfl rfl k) ?_
  show OwnG p.tables e below _ (T1.setTop (mkF m 6 #[.val (.ref a1), .val (.long q1), .second] [(.ref a1), (.long lm), (.long q1)]))
  obtain ⟨T2, X2, e2, st2⟩ := getF X1 hx hZ hown (host := "") (Or.inl (hw _ (List.mem_of_getElem? (i := 21) rfl))) Via.refl e1 f0_2 (g := (mkF m 6 #[.val (.ref a1), .val (.long q1), .second] [(.ref a1), (.long lm), (.long q1)])) rfl rfl (hb hby own_d26)
  refine own_go (fun t k => st2 t k) ?_
  show OwnG p.tables e below _ (T2.setTop (mkF m 9 #[.val (.ref a1), .val (.long q1), .second] [(.long hd), (.long lm), (.long q1)]))
  refine own_go (fun t k => XS.lsub X2.here hx rfl (hb hby own_d27) rfl k) ?_
  show OwnG p.tables e below _ (T2.setTop (mkF m 10 #[.val (.ref a1), .val (.long q1), .second] [(.long (lm - hd)), (.long q1)]))
  refine own_go (fun t k => XS.lcmp X2.here hx rfl (hb hby own_d28) rfl k) ?_
  show OwnG p.tables e below _ (T2.setTop (mkF m 11 #[.val (.ref a1), .val (.long q1), .second] [(.int (lcmpW q1 (lm - hd)))]))
  by_cases hc3 : (lm - hd) < q1
  · refine own_go (fun t k => XS.ifNo X2.here hx rfl (hb hby own_d29) rfl ((if0 _ _).trans (tlt ((lw_gt _ _).mpr hc3)).2.2.2) k) ?_
    show OwnG p.tables e below _ (T2.setTop (mkF m 14 #[.val (.ref a1), .val (.long q1), .second] []))
    refine own_go (fun t k => XS.iconst X2.here hx rfl (hb hby own_d30) k) ?_
    show OwnG p.tables e below _ (T2.setTop (mkF m 15 #[.val (.ref a1), .val (.long q1), .second] [(.int (0 : Int32))]))
    have F4 : Fld Z h0 a1 "com/example/offst/offst/group/MemberBytes" "held" "J" (.long (own_held lm hd q1)) := by rw [own_held, if_pos hc3]; exact f0_2
    obtain ⟨fs, hr, hrun, hended, hW, hsame⟩ := X2.leave (v := some (.int (0 : Int32))) (fun h => by rw [Bd.returns] at h; cases h)
    refine ⟨_, _, retN X2 hx (t := .boolean) Bd.returns (by simp) (hb hby own_d31) hr, hrun, hended, _, _, rfl, ?_, ⟨_, rfl⟩, hW, hsame.mono (by decide) (by decide)⟩
    show Q_own_take Z a1 q1 lm hd h0 n0 _ T2.heap _
    rw [e2]
    exact ⟨by rw [own_took, if_pos hc3], N0, K0, f0_0, f0_1, F4⟩
  · refine own_go (fun t k => XS.ifYes X2.here hx rfl (pc0 := 11) (pc' := 16) rfl (hb hby own_d29) rfl ((if0 _ _).trans (flt (mt (lw_gt _ _).mp hc3)).2.2.2) (by decide) (by decide) k) ?_
    show OwnG p.tables e below _ (T2.setTop (mkF m 16 #[.val (.ref a1), .val (.long q1), .second] []))
    refine own_go (fun t k => XS.aloadN X2.here hx rfl (hb hby own_d32) rfl rfl k) ?_
    show OwnG p.tables e below _ (T2.setTop (mkF m 17 #[.val (.ref a1), .val (.long q1), .second] [(.ref a1)]))
    refine own_go (fun t k => XS.dup X2.here hx rfl (hb hby own_d33) rfl rfl k) ?_
    show OwnG p.tables e below _ (T2.setTop (mkF m 18 #[.val (.ref a1), .val (.long q1), .second] [(.ref a1), (.ref a1)]))
    obtain ⟨T5, X5, e5, st5⟩ := getF X2 hx hZ hown (host := "") (Or.inl (hw _ (List.mem_of_getElem? (i := 21) rfl))) Via.refl e2 f0_2 (g := (mkF m 18 #[.val (.ref a1), .val (.long q1), .second] [(.ref a1), (.ref a1)])) rfl rfl (hb hby own_d34)
    refine own_go (fun t k => st5 t k) ?_
    show OwnG p.tables e below _ (T5.setTop (mkF m 21 #[.val (.ref a1), .val (.long q1), .second] [(.long hd), (.ref a1)]))
    refine own_go (fun t k => XS.lloadN X5.here hx rfl (hb hby own_d35) rfl  k) ?_
    show OwnG p.tables e below _ (T5.setTop (mkF m 22 #[.val (.ref a1), .val (.long q1), .second] [(.long q1), (.long hd), (.ref a1)]))
    refine own_go (fun t k => XS.ladd X5.here hx rfl (hb hby own_d36) rfl k) ?_
    show OwnG p.tables e below _ (T5.setTop (mkF m 23 #[.val (.ref a1), .val (.long q1), .second] [(.long (hd + q1)), (.ref a1)]))
    obtain ⟨T6, h6, X6, e6, W6, st6⟩ := putF X5 hx hZ hown (host := "") (Or.inl (hw _ (List.mem_of_getElem? (i := 21) rfl))) Via.refl e5 f0_2 f0_0 (Or.inl (hw _ (List.mem_of_getElem? (i := 22) rfl))) (hw _ (List.mem_of_getElem? (i := 6) rfl)) (ty := .long) (by decide) rfl rfl (g := (mkF m 23 #[.val (.ref a1), .val (.long q1), .second] [(.long (hd + q1)), (.ref a1)])) rfl rfl (hb hby own_d37)
    have F7 : Exa Z h6 a1 "com/example/offst/offst/group/MemberBytes" := f0_0.wr W6
    have F8 : Fld Z h6 a1 "com/example/offst/offst/group/MemberBytes" "limit" "J" (.long lm) := f0_1.other W6 (Or.inr (slot_ne (Or.inr (hw _ (List.mem_of_getElem? (i := 15) rfl))) (Or.inl (hw _ (List.mem_of_getElem? (i := 22) rfl))) (by decide) (t := .long) (t' := .long) (by decide) (by decide)))
    have F9 : Fld Z h6 a1 "com/example/offst/offst/group/MemberBytes" "held" "J" (.long (hd + q1)) := f0_2.same W6
    have N10 := Fr.snoc X6 N0 g_a1
    have K10 : Keep h0 h6 [a1] := K0.wr W6 (Or.inl (List.mem_of_getElem? (i := 0) rfl))
    have Z10 : n0 ≤ h6.size := Nat.le_trans Z0 (Keep.of_wr W6).1
    refine own_go (fun t k => st6 t k) ?_
    show OwnG p.tables e below _ (T6.setTop (mkF m 26 #[.val (.ref a1), .val (.long q1), .second] []))
    refine own_go (fun t k => XS.iconst X6.here hx rfl (hb hby own_d38) k) ?_
    show OwnG p.tables e below _ (T6.setTop (mkF m 27 #[.val (.ref a1), .val (.long q1), .second] [(.int (1 : Int32))]))
    have F11 : Fld Z h6 a1 "com/example/offst/offst/group/MemberBytes" "held" "J" (.long (own_held lm hd q1)) := by rw [own_held, if_neg hc3]; exact F9
    obtain ⟨fs, hr, hrun, hended, hW, hsame⟩ := X6.leave (v := some (.int (1 : Int32))) (fun h => by rw [Bd.returns] at h; cases h)
    refine ⟨_, _, retN X6 hx (t := .boolean) Bd.returns (by simp) (hb hby own_d39) hr, hrun, hended, _, _, rfl, ?_, ⟨_, rfl⟩, hW, hsame.mono (by decide) (by decide)⟩
    show Q_own_take Z a1 q1 lm hd h0 n0 _ T6.heap _
    rw [e6]
    exact ⟨by rw [own_took, if_neg hc3], N10, K10, F7, F8, F11⟩
theorem own_ef40 (m : MethodId) (p0 : Int64) (p1 : Int64) (p2 : Int64) (p3 : Int32) : entryFrame m #[(.long p0), (.long p1), (.long p2), (.int p3)] maxLocals = mkF m 0 #[.val (.long p0), .second, .val (.long p1), .second, .val (.long p2), .second, .val (.int p3), .unset, .unset, .unset, .unset, .unset, .unset, .unset, .unset, .unset, .unset, .unset, .unset, .unset, .unset, .unset, .unset, .unset, .unset, .unset, .unset] [] := by first | (simp [entryFrame, mkF, argsToLocals, Value.category, maxLocals]; done) | rfl
theorem own_pn41 : plainName "com/example/offst/offst/group/MemberBytesTakePinLaw" = true := by first | (simp [plainName, overriddenIn]; done) | decide +kernel
theorem own_pd42 : parseMethodDescriptor "(JJ)J" = some ⟨[.long, .long], some .long⟩ := by decide +kernel
theorem own_pd43 : parseMethodDescriptor "(J)V" = some ⟨[.long], none⟩ := by decide +kernel
theorem own_pd44 : parseMethodDescriptor "(J)Z" = some ⟨[.long], some .boolean⟩ := by decide +kernel
def Q_own_law (Z : State) (p0 : Int64) (p1 : Int64) (p2 : Int64) (p3 : Int32) (h0 : Heap) (n0 : Nat) (v : Option Value) (h : Heap) (L : List Loc) : Prop := v = some (.int (1 : Int32)) ∧ Fr n0 L
set_option maxRecDepth 65536 in
set_option maxHeartbeats 40000000 in
theorem own_law (l : Launch) (Z : State) (a0 : Array Value) (hw : ∀ d ∈ tables_1, d.before a0 Z = true) (ws : List Jvm.Cond) (p0 : Int64) (p1 : Int64) (p2 : Int64) (p3 : Int32) (h0 : Heap) (n0 : Nat) (Z0 : n0 ≤ h0.size) :
    MetFree l x (head1 (Jvm.Cond.code x code maxLocals ret :: ws) room_1) (fun a U => a = #[(.long p0), (.long p1), (.long p2), (.int p3)] ∧ Z.Warmed39 U.vm ∧ U.heap = h0) (fun _ _ _ _ _ => True) (fun _ U o U' => ∃ v L, o = .returned v ∧ Q_own_law Z p0 p1 p2 p3 h0 n0 v U'.heap L ∧ FrameEnd U o U' L room_1.cells room_1.slots) := by
  refine MetFree.of_bodySF (plainFor_of_name own_pn41) hisR ?_
  intro p e s m args below meth c s₁ Bd hml0 hP hK
  obtain ⟨rfl, hZ, hh⟩ := hP
  have hx := Bd.exec
  have hby := Bd.bytes
  have hml : c.maxLocals = 27 := hml0
  have hown : s.vm.findClass "com/example/offst/offst/group/MemberBytesTakePinLaw" = some m.cls := findClass_of_methodNamed Bd.named
  have hnm := (name_of_methodNamed Bd.named Bd.method).1
  have X0 : Stand p l e room_1 s m #[(.long p0), (.long p1), (.long p2), (.int p3)] below meth c s₁ [] 0 0 := Stand.of_body Bd
  have e0 : s₁.heap = h0 := by rw [← hh, Bd.state]; rfl
  have N0 := Fr.nil n0
  have K0 := Keep.refl h0 []
  refine own_go (fun t k => castTop (own_ef40 m p0 p1 p2 p3) k) ?_
  show OwnG p.tables e below _ (s₁.setTop (mkF m 0 #[.val (.long p0), .second, .val (.long p1), .second, .val (.long p2), .second, .val (.int p3), .unset, .unset, .unset, .unset, .unset, .unset, .unset, .unset, .unset, .unset, .unset, .unset, .unset, .unset, .unset, .unset, .unset, .unset, .unset, .unset] []))
  refine own_go (fun t k => XS.lconst X0.here hx rfl (hb hby at_0) k) ?_
  show OwnG p.tables e below _ (s₁.setTop (mkF m 1 #[.val (.long p0), .second, .val (.long p1), .second, .val (.long p2), .second, .val (.int p3), .unset, .unset, .unset, .unset, .unset, .unset, .unset, .unset, .unset, .unset, .unset, .unset, .unset, .unset, .unset, .unset, .unset, .unset, .unset, .unset] [(.long (1 : Int64))]))
  refine own_go (fun t k => XS.lloadN X0.here hx rfl (hb hby at_1) rfl  k) ?_
  show OwnG p.tables e below _ (s₁.setTop (mkF m 2 #[.val (.long p0), .second, .val (.long p1), .second, .val (.long p2), .second, .val (.int p3), .unset, .unset, .unset, .unset, .unset, .unset, .unset, .unset, .unset, .unset, .unset, .unset, .unset, .unset, .unset, .unset, .unset, .unset, .unset, .unset] [(.long p0), (.long (1 : Int64))]))
  refine own_go (fun t k => (X0.ldc2Long hx hown (mvT hZ (hw _ (List.mem_of_getElem? (i := 0) rfl))) (g := (mkF m 2 #[.val (.long p0), .second, .val (.long p1), .second, .val (.long p2), .second, .val (.int p3), .unset, .unset, .unset, .unset, .unset, .unset, .unset, .unset, .unset, .unset, .unset, .unset, .unset, .unset, .unset, .unset, .unset, .unset, .unset, .unset] [(.long p0), (.long (1 : Int64))])) rfl (hb hby at_2)) t k) ?_
  show OwnG p.tables e below _ (s₁.setTop (mkF m 5 #[.val (.long p0), .second, .val (.long p1), .second, .val (.long p2), .second, .val (.int p3), .unset, .unset, .unset, .unset, .unset, .unset, .unset, .unset, .unset, .unset, .unset, .unset, .unset, .unset, .unset, .unset, .unset, .unset, .unset, .unset] [(.long (9223372036854775807 : Int64)), (.long p0), (.long (1 : Int64))]))
  refine own_go (fun t k => XS.land X0.here hx rfl (hb hby at_5) rfl k) ?_
  show OwnG p.tables e below _ (s₁.setTop (mkF m 6 #[.val (.long p0), .second, .val (.long p1), .second, .val (.long p2), .second, .val (.int p3), .unset, .unset, .unset, .unset, .unset, .unset, .unset, .unset, .unset, .unset, .unset, .unset, .unset, .unset, .unset, .unset, .unset, .unset, .unset, .unset] [(.long (p0 &&& (9223372036854775807 : Int64))), (.long (1 : Int64))]))
  obtain ⟨_, _, ⟨T1, L1, k1, n1⟩, -, X1, ⟨Lc1, hQ1, l1, y1, z1⟩, st1⟩ := Jvm.LawKit.callS X0 hx (y := (⟨"java/lang/Math", "max", "(JJ)J"⟩ : MethodName)) hown (mvT hZ (hw _ (List.mem_of_getElem? (i := 1) rfl))) (mvT hZ (hw _ (List.mem_of_getElem? (i := 2) rfl))) (mvT hZ (hw _ (List.mem_of_getElem? (i := 3) rfl))) (mvT hZ (hw _ (List.mem_of_getElem? (i := 4) rfl))) (by decide) (backOf (W := 0) (own_max l Z a0 hw [] (1 : Int64) (p0 &&& (9223372036854775807 : Int64)) h0 n0 Z0) hZ (hw _ (List.mem_of_getElem? (i := 4) rfl)) (hw _ (List.mem_of_getElem? (i := 3) rfl)) (by decide) (by decide)) (g := (mkF m 6 #[.val (.long p0), .second, .val (.long p1), .second, .val (.long p2), .second, .val (.int p3), .unset, .unset, .unset, .unset, .unset, .unset, .unset, .unset, .unset, .unset, .unset, .unset, .unset, .unset, .unset, .unset, .unset, .unset, .unset, .unset] [(.long (p0 &&& (9223372036854775807 : Int64))), (.long (1 : Int64))])) rfl (by rw [hml]; rfl) (argsL := [(.long (1 : Int64)), (.long (p0 &&& (9223372036854775807 : Int64)))]) (rest := []) (lenOf own_pd42 rfl) rfl (by show 2 * 0 + _ ≤ _; exact Nat.le_of_eq rfl) (hb hby at_6) (fun _ _ => ⟨rfl, e0, (by decide : 0 + 0 ≤ _), (by decide : 0 + 0 ≤ _)⟩)
  dsimp only [Pt.U, Pt.locs, Pt.cells, Pt.slots] at X1 l1 y1 z1 st1 hQ1
  subst l1 y1 z1
  obtain ⟨rfl, Nq1, eq1⟩ := hQ1
  have N1 := Fr.app N0 Nq1
  have e1 : T1.heap = h0 := eq1
  refine own_go (fun t k => st1 t k) ?_
  show OwnG p.tables e below _ (T1.setTop (mkF m 9 #[.val (.long p0), .second, .val (.long p1), .second, .val (.long p2), .second, .val (.int p3), .unset, .unset, .unset, .unset, .unset, .unset, .unset, .unset, .unset, .unset, .unset, .unset, .unset, .unset, .unset, .unset, .unset, .unset, .unset, .unset] [(.long (own_maxL (1 : Int64) (p0 &&& (9223372036854775807 : Int64))))]))
  have hge : ¬ (own_maxL (1 : Int64) (p0 &&& (9223372036854775807 : Int64))) < (1 : Int64) := own_max_ge _
  have hnz : (own_maxL (1 : Int64) (p0 &&& (9223372036854775807 : Int64))) ≠ 0 := own_max_nz _
  obtain ⟨lm, h_lm⟩ : ∃ z, z = (own_maxL (1 : Int64) (p0 &&& (9223372036854775807 : Int64))) := ⟨_, rfl⟩
  rw [← h_lm]
  show OwnG p.tables e below _ (T1.setTop (mkF m 9 #[.val (.long p0), .second, .val (.long p1), .second, .val (.long p2), .second, .val (.int p3), .unset, .unset, .unset, .unset, .unset, .unset, .unset, .unset, .unset, .unset, .unset, .unset, .unset, .unset, .unset, .unset, .unset, .unset, .unset, .unset] [(.long lm)]))
  rw [← h_lm] at hge hnz
  refine own_go (fun t k => XS.lstore X1.here hx rfl (hb hby at_9) rfl (l' := #[.val (.long p0), .second, .val (.long p1), .second, .val (.long p2), .second, .val (.int p3), .val (.long lm), .second, .unset, .unset, .unset, .unset, .unset, .unset, .unset, .unset, .unset, .unset, .unset, .unset, .unset, .unset, .unset, .unset, .unset, .unset]) rfl k) ?_
  show OwnG p.tables e below _ (T1.setTop (mkF m 11 #[.val (.long p0), .second, .val (.long p1), .second, .val (.long p2), .second, .val (.int p3), .val (.long lm), .second, .unset, .unset, .unset, .unset, .unset, .unset, .unset, .unset, .unset, .unset, .unset, .unset, .unset, .unset, .unset, .unset, .unset, .unset] []))
  obtain ⟨T2, h2, X2, e2, E2, A2, D2, -, st2⟩ := newO X1 hx hZ hown (hw _ (List.mem_of_getElem? (i := 5) rfl)) (hw _ (List.mem_of_getElem? (i := 6) rfl)) (hw _ (List.mem_of_getElem? (i := 7) rfl)) e1 (g := (mkF m 11 #[.val (.long p0), .second, .val (.long p1), .second, .val (.long p2), .second, .val (.int p3), .val (.long lm), .second, .unset, .unset, .unset, .unset, .unset, .unset, .unset, .unset, .unset, .unset, .unset, .unset, .unset, .unset, .unset, .unset, .unset, .unset] [])) rfl (hb hby at_11) (by decide) (by decide)
  obtain ⟨b2, g2⟩ : ∃ z, z = h0.size := ⟨_, rfl⟩
  rw [← g2] at A2 D2 st2
  have g_b2 : n0 ≤ b2 := Nat.le_trans Z0 (Nat.le_of_eq g2.symm)
  have sz_b2 : h0.size ≤ b2 := Nat.le_trans K0.1 (Nat.le_of_eq g2.symm)
  have K3 : Keep h0 h2 [] := K0.ext E2
  have Z3 : n0 ≤ h2.size := Nat.le_trans Z0 E2.1
  have F4 : Fld Z h2 b2 "com/example/offst/offst/group/MemberBytes" "limit" "J" (.long (0 : Int64)) := D2 (Or.inr (hw _ (List.mem_of_getElem? (i := 15) rfl))) (ty := .long) (by decide)
  have F5 : Fld Z h2 b2 "com/example/offst/offst/group/MemberBytes" "held" "J" (.long (0 : Int64)) := D2 (Or.inl (hw _ (List.mem_of_getElem? (i := 22) rfl))) (ty := .long) (by decide)
  refine own_go (fun t k => st2 t k) ?_
  show OwnG p.tables e below _ (T2.setTop (mkF m 14 #[.val (.long p0), .second, .val (.long p1), .second, .val (.long p2), .second, .val (.int p3), .val (.long lm), .second, .unset, .unset, .unset, .unset, .unset, .unset, .unset, .unset, .unset, .unset, .unset, .unset, .unset, .unset, .unset, .unset, .unset, .unset] [(.ref b2)]))
  refine own_go (fun t k => XS.dup X2.here hx rfl (hb hby at_14) rfl rfl k) ?_
  show OwnG p.tables e below _ (T2.setTop (mkF m 15 #[.val (.long p0), .second, .val (.long p1), .second, .val (.long p2), .second, .val (.int p3), .val (.long lm), .second, .unset, .unset, .unset, .unset, .unset, .unset, .unset, .unset, .unset, .unset, .unset, .unset, .unset, .unset, .unset, .unset, .unset, .unset] [(.ref b2), (.ref b2)]))
  refine own_go (fun t k => XS.lload X2.here hx rfl (hb hby at_15) rfl  k) ?_
  show OwnG p.tables e below _ (T2.setTop (mkF m 17 #[.val (.long p0), .second, .val (.long p1), .second, .val (.long p2), .second, .val (.int p3), .val (.long lm), .second, .unset, .unset, .unset, .unset, .unset, .unset, .unset, .unset, .unset, .unset, .unset, .unset, .unset, .unset, .unset, .unset, .unset, .unset] [(.long lm), (.ref b2), (.ref b2)]))
  obtain ⟨_, _, ⟨T6, L6, k6, n6⟩, -, X6, ⟨Lc6, hQ6, l6, y6, z6⟩, st6⟩ := X2.specialBack hx (y := (⟨"com/example/offst/offst/group/MemberBytes", "<init>", "(J)V"⟩ : MethodName)) rfl hown (mvT hZ (hw _ (List.mem_of_getElem? (i := 8) rfl))) (mvT hZ (hw _ (List.mem_of_getElem? (i := 9) rfl))) (mvT hZ (hw _ (List.mem_of_getElem? (i := 10) rfl))) (by decide) (backOf (W := 1) (own_init l Z a0 hw [] b2 lm h2 n0 Z3 A2 F4 F5 g_b2 hge) hZ (hw _ (List.mem_of_getElem? (i := 10) rfl)) (hw _ (List.mem_of_getElem? (i := 7) rfl)) (by decide) (by decide)) (g := (mkF m 17 #[.val (.long p0), .second, .val (.long p1), .second, .val (.long p2), .second, .val (.int p3), .val (.long lm), .second, .unset, .unset, .unset, .unset, .unset, .unset, .unset, .unset, .unset, .unset, .unset, .unset, .unset, .unset, .unset, .unset, .unset, .unset] [(.long lm), (.ref b2), (.ref b2)])) rfl (by rw [hml]; rfl) (Steps.refl _) (a := b2) (argsL := [(.long lm)]) (rest := [(.ref b2)]) (lenOf own_pd43 rfl) rfl (by show 2 * 0 + _ ≤ _; exact Nat.le_of_eq rfl) (hb hby at_17) (fun _ _ => ⟨rfl, e2, (by decide : 1 + 0 ≤ _), (by decide : 2 + 0 ≤ _)⟩)
  dsimp only [Pt.U, Pt.locs, Pt.cells, Pt.slots] at X6 l6 y6 z6 st6 hQ6
  subst l6 y6 z6
  obtain ⟨rfl, Nq6, Kq6, Fq6_0, Fq6_1, Fq6_2⟩ := hQ6
  have N6 := Fr.app N1 Nq6
  have F7 : Exa Z T6.heap b2 "com/example/offst/offst/group/MemberBytes" := A2.keep Kq6
  have K6 : Keep h0 T6.heap [] := K3.trans Kq6 (allS (Or.inr sz_b2) all0)
  have Z6 : n0 ≤ T6.heap.size := Nat.le_trans Z3 Kq6.1
  refine own_go (fun t k => st6.trans k) ?_
  show OwnG p.tables e below _ (T6.setTop (mkF m 20 #[.val (.long p0), .second, .val (.long p1), .second, .val (.long p2), .second, .val (.int p3), .val (.long lm), .second, .unset, .unset, .unset, .unset, .unset, .unset, .unset, .unset, .unset, .unset, .unset, .unset, .unset, .unset, .unset, .unset, .unset, .unset] [(.ref b2)]))
  refine own_go (fun t k => XS.astore X6.here hx rfl (hb hby at_20) rfl rfl (l' := #[.val (.long p0), .second, .val (.long p1), .second, .val (.long p2), .second, .val (.int p3), .val (.long lm), .second, .val (.ref b2), .unset, .unset, .unset, .unset, .unset, .unset, .unset, .unset, .unset, .unset, .unset, .unset, .unset, .unset, .unset, .unset, .unset]) rfl k) ?_
  show OwnG p.tables e below _ (T6.setTop (mkF m 22 #[.val (.long p0), .second, .val (.long p1), .second, .val (.long p2), .second, .val (.int p3), .val (.long lm), .second, .val (.ref b2), .unset, .unset, .unset, .unset, .unset, .unset, .unset, .unset, .unset, .unset, .unset, .unset, .unset, .unset, .unset, .unset, .unset] []))
  refine own_go (fun t k => XS.iload X6.here hx rfl (hb hby at_22) rfl  k) ?_
  show OwnG p.tables e below _ (T6.setTop (mkF m 24 #[.val (.long p0), .second, .val (.long p1), .second, .val (.long p2), .second, .val (.int p3), .val (.long lm), .second, .val (.ref b2), .unset, .unset, .unset, .unset, .unset, .unset, .unset, .unset, .unset, .unset, .unset, .unset, .unset, .unset, .unset, .unset, .unset] [(.int p3)]))
  refine own_go (fun t k => XS.iconst X6.here hx rfl (hb hby at_24) k) ?_
  show OwnG p.tables e below _ (T6.setTop (mkF m 25 #[.val (.long p0), .second, .val (.long p1), .second, .val (.long p2), .second, .val (.int p3), .val (.long lm), .second, .val (.ref b2), .unset, .unset, .unset, .unset, .unset, .unset, .unset, .unset, .unset, .unset, .unset, .unset, .unset, .unset, .unset, .unset, .unset] [(.int (1 : Int32)), (.int p3)]))
  refine own_go (fun t k => XS.iand X6.here hx rfl (hb hby at_25) rfl k) ?_
  show OwnG p.tables e below _ (T6.setTop (mkF m 26 #[.val (.long p0), .second, .val (.long p1), .second, .val (.long p2), .second, .val (.int p3), .val (.long lm), .second, .val (.ref b2), .unset, .unset, .unset, .unset, .unset, .unset, .unset, .unset, .unset, .unset, .unset, .unset, .unset, .unset, .unset, .unset, .unset] [(.int (p3 &&& (1 : Int32)))]))
  obtain ⟨z8, hp8, hn8⟩ := own_pick ((p3 &&& (1 : Int32)) = (0 : Int32)) (((p1 &&& (9223372036854775807 : Int64)) - (p1 &&& (9223372036854775807 : Int64)) / lm * lm)) (p1)
  refine own_go (nxt := T6.setTop (mkF m 41 #[.val (.long p0), .second, .val (.long p1), .second, .val (.long p2), .second, .val (.int p3), .val (.long lm), .second, .val (.ref b2), .unset, .unset, .unset, .unset, .unset, .unset, .unset, .unset, .unset, .unset, .unset, .unset, .unset, .unset, .unset, .unset, .unset] [(.long z8)])) (fun t k => ?_) ?_
  · by_cases hq : (p3 &&& (1 : Int32)) = (0 : Int32)
    · rw [hp8 hq] at k
      refine XS.ifYes X6.here hx rfl (pc0 := 26) (pc' := 33) rfl (hb hby at_26) rfl ((if0 _ _).trans (teq hq).1) (by decide) (by decide) ?_
      show Steps p.tables e below (T6.setTop (mkF m 33 #[.val (.long p0), .second, .val (.long p1), .second, .val (.long p2), .second, .val (.int p3), .val (.long lm), .second, .val (.ref b2), .unset, .unset, .unset, .unset, .unset, .unset, .unset, .unset, .unset, .unset, .unset, .unset, .unset, .unset, .unset, .unset, .unset] [])) _
      refine XS.lloadN X6.here hx rfl (hb hby at_33) rfl  ?_
      show Steps p.tables e below (T6.setTop (mkF m 34 #[.val (.long p0), .second, .val (.long p1), .second, .val (.long p2), .second, .val (.int p3), .val (.long lm), .second, .val (.ref b2), .unset, .unset, .unset, .unset, .unset, .unset, .unset, .unset, .unset, .unset, .unset, .unset, .unset, .unset, .unset, .unset, .unset] [(.long p1)])) _
      refine (X6.ldc2Long hx hown (mvT hZ (hw _ (List.mem_of_getElem? (i := 0) rfl))) (g := (mkF m 34 #[.val (.long p0), .second, .val (.long p1), .second, .val (.long p2), .second, .val (.int p3), .val (.long lm), .second, .val (.ref b2), .unset, .unset, .unset, .unset, .unset, .unset, .unset, .unset, .unset, .unset, .unset, .unset, .unset, .unset, .unset, .unset, .unset] [(.long p1)])) rfl (hb hby at_34)) _ ?_
      show Steps p.tables e below (T6.setTop (mkF m 37 #[.val (.long p0), .second, .val (.long p1), .second, .val (.long p2), .second, .val (.int p3), .val (.long lm), .second, .val (.ref b2), .unset, .unset, .unset, .unset, .unset, .unset, .unset, .unset, .unset, .unset, .unset, .unset, .unset, .unset, .unset, .unset, .unset] [(.long (9223372036854775807 : Int64)), (.long p1)])) _
      refine XS.land X6.here hx rfl (hb hby at_37) rfl ?_
      show Steps p.tables e below (T6.setTop (mkF m 38 #[.val (.long p0), .second, .val (.long p1), .second, .val (.long p2), .second, .val (.int p3), .val (.long lm), .second, .val (.ref b2), .unset, .unset, .unset, .unset, .unset, .unset, .unset, .unset, .unset, .unset, .unset, .unset, .unset, .unset, .unset, .unset, .unset] [(.long (p1 &&& (9223372036854775807 : Int64)))])) _
      refine XS.lload X6.here hx rfl (hb hby at_38) rfl  ?_
      show Steps p.tables e below (T6.setTop (mkF m 40 #[.val (.long p0), .second, .val (.long p1), .second, .val (.long p2), .second, .val (.int p3), .val (.long lm), .second, .val (.ref b2), .unset, .unset, .unset, .unset, .unset, .unset, .unset, .unset, .unset, .unset, .unset, .unset, .unset, .unset, .unset, .unset, .unset] [(.long lm), (.long (p1 &&& (9223372036854775807 : Int64)))])) _
      refine XS.lrem X6.here hx rfl (hb hby at_40) rfl hnz ?_
      show Steps p.tables e below (T6.setTop (mkF m 41 #[.val (.long p0), .second, .val (.long p1), .second, .val (.long p2), .second, .val (.int p3), .val (.long lm), .second, .val (.ref b2), .unset, .unset, .unset, .unset, .unset, .unset, .unset, .unset, .unset, .unset, .unset, .unset, .unset, .unset, .unset, .unset, .unset] [(.long ((p1 &&& (9223372036854775807 : Int64)) - (p1 &&& (9223372036854775807 : Int64)) / lm * lm))])) _
      exact k
    · rw [hn8 hq] at k
      refine XS.ifNo X6.here hx rfl (hb hby at_26) rfl ((if0 _ _).trans (feq hq).1) ?_
      show Steps p.tables e below (T6.setTop (mkF m 29 #[.val (.long p0), .second, .val (.long p1), .second, .val (.long p2), .second, .val (.int p3), .val (.long lm), .second, .val (.ref b2), .unset, .unset, .unset, .unset, .unset, .unset, .unset, .unset, .unset, .unset, .unset, .unset, .unset, .unset, .unset, .unset, .unset] [])) _
      refine XS.lloadN X6.here hx rfl (hb hby at_29) rfl  ?_
      show Steps p.tables e below (T6.setTop (mkF m 30 #[.val (.long p0), .second, .val (.long p1), .second, .val (.long p2), .second, .val (.int p3), .val (.long lm), .second, .val (.ref b2), .unset, .unset, .unset, .unset, .unset, .unset, .unset, .unset, .unset, .unset, .unset, .unset, .unset, .unset, .unset, .unset, .unset] [(.long p1)])) _
      refine XS.goto X6.here hx rfl (pc0 := 30) (pc' := 41) rfl (hb hby at_30) (by decide) (by decide) ?_
      show Steps p.tables e below (T6.setTop (mkF m 41 #[.val (.long p0), .second, .val (.long p1), .second, .val (.long p2), .second, .val (.int p3), .val (.long lm), .second, .val (.ref b2), .unset, .unset, .unset, .unset, .unset, .unset, .unset, .unset, .unset, .unset, .unset, .unset, .unset, .unset, .unset, .unset, .unset] [(.long p1)])) _
      exact k
  show OwnG p.tables e below _ (T6.setTop (mkF m 41 #[.val (.long p0), .second, .val (.long p1), .second, .val (.long p2), .second, .val (.int p3), .val (.long lm), .second, .val (.ref b2), .unset, .unset, .unset, .unset, .unset, .unset, .unset, .unset, .unset, .unset, .unset, .unset, .unset, .unset, .unset, .unset, .unset] [(.long z8)]))
  refine own_go (fun t k => XS.lstore X6.here hx rfl (hb hby at_41) rfl (l' := #[.val (.long p0), .second, .val (.long p1), .second, .val (.long p2), .second, .val (.int p3), .val (.long lm), .second, .val (.ref b2), .val (.long z8), .second, .unset, .unset, .unset, .unset, .unset, .unset, .unset, .unset, .unset, .unset, .unset, .unset, .unset, .unset, .unset]) rfl k) ?_
  show OwnG p.tables e below _ (T6.setTop (mkF m 43 #[.val (.long p0), .second, .val (.long p1), .second, .val (.long p2), .second, .val (.int p3), .val (.long lm), .second, .val (.ref b2), .val (.long z8), .second, .unset, .unset, .unset, .unset, .unset, .unset, .unset, .unset, .unset, .unset, .unset, .unset, .unset, .unset, .unset] []))
  refine own_go (fun t k => XS.aload X6.here hx rfl (hb hby at_43) rfl rfl k) ?_
  show OwnG p.tables e below _ (T6.setTop (mkF m 45 #[.val (.long p0), .second, .val (.long p1), .second, .val (.long p2), .second, .val (.int p3), .val (.long lm), .second, .val (.ref b2), .val (.long z8), .second, .unset, .unset, .unset, .unset, .unset, .unset, .unset, .unset, .unset, .unset, .unset, .unset, .unset, .unset, .unset] [(.ref b2)]))
  refine own_go (fun t k => XS.lload X6.here hx rfl (hb hby at_45) rfl  k) ?_
  show OwnG p.tables e below _ (T6.setTop (mkF m 47 #[.val (.long p0), .second, .val (.long p1), .second, .val (.long p2), .second, .val (.int p3), .val (.long lm), .second, .val (.ref b2), .val (.long z8), .second, .unset, .unset, .unset, .unset, .unset, .unset, .unset, .unset, .unset, .unset, .unset, .unset, .unset, .unset, .unset] [(.long z8), (.ref b2)]))
  obtain ⟨cq9, kq9, q9a, q9b, q9c⟩ := isOf hZ rfl Fq6_0
  obtain ⟨_, _, ⟨T9, L9, k9, n9⟩, -, X9, ⟨Lc9, hQ9, l9, y9, z9⟩, st9⟩ := X6.virtualBack hx (y := (⟨"com/example/offst/offst/group/MemberBytes", "take", "(J)Z"⟩ : MethodName)) (z := (⟨"com/example/offst/offst/group/MemberBytes", "take", "(J)Z"⟩ : MethodName)) hown (mvT hZ (hw _ (List.mem_of_getElem? (i := 16) rfl))) (mvT hZ (hw _ (List.mem_of_getElem? (i := 17) rfl))) (notFace_of_selects (args := #[]) (mvT hZ (hw _ (List.mem_of_getElem? (i := 19) rfl)))) (mvT hZ (hw _ (List.mem_of_getElem? (i := 19) rfl))) (mvT hZ (hw _ (List.mem_of_getElem? (i := 18) rfl))) (by decide) (backOf (W := 0) (own_take l Z a0 hw [] b2 z8 lm (0 : Int64) T6.heap n0 Z6 Fq6_0 Fq6_1 Fq6_2 g_b2) hZ (hw _ (List.mem_of_getElem? (i := 20) rfl)) (hw _ (List.mem_of_getElem? (i := 7) rfl)) (by decide) (by decide)) q9a q9c (g := (mkF m 47 #[.val (.long p0), .second, .val (.long p1), .second, .val (.long p2), .second, .val (.int p3), .val (.long lm), .second, .val (.ref b2), .val (.long z8), .second, .unset, .unset, .unset, .unset, .unset, .unset, .unset, .unset, .unset, .unset, .unset, .unset, .unset, .unset, .unset] [(.long z8), (.ref b2)])) rfl (by rw [hml]; rfl) (Steps.refl _) (argsL := [(.long z8)]) (rest := []) (lenOf own_pd44 rfl) rfl (by show 2 * 0 + _ ≤ _; exact Nat.le_of_eq rfl) (hb hby at_47) (fun _ _ => ⟨rfl, rfl, (by decide : 1 + 0 ≤ _), (by decide : 2 + 0 ≤ _)⟩)
  dsimp only [Pt.U, Pt.locs, Pt.cells, Pt.slots] at X9 l9 y9 z9 st9 hQ9
  subst l9 y9 z9
  obtain ⟨rfl, Nq9, Kq9, Fq9_0, Fq9_1, Fq9_2⟩ := hQ9
  have N9 := Fr.app N6 Nq9
  have F10 : Exa Z T9.heap b2 "com/example/offst/offst/group/MemberBytes" := Fq6_0.keep Kq9
  have K9 : Keep h0 T9.heap [] := K6.trans Kq9 (allS (Or.inr sz_b2) all0)
  have Z9 : n0 ≤ T9.heap.size := Nat.le_trans Z6 Kq9.1
  refine own_go (fun t k => st9.trans k) ?_
  show OwnG p.tables e below _ (T9.setTop (mkF m 50 #[.val (.long p0), .second, .val (.long p1), .second, .val (.long p2), .second, .val (.int p3), .val (.long lm), .second, .val (.ref b2), .val (.long z8), .second, .unset, .unset, .unset, .unset, .unset, .unset, .unset, .unset, .unset, .unset, .unset, .unset, .unset, .unset, .unset] [(.int (own_took lm (0 : Int64) z8))]))
  refine own_go (fun t k => XS.istore X9.here hx rfl (hb hby at_50) rfl (l' := #[.val (.long p0), .second, .val (.long p1), .second, .val (.long p2), .second, .val (.int p3), .val (.long lm), .second, .val (.ref b2), .val (.long z8), .second, .val (.int (own_took lm (0 : Int64) z8)), .unset, .unset, .unset, .unset, .unset, .unset, .unset, .unset, .unset, .unset, .unset, .unset, .unset, .unset]) rfl k) ?_
  show OwnG p.tables e below _ (T9.setTop (mkF m 52 #[.val (.long p0), .second, .val (.long p1), .second, .val (.long p2), .second, .val (.int p3), .val (.long lm), .second, .val (.ref b2), .val (.long z8), .second, .val (.int (own_took lm (0 : Int64) z8)), .unset, .unset, .unset, .unset, .unset, .unset, .unset, .unset, .unset, .unset, .unset, .unset, .unset, .unset] []))
  refine own_go (fun t k => XS.iload X9.here hx rfl (hb hby at_52) rfl  k) ?_
  show OwnG p.tables e below _ (T9.setTop (mkF m 54 #[.val (.long p0), .second, .val (.long p1), .second, .val (.long p2), .second, .val (.int p3), .val (.long lm), .second, .val (.ref b2), .val (.long z8), .second, .val (.int (own_took lm (0 : Int64) z8)), .unset, .unset, .unset, .unset, .unset, .unset, .unset, .unset, .unset, .unset, .unset, .unset, .unset, .unset] [(.int (own_took lm (0 : Int64) z8))]))
  refine own_go (fun t k => XS.lload X9.here hx rfl (hb hby at_54) rfl  k) ?_
  show OwnG p.tables e below _ (T9.setTop (mkF m 56 #[.val (.long p0), .second, .val (.long p1), .second, .val (.long p2), .second, .val (.int p3), .val (.long lm), .second, .val (.ref b2), .val (.long z8), .second, .val (.int (own_took lm (0 : Int64) z8)), .unset, .unset, .unset, .unset, .unset, .unset, .unset, .unset, .unset, .unset, .unset, .unset, .unset, .unset] [(.long z8), (.int (own_took lm (0 : Int64) z8))]))
  refine own_go (fun t k => XS.lload X9.here hx rfl (hb hby at_56) rfl  k) ?_
  show OwnG p.tables e below _ (T9.setTop (mkF m 58 #[.val (.long p0), .second, .val (.long p1), .second, .val (.long p2), .second, .val (.int p3), .val (.long lm), .second, .val (.ref b2), .val (.long z8), .second, .val (.int (own_took lm (0 : Int64) z8)), .unset, .unset, .unset, .unset, .unset, .unset, .unset, .unset, .unset, .unset, .unset, .unset, .unset, .unset] [(.long lm), (.long z8), (.int (own_took lm (0 : Int64) z8))]))
  refine own_go (fun t k => XS.lcmp X9.here hx rfl (hb hby at_58) rfl k) ?_
  show OwnG p.tables e below _ (T9.setTop (mkF m 59 #[.val (.long p0), .second, .val (.long p1), .second, .val (.long p2), .second, .val (.int p3), .val (.long lm), .second, .val (.ref b2), .val (.long z8), .second, .val (.int (own_took lm (0 : Int64) z8)), .unset, .unset, .unset, .unset, .unset, .unset, .unset, .unset, .unset, .unset, .unset, .unset, .unset, .unset] [(.int (lcmpW z8 lm)), (.int (own_took lm (0 : Int64) z8))]))
  obtain ⟨z11, hp11, hn11⟩ := own_pick (lm < z8) ((0 : Int32)) ((1 : Int32))
  refine own_go (nxt := T9.setTop (mkF m 67 #[.val (.long p0), .second, .val (.long p1), .second, .val (.long p2), .second, .val (.int p3), .val (.long lm), .second, .val (.ref b2), .val (.long z8), .second, .val (.int (own_took lm (0 : Int64) z8)), .unset, .unset, .unset, .unset, .unset, .unset, .unset, .unset, .unset, .unset, .unset, .unset, .unset, .unset] [(.int z11), (.int (own_took lm (0 : Int64) z8))])) (fun t k => ?_) ?_
  · by_cases hq : lm < z8
    · rw [hp11 hq] at k
      refine XS.ifYes X9.here hx rfl (pc0 := 59) (pc' := 66) rfl (hb hby at_59) rfl ((if0 _ _).trans (tlt ((lw_gt _ _).mpr hq)).2.2.1) (by decide) (by decide) ?_
      show Steps p.tables e below (T9.setTop (mkF m 66 #[.val (.long p0), .second, .val (.long p1), .second, .val (.long p2), .second, .val (.int p3), .val (.long lm), .second, .val (.ref b2), .val (.long z8), .second, .val (.int (own_took lm (0 : Int64) z8)), .unset, .unset, .unset, .unset, .unset, .unset, .unset, .unset, .unset, .unset, .unset, .unset, .unset, .unset] [(.int (own_took lm (0 : Int64) z8))])) _
      refine XS.iconst X9.here hx rfl (hb hby at_66) ?_
      show Steps p.tables e below (T9.setTop (mkF m 67 #[.val (.long p0), .second, .val (.long p1), .second, .val (.long p2), .second, .val (.int p3), .val (.long lm), .second, .val (.ref b2), .val (.long z8), .second, .val (.int (own_took lm (0 : Int64) z8)), .unset, .unset, .unset, .unset, .unset, .unset, .unset, .unset, .unset, .unset, .unset, .unset, .unset, .unset] [(.int (0 : Int32)), (.int (own_took lm (0 : Int64) z8))])) _
      exact k
    · rw [hn11 hq] at k
      refine XS.ifNo X9.here hx rfl (hb hby at_59) rfl ((if0 _ _).trans (flt (mt (lw_gt _ _).mp hq)).2.2.1) ?_
      show Steps p.tables e below (T9.setTop (mkF m 62 #[.val (.long p0), .second, .val (.long p1), .second, .val (.long p2), .second, .val (.int p3), .val (.long lm), .second, .val (.ref b2), .val (.long z8), .second, .val (.int (own_took lm (0 : Int64) z8)), .unset, .unset, .unset, .unset, .unset, .unset, .unset, .unset, .unset, .unset, .unset, .unset, .unset, .unset] [(.int (own_took lm (0 : Int64) z8))])) _
      refine XS.iconst X9.here hx rfl (hb hby at_62) ?_
      show Steps p.tables e below (T9.setTop (mkF m 63 #[.val (.long p0), .second, .val (.long p1), .second, .val (.long p2), .second, .val (.int p3), .val (.long lm), .second, .val (.ref b2), .val (.long z8), .second, .val (.int (own_took lm (0 : Int64) z8)), .unset, .unset, .unset, .unset, .unset, .unset, .unset, .unset, .unset, .unset, .unset, .unset, .unset, .unset] [(.int (1 : Int32)), (.int (own_took lm (0 : Int64) z8))])) _
      refine XS.goto X9.here hx rfl (pc0 := 63) (pc' := 67) rfl (hb hby at_63) (by decide) (by decide) ?_
      show Steps p.tables e below (T9.setTop (mkF m 67 #[.val (.long p0), .second, .val (.long p1), .second, .val (.long p2), .second, .val (.int p3), .val (.long lm), .second, .val (.ref b2), .val (.long z8), .second, .val (.int (own_took lm (0 : Int64) z8)), .unset, .unset, .unset, .unset, .unset, .unset, .unset, .unset, .unset, .unset, .unset, .unset, .unset, .unset] [(.int (1 : Int32)), (.int (own_took lm (0 : Int64) z8))])) _
      exact k
  show OwnG p.tables e below _ (T9.setTop (mkF m 67 #[.val (.long p0), .second, .val (.long p1), .second, .val (.long p2), .second, .val (.int p3), .val (.long lm), .second, .val (.ref b2), .val (.long z8), .second, .val (.int (own_took lm (0 : Int64) z8)), .unset, .unset, .unset, .unset, .unset, .unset, .unset, .unset, .unset, .unset, .unset, .unset, .unset, .unset] [(.int z11), (.int (own_took lm (0 : Int64) z8))]))
  have hr1 : (own_took lm (0 : Int64) z8) = z11 := own_took_eq (fun q => hp11 (by rw [own_sub0] at q; exact q)) (fun q => hn11 (by rw [own_sub0] at q; exact q))
  refine own_go (fun t k => XS.icmpYes X9.here hx rfl (pc0 := 67) (pc' := 72) rfl (hb hby at_67) rfl (teq hr1).1 (by decide) (by decide) k) ?_
  show OwnG p.tables e below _ (T9.setTop (mkF m 72 #[.val (.long p0), .second, .val (.long p1), .second, .val (.long p2), .second, .val (.int p3), .val (.long lm), .second, .val (.ref b2), .val (.long z8), .second, .val (.int (own_took lm (0 : Int64) z8)), .unset, .unset, .unset, .unset, .unset, .unset, .unset, .unset, .unset, .unset, .unset, .unset, .unset, .unset] []))
  refine own_go (fun t k => XS.iload X9.here hx rfl (hb hby at_72) rfl  k) ?_
  show OwnG p.tables e below _ (T9.setTop (mkF m 74 #[.val (.long p0), .second, .val (.long p1), .second, .val (.long p2), .second, .val (.int p3), .val (.long lm), .second, .val (.ref b2), .val (.long z8), .second, .val (.int (own_took lm (0 : Int64) z8)), .unset, .unset, .unset, .unset, .unset, .unset, .unset, .unset, .unset, .unset, .unset, .unset, .unset, .unset] [(.int (own_took lm (0 : Int64) z8))]))
  obtain ⟨z12, hp12, hn12⟩ := own_pick ((own_took lm (0 : Int64) z8) = (0 : Int32)) ((0 : Int64)) (z8)
  refine own_go (nxt := T9.setTop (mkF m 83 #[.val (.long p0), .second, .val (.long p1), .second, .val (.long p2), .second, .val (.int p3), .val (.long lm), .second, .val (.ref b2), .val (.long z8), .second, .val (.int (own_took lm (0 : Int64) z8)), .unset, .unset, .unset, .unset, .unset, .unset, .unset, .unset, .unset, .unset, .unset, .unset, .unset, .unset] [(.long z12)])) (fun t k => ?_) ?_
  · by_cases hq : (own_took lm (0 : Int64) z8) = (0 : Int32)
    · rw [hp12 hq] at k
      refine XS.ifYes X9.here hx rfl (pc0 := 74) (pc' := 82) rfl (hb hby at_74) rfl ((if0 _ _).trans (teq hq).1) (by decide) (by decide) ?_
      show Steps p.tables e below (T9.setTop (mkF m 82 #[.val (.long p0), .second, .val (.long p1), .second, .val (.long p2), .second, .val (.int p3), .val (.long lm), .second, .val (.ref b2), .val (.long z8), .second, .val (.int (own_took lm (0 : Int64) z8)), .unset, .unset, .unset, .unset, .unset, .unset, .unset, .unset, .unset, .unset, .unset, .unset, .unset, .unset] [])) _
      refine XS.lconst X9.here hx rfl (hb hby at_82) ?_
      show Steps p.tables e below (T9.setTop (mkF m 83 #[.val (.long p0), .second, .val (.long p1), .second, .val (.long p2), .second, .val (.int p3), .val (.long lm), .second, .val (.ref b2), .val (.long z8), .second, .val (.int (own_took lm (0 : Int64) z8)), .unset, .unset, .unset, .unset, .unset, .unset, .unset, .unset, .unset, .unset, .unset, .unset, .unset, .unset] [(.long (0 : Int64))])) _
      exact k
    · rw [hn12 hq] at k
      refine XS.ifNo X9.here hx rfl (hb hby at_74) rfl ((if0 _ _).trans (feq hq).1) ?_
      show Steps p.tables e below (T9.setTop (mkF m 77 #[.val (.long p0), .second, .val (.long p1), .second, .val (.long p2), .second, .val (.int p3), .val (.long lm), .second, .val (.ref b2), .val (.long z8), .second, .val (.int (own_took lm (0 : Int64) z8)), .unset, .unset, .unset, .unset, .unset, .unset, .unset, .unset, .unset, .unset, .unset, .unset, .unset, .unset] [])) _
      refine XS.lload X9.here hx rfl (hb hby at_77) rfl  ?_
      show Steps p.tables e below (T9.setTop (mkF m 79 #[.val (.long p0), .second, .val (.long p1), .second, .val (.long p2), .second, .val (.int p3), .val (.long lm), .second, .val (.ref b2), .val (.long z8), .second, .val (.int (own_took lm (0 : Int64) z8)), .unset, .unset, .unset, .unset, .unset, .unset, .unset, .unset, .unset, .unset, .unset, .unset, .unset, .unset] [(.long z8)])) _
      refine XS.goto X9.here hx rfl (pc0 := 79) (pc' := 83) rfl (hb hby at_79) (by decide) (by decide) ?_
      show Steps p.tables e below (T9.setTop (mkF m 83 #[.val (.long p0), .second, .val (.long p1), .second, .val (.long p2), .second, .val (.int p3), .val (.long lm), .second, .val (.ref b2), .val (.long z8), .second, .val (.int (own_took lm (0 : Int64) z8)), .unset, .unset, .unset, .unset, .unset, .unset, .unset, .unset, .unset, .unset, .unset, .unset, .unset, .unset] [(.long z8)])) _
      exact k
  show OwnG p.tables e below _ (T9.setTop (mkF m 83 #[.val (.long p0), .second, .val (.long p1), .second, .val (.long p2), .second, .val (.int p3), .val (.long lm), .second, .val (.ref b2), .val (.long z8), .second, .val (.int (own_took lm (0 : Int64) z8)), .unset, .unset, .unset, .unset, .unset, .unset, .unset, .unset, .unset, .unset, .unset, .unset, .unset, .unset] [(.long z12)]))
  have F13 : Fld Z T9.heap b2 "com/example/offst/offst/group/MemberBytes" "held" "J" (.long z12) := by rw [own_took_0 hp12 (fun q => (hn12 q).trans (Int64.zero_add _).symm)]; exact Fq9_2
  refine own_go (fun t k => XS.lstore X9.here hx rfl (hb hby at_83) rfl (l' := #[.val (.long p0), .second, .val (.long p1), .second, .val (.long p2), .second, .val (.int p3), .val (.long lm), .second, .val (.ref b2), .val (.long z8), .second, .val (.int (own_took lm (0 : Int64) z8)), .val (.long z12), .second, .unset, .unset, .unset, .unset, .unset, .unset, .unset, .unset, .unset, .unset, .unset, .unset]) rfl k) ?_
  show OwnG p.tables e below _ (T9.setTop (mkF m 85 #[.val (.long p0), .second, .val (.long p1), .second, .val (.long p2), .second, .val (.int p3), .val (.long lm), .second, .val (.ref b2), .val (.long z8), .second, .val (.int (own_took lm (0 : Int64) z8)), .val (.long z12), .second, .unset, .unset, .unset, .unset, .unset, .unset, .unset, .unset, .unset, .unset, .unset, .unset] []))
  refine own_go (fun t k => XS.lload X9.here hx rfl (hb hby at_85) rfl  k) ?_
  show OwnG p.tables e below _ (T9.setTop (mkF m 87 #[.val (.long p0), .second, .val (.long p1), .second, .val (.long p2), .second, .val (.int p3), .val (.long lm), .second, .val (.ref b2), .val (.long z8), .second, .val (.int (own_took lm (0 : Int64) z8)), .val (.long z12), .second, .unset, .unset, .unset, .unset, .unset, .unset, .unset, .unset, .unset, .unset, .unset, .unset] [(.long z12)]))
  refine own_go (fun t k => XS.lconst X9.here hx rfl (hb hby at_87) k) ?_
  show OwnG p.tables e below _ (T9.setTop (mkF m 88 #[.val (.long p0), .second, .val (.long p1), .second, .val (.long p2), .second, .val (.int p3), .val (.long lm), .second, .val (.ref b2), .val (.long z8), .second, .val (.int (own_took lm (0 : Int64) z8)), .val (.long z12), .second, .unset, .unset, .unset, .unset, .unset, .unset, .unset, .unset, .unset, .unset, .unset, .unset] [(.long (0 : Int64)), (.long z12)]))
  refine own_go (fun t k => XS.lcmp X9.here hx rfl (hb hby at_88) rfl k) ?_
  show OwnG p.tables e below _ (T9.setTop (mkF m 89 #[.val (.long p0), .second, .val (.long p1), .second, .val (.long p2), .second, .val (.int p3), .val (.long lm), .second, .val (.ref b2), .val (.long z8), .second, .val (.int (own_took lm (0 : Int64) z8)), .val (.long z12), .second, .unset, .unset, .unset, .unset, .unset, .unset, .unset, .unset, .unset, .unset, .unset, .unset] [(.int (lcmpW z12 (0 : Int64)))]))
  by_cases hc14 : z12 < (0 : Int64)
  · refine own_go (fun t k => XS.ifNo X9.here hx rfl (hb hby at_89) rfl ((if0 _ _).trans (tlt ((lw_lt _ _).mpr hc14)).2.1) k) ?_
    show OwnG p.tables e below _ (T9.setTop (mkF m 92 #[.val (.long p0), .second, .val (.long p1), .second, .val (.long p2), .second, .val (.int p3), .val (.long lm), .second, .val (.ref b2), .val (.long z8), .second, .val (.int (own_took lm (0 : Int64) z8)), .val (.long z12), .second, .unset, .unset, .unset, .unset, .unset, .unset, .unset, .unset, .unset, .unset, .unset, .unset] []))
    refine own_go (fun t k => XS.iconst X9.here hx rfl (hb hby at_92) k) ?_
    show OwnG p.tables e below _ (T9.setTop (mkF m 93 #[.val (.long p0), .second, .val (.long p1), .second, .val (.long p2), .second, .val (.int p3), .val (.long lm), .second, .val (.ref b2), .val (.long z8), .second, .val (.int (own_took lm (0 : Int64) z8)), .val (.long z12), .second, .unset, .unset, .unset, .unset, .unset, .unset, .unset, .unset, .unset, .unset, .unset, .unset] [(.int (1 : Int32))]))
    obtain ⟨fs, hr, hrun, hended, hW, hsame⟩ := X9.leave (v := some (.int (1 : Int32))) (fun h => by rw [Bd.returns] at h; cases h)
    refine ⟨_, _, retN X9 hx (t := .boolean) Bd.returns (by simp) (hb hby at_93) hr, hrun, hended, _, _, rfl, ?_, ⟨_, rfl⟩, hW, hsame.mono (by decide) (by decide)⟩
    show Q_own_law Z p0 p1 p2 p3 h0 n0 _ T9.heap _
    exact ⟨rfl, N9⟩
  · refine own_go (fun t k => XS.ifYes X9.here hx rfl (pc0 := 89) (pc' := 94) rfl (hb hby at_89) rfl ((if0 _ _).trans (flt (mt (lw_lt _ _).mp hc14)).2.1) (by decide) (by decide) k) ?_
    show OwnG p.tables e below _ (T9.setTop (mkF m 94 #[.val (.long p0), .second, .val (.long p1), .second, .val (.long p2), .second, .val (.int p3), .val (.long lm), .second, .val (.ref b2), .val (.long z8), .second, .val (.int (own_took lm (0 : Int64) z8)), .val (.long z12), .second, .unset, .unset, .unset, .unset, .unset, .unset, .unset, .unset, .unset, .unset, .unset, .unset] []))
    refine own_go (fun t k => XS.iload X9.here hx rfl (hb hby at_94) rfl  k) ?_
    show OwnG p.tables e below _ (T9.setTop (mkF m 96 #[.val (.long p0), .second, .val (.long p1), .second, .val (.long p2), .second, .val (.int p3), .val (.long lm), .second, .val (.ref b2), .val (.long z8), .second, .val (.int (own_took lm (0 : Int64) z8)), .val (.long z12), .second, .unset, .unset, .unset, .unset, .unset, .unset, .unset, .unset, .unset, .unset, .unset, .unset] [(.int p3)]))
    refine own_go (fun t k => XS.iconst X9.here hx rfl (hb hby at_96) k) ?_
    show OwnG p.tables e below _ (T9.setTop (mkF m 97 #[.val (.long p0), .second, .val (.long p1), .second, .val (.long p2), .second, .val (.int p3), .val (.long lm), .second, .val (.ref b2), .val (.long z8), .second, .val (.int (own_took lm (0 : Int64) z8)), .val (.long z12), .second, .unset, .unset, .unset, .unset, .unset, .unset, .unset, .unset, .unset, .unset, .unset, .unset] [(.int (2 : Int32)), (.int p3)]))
    refine own_go (fun t k => XS.iand X9.here hx rfl (hb hby at_97) rfl k) ?_
    show OwnG p.tables e below _ (T9.setTop (mkF m 98 #[.val (.long p0), .second, .val (.long p1), .second, .val (.long p2), .second, .val (.int p3), .val (.long lm), .second, .val (.ref b2), .val (.long z8), .second, .val (.int (own_took lm (0 : Int64) z8)), .val (.long z12), .second, .unset, .unset, .unset, .unset, .unset, .unset, .unset, .unset, .unset, .unset, .unset, .unset] [(.int (p3 &&& (2 : Int32)))]))
    obtain ⟨z15, hp15, hn15⟩ := own_pick ((p3 &&& (2 : Int32)) = (0 : Int32)) ((((p2 &&& (9223372036854775807 : Int64)) - (p2 &&& (9223372036854775807 : Int64)) / lm * lm) - z12)) (p2)
    refine own_go (nxt := T9.setTop (mkF m 118 #[.val (.long p0), .second, .val (.long p1), .second, .val (.long p2), .second, .val (.int p3), .val (.long lm), .second, .val (.ref b2), .val (.long z8), .second, .val (.int (own_took lm (0 : Int64) z8)), .val (.long z12), .second, .unset, .unset, .unset, .unset, .unset, .unset, .unset, .unset, .unset, .unset, .unset, .unset] [(.long z15)])) (fun t k => ?_) ?_
    · by_cases hq : (p3 &&& (2 : Int32)) = (0 : Int32)
      · rw [hp15 hq] at k
        refine XS.ifYes X9.here hx rfl (pc0 := 98) (pc' := 106) rfl (hb hby at_98) rfl ((if0 _ _).trans (teq hq).1) (by decide) (by decide) ?_
        show Steps p.tables e below (T9.setTop (mkF m 106 #[.val (.long p0), .second, .val (.long p1), .second, .val (.long p2), .second, .val (.int p3), .val (.long lm), .second, .val (.ref b2), .val (.long z8), .second, .val (.int (own_took lm (0 : Int64) z8)), .val (.long z12), .second, .unset, .unset, .unset, .unset, .unset, .unset, .unset, .unset, .unset, .unset, .unset, .unset] [])) _
        refine XS.lload X9.here hx rfl (hb hby at_106) rfl  ?_
        show Steps p.tables e below (T9.setTop (mkF m 108 #[.val (.long p0), .second, .val (.long p1), .second, .val (.long p2), .second, .val (.int p3), .val (.long lm), .second, .val (.ref b2), .val (.long z8), .second, .val (.int (own_took lm (0 : Int64) z8)), .val (.long z12), .second, .unset, .unset, .unset, .unset, .unset, .unset, .unset, .unset, .unset, .unset, .unset, .unset] [(.long p2)])) _
        refine (X9.ldc2Long hx hown (mvT hZ (hw _ (List.mem_of_getElem? (i := 0) rfl))) (g := (mkF m 108 #[.val (.long p0), .second, .val (.long p1), .second, .val (.long p2), .second, .val (.int p3), .val (.long lm), .second, .val (.ref b2), .val (.long z8), .second, .val (.int (own_took lm (0 : Int64) z8)), .val (.long z12), .second, .unset, .unset, .unset, .unset, .unset, .unset, .unset, .unset, .unset, .unset, .unset, .unset] [(.long p2)])) rfl (hb hby at_108)) _ ?_
        show Steps p.tables e below (T9.setTop (mkF m 111 #[.val (.long p0), .second, .val (.long p1), .second, .val (.long p2), .second, .val (.int p3), .val (.long lm), .second, .val (.ref b2), .val (.long z8), .second, .val (.int (own_took lm (0 : Int64) z8)), .val (.long z12), .second, .unset, .unset, .unset, .unset, .unset, .unset, .unset, .unset, .unset, .unset, .unset, .unset] [(.long (9223372036854775807 : Int64)), (.long p2)])) _
        refine XS.land X9.here hx rfl (hb hby at_111) rfl ?_
        show Steps p.tables e below (T9.setTop (mkF m 112 #[.val (.long p0), .second, .val (.long p1), .second, .val (.long p2), .second, .val (.int p3), .val (.long lm), .second, .val (.ref b2), .val (.long z8), .second, .val (.int (own_took lm (0 : Int64) z8)), .val (.long z12), .second, .unset, .unset, .unset, .unset, .unset, .unset, .unset, .unset, .unset, .unset, .unset, .unset] [(.long (p2 &&& (9223372036854775807 : Int64)))])) _
        refine XS.lload X9.here hx rfl (hb hby at_112) rfl  ?_
        show Steps p.tables e below (T9.setTop (mkF m 114 #[.val (.long p0), .second, .val (.long p1), .second, .val (.long p2), .second, .val (.int p3), .val (.long lm), .second, .val (.ref b2), .val (.long z8), .second, .val (.int (own_took lm (0 : Int64) z8)), .val (.long z12), .second, .unset, .unset, .unset, .unset, .unset, .unset, .unset, .unset, .unset, .unset, .unset, .unset] [(.long lm), (.long (p2 &&& (9223372036854775807 : Int64)))])) _
        refine XS.lrem X9.here hx rfl (hb hby at_114) rfl hnz ?_
        show Steps p.tables e below (T9.setTop (mkF m 115 #[.val (.long p0), .second, .val (.long p1), .second, .val (.long p2), .second, .val (.int p3), .val (.long lm), .second, .val (.ref b2), .val (.long z8), .second, .val (.int (own_took lm (0 : Int64) z8)), .val (.long z12), .second, .unset, .unset, .unset, .unset, .unset, .unset, .unset, .unset, .unset, .unset, .unset, .unset] [(.long ((p2 &&& (9223372036854775807 : Int64)) - (p2 &&& (9223372036854775807 : Int64)) / lm * lm))])) _
        refine XS.lload X9.here hx rfl (hb hby at_115) rfl  ?_
        show Steps p.tables e below (T9.setTop (mkF m 117 #[.val (.long p0), .second, .val (.long p1), .second, .val (.long p2), .second, .val (.int p3), .val (.long lm), .second, .val (.ref b2), .val (.long z8), .second, .val (.int (own_took lm (0 : Int64) z8)), .val (.long z12), .second, .unset, .unset, .unset, .unset, .unset, .unset, .unset, .unset, .unset, .unset, .unset, .unset] [(.long z12), (.long ((p2 &&& (9223372036854775807 : Int64)) - (p2 &&& (9223372036854775807 : Int64)) / lm * lm))])) _
        refine XS.lsub X9.here hx rfl (hb hby at_117) rfl ?_
        show Steps p.tables e below (T9.setTop (mkF m 118 #[.val (.long p0), .second, .val (.long p1), .second, .val (.long p2), .second, .val (.int p3), .val (.long lm), .second, .val (.ref b2), .val (.long z8), .second, .val (.int (own_took lm (0 : Int64) z8)), .val (.long z12), .second, .unset, .unset, .unset, .unset, .unset, .unset, .unset, .unset, .unset, .unset, .unset, .unset] [(.long (((p2 &&& (9223372036854775807 : Int64)) - (p2 &&& (9223372036854775807 : Int64)) / lm * lm) - z12))])) _
        exact k
      · rw [hn15 hq] at k
        refine XS.ifNo X9.here hx rfl (hb hby at_98) rfl ((if0 _ _).trans (feq hq).1) ?_
        show Steps p.tables e below (T9.setTop (mkF m 101 #[.val (.long p0), .second, .val (.long p1), .second, .val (.long p2), .second, .val (.int p3), .val (.long lm), .second, .val (.ref b2), .val (.long z8), .second, .val (.int (own_took lm (0 : Int64) z8)), .val (.long z12), .second, .unset, .unset, .unset, .unset, .unset, .unset, .unset, .unset, .unset, .unset, .unset, .unset] [])) _
        refine XS.lload X9.here hx rfl (hb hby at_101) rfl  ?_
        show Steps p.tables e below (T9.setTop (mkF m 103 #[.val (.long p0), .second, .val (.long p1), .second, .val (.long p2), .second, .val (.int p3), .val (.long lm), .second, .val (.ref b2), .val (.long z8), .second, .val (.int (own_took lm (0 : Int64) z8)), .val (.long z12), .second, .unset, .unset, .unset, .unset, .unset, .unset, .unset, .unset, .unset, .unset, .unset, .unset] [(.long p2)])) _
        refine XS.goto X9.here hx rfl (pc0 := 103) (pc' := 118) rfl (hb hby at_103) (by decide) (by decide) ?_
        show Steps p.tables e below (T9.setTop (mkF m 118 #[.val (.long p0), .second, .val (.long p1), .second, .val (.long p2), .second, .val (.int p3), .val (.long lm), .second, .val (.ref b2), .val (.long z8), .second, .val (.int (own_took lm (0 : Int64) z8)), .val (.long z12), .second, .unset, .unset, .unset, .unset, .unset, .unset, .unset, .unset, .unset, .unset, .unset, .unset] [(.long p2)])) _
        exact k
    show OwnG p.tables e below _ (T9.setTop (mkF m 118 #[.val (.long p0), .second, .val (.long p1), .second, .val (.long p2), .second, .val (.int p3), .val (.long lm), .second, .val (.ref b2), .val (.long z8), .second, .val (.int (own_took lm (0 : Int64) z8)), .val (.long z12), .second, .unset, .unset, .unset, .unset, .unset, .unset, .unset, .unset, .unset, .unset, .unset, .unset] [(.long z15)]))
    refine own_go (fun t k => XS.lstore X9.here hx rfl (hb hby at_118) rfl (l' := #[.val (.long p0), .second, .val (.long p1), .second, .val (.long p2), .second, .val (.int p3), .val (.long lm), .second, .val (.ref b2), .val (.long z8), .second, .val (.int (own_took lm (0 : Int64) z8)), .val (.long z12), .second, .val (.long z15), .second, .unset, .unset, .unset, .unset, .unset, .unset, .unset, .unset, .unset, .unset]) rfl k) ?_
    show OwnG p.tables e below _ (T9.setTop (mkF m 120 #[.val (.long p0), .second, .val (.long p1), .second, .val (.long p2), .second, .val (.int p3), .val (.long lm), .second, .val (.ref b2), .val (.long z8), .second, .val (.int (own_took lm (0 : Int64) z8)), .val (.long z12), .second, .val (.long z15), .second, .unset, .unset, .unset, .unset, .unset, .unset, .unset, .unset, .unset, .unset] []))
    refine own_go (fun t k => XS.aload X9.here hx rfl (hb hby at_120) rfl rfl k) ?_
    show OwnG p.tables e below _ (T9.setTop (mkF m 122 #[.val (.long p0), .second, .val (.long p1), .second, .val (.long p2), .second, .val (.int p3), .val (.long lm), .second, .val (.ref b2), .val (.long z8), .second, .val (.int (own_took lm (0 : Int64) z8)), .val (.long z12), .second, .val (.long z15), .second, .unset, .unset, .unset, .unset, .unset, .unset, .unset, .unset, .unset, .unset] [(.ref b2)]))
    refine own_go (fun t k => XS.lload X9.here hx rfl (hb hby at_122) rfl  k) ?_
    show OwnG p.tables e below _ (T9.setTop (mkF m 124 #[.val (.long p0), .second, .val (.long p1), .second, .val (.long p2), .second, .val (.int p3), .val (.long lm), .second, .val (.ref b2), .val (.long z8), .second, .val (.int (own_took lm (0 : Int64) z8)), .val (.long z12), .second, .val (.long z15), .second, .unset, .unset, .unset, .unset, .unset, .unset, .unset, .unset, .unset, .unset] [(.long z15), (.ref b2)]))
    obtain ⟨cq16, kq16, q16a, q16b, q16c⟩ := isOf hZ rfl Fq9_0
    obtain ⟨_, _, ⟨T16, L16, k16, n16⟩, -, X16, ⟨Lc16, hQ16, l16, y16, z16⟩, st16⟩ := X9.virtualBack hx (y := (⟨"com/example/offst/offst/group/MemberBytes", "take", "(J)Z"⟩ : MethodName)) (z := (⟨"com/example/offst/offst/group/MemberBytes", "take", "(J)Z"⟩ : MethodName)) hown (mvT hZ (hw _ (List.mem_of_getElem? (i := 16) rfl))) (mvT hZ (hw _ (List.mem_of_getElem? (i := 17) rfl))) (notFace_of_selects (args := #[]) (mvT hZ (hw _ (List.mem_of_getElem? (i := 19) rfl)))) (mvT hZ (hw _ (List.mem_of_getElem? (i := 19) rfl))) (mvT hZ (hw _ (List.mem_of_getElem? (i := 18) rfl))) (by decide) (backOf (W := 0) (own_take l Z a0 hw [] b2 z15 lm z12 T9.heap n0 Z9 Fq9_0 Fq9_1 F13 g_b2) hZ (hw _ (List.mem_of_getElem? (i := 20) rfl)) (hw _ (List.mem_of_getElem? (i := 7) rfl)) (by decide) (by decide)) q16a q16c (g := (mkF m 124 #[.val (.long p0), .second, .val (.long p1), .second, .val (.long p2), .second, .val (.int p3), .val (.long lm), .second, .val (.ref b2), .val (.long z8), .second, .val (.int (own_took lm (0 : Int64) z8)), .val (.long z12), .second, .val (.long z15), .second, .unset, .unset, .unset, .unset, .unset, .unset, .unset, .unset, .unset, .unset] [(.long z15), (.ref b2)])) rfl (by rw [hml]; rfl) (Steps.refl _) (argsL := [(.long z15)]) (rest := []) (lenOf own_pd44 rfl) rfl (by show 2 * 0 + _ ≤ _; exact Nat.le_of_eq rfl) (hb hby at_124) (fun _ _ => ⟨rfl, rfl, (by decide : 1 + 0 ≤ _), (by decide : 2 + 0 ≤ _)⟩)
    dsimp only [Pt.U, Pt.locs, Pt.cells, Pt.slots] at X16 l16 y16 z16 st16 hQ16
    subst l16 y16 z16
    obtain ⟨rfl, Nq16, Kq16, Fq16_0, Fq16_1, Fq16_2⟩ := hQ16
    have N16 := Fr.app N9 Nq16
    have F17 : Exa Z T16.heap b2 "com/example/offst/offst/group/MemberBytes" := Fq9_0.keep Kq16
    have K16 : Keep h0 T16.heap [] := K9.trans Kq16 (allS (Or.inr sz_b2) all0)
    have Z16 : n0 ≤ T16.heap.size := Nat.le_trans Z9 Kq16.1
    refine own_go (fun t k => st16.trans k) ?_
    show OwnG p.tables e below _ (T16.setTop (mkF m 127 #[.val (.long p0), .second, .val (.long p1), .second, .val (.long p2), .second, .val (.int p3), .val (.long lm), .second, .val (.ref b2), .val (.long z8), .second, .val (.int (own_took lm (0 : Int64) z8)), .val (.long z12), .second, .val (.long z15), .second, .unset, .unset, .unset, .unset, .unset, .unset, .unset, .unset, .unset, .unset] [(.int (own_took lm z12 z15))]))
    refine own_go (fun t k => XS.istore X16.here hx rfl (hb hby at_127) rfl (l' := #[.val (.long p0), .second, .val (.long p1), .second, .val (.long p2), .second, .val (.int p3), .val (.long lm), .second, .val (.ref b2), .val (.long z8), .second, .val (.int (own_took lm (0 : Int64) z8)), .val (.long z12), .second, .val (.long z15), .second, .val (.int (own_took lm z12 z15)), .unset, .unset, .unset, .unset, .unset, .unset, .unset, .unset, .unset]) rfl k) ?_
    show OwnG p.tables e below _ (T16.setTop (mkF m 129 #[.val (.long p0), .second, .val (.long p1), .second, .val (.long p2), .second, .val (.int p3), .val (.long lm), .second, .val (.ref b2), .val (.long z8), .second, .val (.int (own_took lm (0 : Int64) z8)), .val (.long z12), .second, .val (.long z15), .second, .val (.int (own_took lm z12 z15)), .unset, .unset, .unset, .unset, .unset, .unset, .unset, .unset, .unset] []))
    refine own_go (fun t k => XS.lload X16.here hx rfl (hb hby at_129) rfl  k) ?_
    show OwnG p.tables e below _ (T16.setTop (mkF m 131 #[.val (.long p0), .second, .val (.long p1), .second, .val (.long p2), .second, .val (.int p3), .val (.long lm), .second, .val (.ref b2), .val (.long z8), .second, .val (.int (own_took lm (0 : Int64) z8)), .val (.long z12), .second, .val (.long z15), .second, .val (.int (own_took lm z12 z15)), .unset, .unset, .unset, .unset, .unset, .unset, .unset, .unset, .unset] [(.long z15)]))
    refine own_go (fun t k => XS.lload X16.here hx rfl (hb hby at_131) rfl  k) ?_
    show OwnG p.tables e below _ (T16.setTop (mkF m 133 #[.val (.long p0), .second, .val (.long p1), .second, .val (.long p2), .second, .val (.int p3), .val (.long lm), .second, .val (.ref b2), .val (.long z8), .second, .val (.int (own_took lm (0 : Int64) z8)), .val (.long z12), .second, .val (.long z15), .second, .val (.int (own_took lm z12 z15)), .unset, .unset, .unset, .unset, .unset, .unset, .unset, .unset, .unset] [(.long lm), (.long z15)]))
    refine own_go (fun t k => XS.lload X16.here hx rfl (hb hby at_133) rfl  k) ?_
    show OwnG p.tables e below _ (T16.setTop (mkF m 135 #[.val (.long p0), .second, .val (.long p1), .second, .val (.long p2), .second, .val (.int p3), .val (.long lm), .second, .val (.ref b2), .val (.long z8), .second, .val (.int (own_took lm (0 : Int64) z8)), .val (.long z12), .second, .val (.long z15), .second, .val (.int (own_took lm z12 z15)), .unset, .unset, .unset, .unset, .unset, .unset, .unset, .unset, .unset] [(.long z12), (.long lm), (.long z15)]))
    refine own_go (fun t k => XS.lsub X16.here hx rfl (hb hby at_135) rfl k) ?_
    show OwnG p.tables e below _ (T16.setTop (mkF m 136 #[.val (.long p0), .second, .val (.long p1), .second, .val (.long p2), .second, .val (.int p3), .val (.long lm), .second, .val (.ref b2), .val (.long z8), .second, .val (.int (own_took lm (0 : Int64) z8)), .val (.long z12), .second, .val (.long z15), .second, .val (.int (own_took lm z12 z15)), .unset, .unset, .unset, .unset, .unset, .unset, .unset, .unset, .unset] [(.long (lm - z12)), (.long z15)]))
    refine own_go (fun t k => XS.lcmp X16.here hx rfl (hb hby at_136) rfl k) ?_
    show OwnG p.tables e below _ (T16.setTop (mkF m 137 #[.val (.long p0), .second, .val (.long p1), .second, .val (.long p2), .second, .val (.int p3), .val (.long lm), .second, .val (.ref b2), .val (.long z8), .second, .val (.int (own_took lm (0 : Int64) z8)), .val (.long z12), .second, .val (.long z15), .second, .val (.int (own_took lm z12 z15)), .unset, .unset, .unset, .unset, .unset, .unset, .unset, .unset, .unset] [(.int (lcmpW z15 (lm - z12)))]))
    obtain ⟨z18, hp18, hn18⟩ := own_pick ((lm - z12) < z15) ((0 : Int32)) ((1 : Int32))
    refine own_go (nxt := T16.setTop (mkF m 145 #[.val (.long p0), .second, .val (.long p1), .second, .val (.long p2), .second, .val (.int p3), .val (.long lm), .second, .val (.ref b2), .val (.long z8), .second, .val (.int (own_took lm (0 : Int64) z8)), .val (.long z12), .second, .val (.long z15), .second, .val (.int (own_took lm z12 z15)), .unset, .unset, .unset, .unset, .unset, .unset, .unset, .unset, .unset] [(.int z18)])) (fun t k => ?_) ?_
    · by_cases hq : (lm - z12) < z15
      · rw [hp18 hq] at k
        refine XS.ifYes X16.here hx rfl (pc0 := 137) (pc' := 144) rfl (hb hby at_137) rfl ((if0 _ _).trans (tlt ((lw_gt _ _).mpr hq)).2.2.1) (by decide) (by decide) ?_
        show Steps p.tables e below (T16.setTop (mkF m 144 #[.val (.long p0), .second, .val (.long p1), .second, .val (.long p2), .second, .val (.int p3), .val (.long lm), .second, .val (.ref b2), .val (.long z8), .second, .val (.int (own_took lm (0 : Int64) z8)), .val (.long z12), .second, .val (.long z15), .second, .val (.int (own_took lm z12 z15)), .unset, .unset, .unset, .unset, .unset, .unset, .unset, .unset, .unset] [])) _
        refine XS.iconst X16.here hx rfl (hb hby at_144) ?_
        show Steps p.tables e below (T16.setTop (mkF m 145 #[.val (.long p0), .second, .val (.long p1), .second, .val (.long p2), .second, .val (.int p3), .val (.long lm), .second, .val (.ref b2), .val (.long z8), .second, .val (.int (own_took lm (0 : Int64) z8)), .val (.long z12), .second, .val (.long z15), .second, .val (.int (own_took lm z12 z15)), .unset, .unset, .unset, .unset, .unset, .unset, .unset, .unset, .unset] [(.int (0 : Int32))])) _
        exact k
      · rw [hn18 hq] at k
        refine XS.ifNo X16.here hx rfl (hb hby at_137) rfl ((if0 _ _).trans (flt (mt (lw_gt _ _).mp hq)).2.2.1) ?_
        show Steps p.tables e below (T16.setTop (mkF m 140 #[.val (.long p0), .second, .val (.long p1), .second, .val (.long p2), .second, .val (.int p3), .val (.long lm), .second, .val (.ref b2), .val (.long z8), .second, .val (.int (own_took lm (0 : Int64) z8)), .val (.long z12), .second, .val (.long z15), .second, .val (.int (own_took lm z12 z15)), .unset, .unset, .unset, .unset, .unset, .unset, .unset, .unset, .unset] [])) _
        refine XS.iconst X16.here hx rfl (hb hby at_140) ?_
        show Steps p.tables e below (T16.setTop (mkF m 141 #[.val (.long p0), .second, .val (.long p1), .second, .val (.long p2), .second, .val (.int p3), .val (.long lm), .second, .val (.ref b2), .val (.long z8), .second, .val (.int (own_took lm (0 : Int64) z8)), .val (.long z12), .second, .val (.long z15), .second, .val (.int (own_took lm z12 z15)), .unset, .unset, .unset, .unset, .unset, .unset, .unset, .unset, .unset] [(.int (1 : Int32))])) _
        refine XS.goto X16.here hx rfl (pc0 := 141) (pc' := 145) rfl (hb hby at_141) (by decide) (by decide) ?_
        show Steps p.tables e below (T16.setTop (mkF m 145 #[.val (.long p0), .second, .val (.long p1), .second, .val (.long p2), .second, .val (.int p3), .val (.long lm), .second, .val (.ref b2), .val (.long z8), .second, .val (.int (own_took lm (0 : Int64) z8)), .val (.long z12), .second, .val (.long z15), .second, .val (.int (own_took lm z12 z15)), .unset, .unset, .unset, .unset, .unset, .unset, .unset, .unset, .unset] [(.int (1 : Int32))])) _
        exact k
    show OwnG p.tables e below _ (T16.setTop (mkF m 145 #[.val (.long p0), .second, .val (.long p1), .second, .val (.long p2), .second, .val (.int p3), .val (.long lm), .second, .val (.ref b2), .val (.long z8), .second, .val (.int (own_took lm (0 : Int64) z8)), .val (.long z12), .second, .val (.long z15), .second, .val (.int (own_took lm z12 z15)), .unset, .unset, .unset, .unset, .unset, .unset, .unset, .unset, .unset] [(.int z18)]))
    refine own_go (fun t k => XS.istore X16.here hx rfl (hb hby at_145) rfl (l' := #[.val (.long p0), .second, .val (.long p1), .second, .val (.long p2), .second, .val (.int p3), .val (.long lm), .second, .val (.ref b2), .val (.long z8), .second, .val (.int (own_took lm (0 : Int64) z8)), .val (.long z12), .second, .val (.long z15), .second, .val (.int (own_took lm z12 z15)), .val (.int z18), .unset, .unset, .unset, .unset, .unset, .unset, .unset, .unset]) rfl k) ?_
    show OwnG p.tables e below _ (T16.setTop (mkF m 147 #[.val (.long p0), .second, .val (.long p1), .second, .val (.long p2), .second, .val (.int p3), .val (.long lm), .second, .val (.ref b2), .val (.long z8), .second, .val (.int (own_took lm (0 : Int64) z8)), .val (.long z12), .second, .val (.long z15), .second, .val (.int (own_took lm z12 z15)), .val (.int z18), .unset, .unset, .unset, .unset, .unset, .unset, .unset, .unset] []))
    refine own_go (fun t k => XS.iload X16.here hx rfl (hb hby at_147) rfl  k) ?_
    show OwnG p.tables e below _ (T16.setTop (mkF m 149 #[.val (.long p0), .second, .val (.long p1), .second, .val (.long p2), .second, .val (.int p3), .val (.long lm), .second, .val (.ref b2), .val (.long z8), .second, .val (.int (own_took lm (0 : Int64) z8)), .val (.long z12), .second, .val (.long z15), .second, .val (.int (own_took lm z12 z15)), .val (.int z18), .unset, .unset, .unset, .unset, .unset, .unset, .unset, .unset] [(.int (own_took lm z12 z15))]))
    refine own_go (fun t k => XS.iload X16.here hx rfl (hb hby at_149) rfl  k) ?_
    show OwnG p.tables e below _ (T16.setTop (mkF m 151 #[.val (.long p0), .second, .val (.long p1), .second, .val (.long p2), .second, .val (.int p3), .val (.long lm), .second, .val (.ref b2), .val (.long z8), .second, .val (.int (own_took lm (0 : Int64) z8)), .val (.long z12), .second, .val (.long z15), .second, .val (.int (own_took lm z12 z15)), .val (.int z18), .unset, .unset, .unset, .unset, .unset, .unset, .unset, .unset] [(.int z18), (.int (own_took lm z12 z15))]))
    have hr2 : (own_took lm z12 z15) = z18 := own_took_eq hp18 hn18
    refine own_go (fun t k => XS.icmpYes X16.here hx rfl (pc0 := 151) (pc' := 156) rfl (hb hby at_151) rfl (teq hr2).1 (by decide) (by decide) k) ?_
    show OwnG p.tables e below _ (T16.setTop (mkF m 156 #[.val (.long p0), .second, .val (.long p1), .second, .val (.long p2), .second, .val (.int p3), .val (.long lm), .second, .val (.ref b2), .val (.long z8), .second, .val (.int (own_took lm (0 : Int64) z8)), .val (.long z12), .second, .val (.long z15), .second, .val (.int (own_took lm z12 z15)), .val (.int z18), .unset, .unset, .unset, .unset, .unset, .unset, .unset, .unset] []))
    refine own_go (fun t k => XS.iload X16.here hx rfl (hb hby at_156) rfl  k) ?_
    show OwnG p.tables e below _ (T16.setTop (mkF m 158 #[.val (.long p0), .second, .val (.long p1), .second, .val (.long p2), .second, .val (.int p3), .val (.long lm), .second, .val (.ref b2), .val (.long z8), .second, .val (.int (own_took lm (0 : Int64) z8)), .val (.long z12), .second, .val (.long z15), .second, .val (.int (own_took lm z12 z15)), .val (.int z18), .unset, .unset, .unset, .unset, .unset, .unset, .unset, .unset] [(.int (own_took lm z12 z15))]))
    obtain ⟨z19, hp19, hn19⟩ := own_pick ((own_took lm z12 z15) = (0 : Int32)) (z12) ((z12 + z15))
    refine own_go (nxt := T16.setTop (mkF m 171 #[.val (.long p0), .second, .val (.long p1), .second, .val (.long p2), .second, .val (.int p3), .val (.long lm), .second, .val (.ref b2), .val (.long z8), .second, .val (.int (own_took lm (0 : Int64) z8)), .val (.long z12), .second, .val (.long z15), .second, .val (.int (own_took lm z12 z15)), .val (.int z18), .unset, .unset, .unset, .unset, .unset, .unset, .unset, .unset] [(.long z19)])) (fun t k => ?_) ?_
    · by_cases hq : (own_took lm z12 z15) = (0 : Int32)
      · rw [hp19 hq] at k
        refine XS.ifYes X16.here hx rfl (pc0 := 158) (pc' := 169) rfl (hb hby at_158) rfl ((if0 _ _).trans (teq hq).1) (by decide) (by decide) ?_
        show Steps p.tables e below (T16.setTop (mkF m 169 #[.val (.long p0), .second, .val (.long p1), .second, .val (.long p2), .second, .val (.int p3), .val (.long lm), .second, .val (.ref b2), .val (.long z8), .second, .val (.int (own_took lm (0 : Int64) z8)), .val (.long z12), .second, .val (.long z15), .second, .val (.int (own_took lm z12 z15)), .val (.int z18), .unset, .unset, .unset, .unset, .unset, .unset, .unset, .unset] [])) _
        refine XS.lload X16.here hx rfl (hb hby at_169) rfl  ?_
        show Steps p.tables e below (T16.setTop (mkF m 171 #[.val (.long p0), .second, .val (.long p1), .second, .val (.long p2), .second, .val (.int p3), .val (.long lm), .second, .val (.ref b2), .val (.long z8), .second, .val (.int (own_took lm (0 : Int64) z8)), .val (.long z12), .second, .val (.long z15), .second, .val (.int (own_took lm z12 z15)), .val (.int z18), .unset, .unset, .unset, .unset, .unset, .unset, .unset, .unset] [(.long z12)])) _
        exact k
      · rw [hn19 hq] at k
        refine XS.ifNo X16.here hx rfl (hb hby at_158) rfl ((if0 _ _).trans (feq hq).1) ?_
        show Steps p.tables e below (T16.setTop (mkF m 161 #[.val (.long p0), .second, .val (.long p1), .second, .val (.long p2), .second, .val (.int p3), .val (.long lm), .second, .val (.ref b2), .val (.long z8), .second, .val (.int (own_took lm (0 : Int64) z8)), .val (.long z12), .second, .val (.long z15), .second, .val (.int (own_took lm z12 z15)), .val (.int z18), .unset, .unset, .unset, .unset, .unset, .unset, .unset, .unset] [])) _
        refine XS.lload X16.here hx rfl (hb hby at_161) rfl  ?_
        show Steps p.tables e below (T16.setTop (mkF m 163 #[.val (.long p0), .second, .val (.long p1), .second, .val (.long p2), .second, .val (.int p3), .val (.long lm), .second, .val (.ref b2), .val (.long z8), .second, .val (.int (own_took lm (0 : Int64) z8)), .val (.long z12), .second, .val (.long z15), .second, .val (.int (own_took lm z12 z15)), .val (.int z18), .unset, .unset, .unset, .unset, .unset, .unset, .unset, .unset] [(.long z12)])) _
        refine XS.lload X16.here hx rfl (hb hby at_163) rfl  ?_
        show Steps p.tables e below (T16.setTop (mkF m 165 #[.val (.long p0), .second, .val (.long p1), .second, .val (.long p2), .second, .val (.int p3), .val (.long lm), .second, .val (.ref b2), .val (.long z8), .second, .val (.int (own_took lm (0 : Int64) z8)), .val (.long z12), .second, .val (.long z15), .second, .val (.int (own_took lm z12 z15)), .val (.int z18), .unset, .unset, .unset, .unset, .unset, .unset, .unset, .unset] [(.long z15), (.long z12)])) _
        refine XS.ladd X16.here hx rfl (hb hby at_165) rfl ?_
        show Steps p.tables e below (T16.setTop (mkF m 166 #[.val (.long p0), .second, .val (.long p1), .second, .val (.long p2), .second, .val (.int p3), .val (.long lm), .second, .val (.ref b2), .val (.long z8), .second, .val (.int (own_took lm (0 : Int64) z8)), .val (.long z12), .second, .val (.long z15), .second, .val (.int (own_took lm z12 z15)), .val (.int z18), .unset, .unset, .unset, .unset, .unset, .unset, .unset, .unset] [(.long (z12 + z15))])) _
        refine XS.goto X16.here hx rfl (pc0 := 166) (pc' := 171) rfl (hb hby at_166) (by decide) (by decide) ?_
        show Steps p.tables e below (T16.setTop (mkF m 171 #[.val (.long p0), .second, .val (.long p1), .second, .val (.long p2), .second, .val (.int p3), .val (.long lm), .second, .val (.ref b2), .val (.long z8), .second, .val (.int (own_took lm (0 : Int64) z8)), .val (.long z12), .second, .val (.long z15), .second, .val (.int (own_took lm z12 z15)), .val (.int z18), .unset, .unset, .unset, .unset, .unset, .unset, .unset, .unset] [(.long (z12 + z15))])) _
        exact k
    show OwnG p.tables e below _ (T16.setTop (mkF m 171 #[.val (.long p0), .second, .val (.long p1), .second, .val (.long p2), .second, .val (.int p3), .val (.long lm), .second, .val (.ref b2), .val (.long z8), .second, .val (.int (own_took lm (0 : Int64) z8)), .val (.long z12), .second, .val (.long z15), .second, .val (.int (own_took lm z12 z15)), .val (.int z18), .unset, .unset, .unset, .unset, .unset, .unset, .unset, .unset] [(.long z19)]))
    have F20 : Fld Z T16.heap b2 "com/example/offst/offst/group/MemberBytes" "held" "J" (.long z19) := by rw [own_took_0 hp19 hn19]; exact Fq16_2
    refine own_go (fun t k => XS.lstore X16.here hx rfl (hb hby at_171) rfl (l' := #[.val (.long p0), .second, .val (.long p1), .second, .val (.long p2), .second, .val (.int p3), .val (.long lm), .second, .val (.ref b2), .val (.long z8), .second, .val (.int (own_took lm (0 : Int64) z8)), .val (.long z12), .second, .val (.long z15), .second, .val (.int (own_took lm z12 z15)), .val (.int z18), .val (.long z19), .second, .unset, .unset, .unset, .unset, .unset, .unset]) rfl k) ?_
    show OwnG p.tables e below _ (T16.setTop (mkF m 173 #[.val (.long p0), .second, .val (.long p1), .second, .val (.long p2), .second, .val (.int p3), .val (.long lm), .second, .val (.ref b2), .val (.long z8), .second, .val (.int (own_took lm (0 : Int64) z8)), .val (.long z12), .second, .val (.long z15), .second, .val (.int (own_took lm z12 z15)), .val (.int z18), .val (.long z19), .second, .unset, .unset, .unset, .unset, .unset, .unset] []))
    refine own_go (fun t k => XS.lload X16.here hx rfl (hb hby at_173) rfl  k) ?_
    show OwnG p.tables e below _ (T16.setTop (mkF m 175 #[.val (.long p0), .second, .val (.long p1), .second, .val (.long p2), .second, .val (.int p3), .val (.long lm), .second, .val (.ref b2), .val (.long z8), .second, .val (.int (own_took lm (0 : Int64) z8)), .val (.long z12), .second, .val (.long z15), .second, .val (.int (own_took lm z12 z15)), .val (.int z18), .val (.long z19), .second, .unset, .unset, .unset, .unset, .unset, .unset] [(.long z19)]))
    refine own_go (fun t k => XS.lconst X16.here hx rfl (hb hby at_175) k) ?_
    show OwnG p.tables e below _ (T16.setTop (mkF m 176 #[.val (.long p0), .second, .val (.long p1), .second, .val (.long p2), .second, .val (.int p3), .val (.long lm), .second, .val (.ref b2), .val (.long z8), .second, .val (.int (own_took lm (0 : Int64) z8)), .val (.long z12), .second, .val (.long z15), .second, .val (.int (own_took lm z12 z15)), .val (.int z18), .val (.long z19), .second, .unset, .unset, .unset, .unset, .unset, .unset] [(.long (0 : Int64)), (.long z19)]))
    refine own_go (fun t k => XS.lcmp X16.here hx rfl (hb hby at_176) rfl k) ?_
    show OwnG p.tables e below _ (T16.setTop (mkF m 177 #[.val (.long p0), .second, .val (.long p1), .second, .val (.long p2), .second, .val (.int p3), .val (.long lm), .second, .val (.ref b2), .val (.long z8), .second, .val (.int (own_took lm (0 : Int64) z8)), .val (.long z12), .second, .val (.long z15), .second, .val (.int (own_took lm z12 z15)), .val (.int z18), .val (.long z19), .second, .unset, .unset, .unset, .unset, .unset, .unset] [(.int (lcmpW z19 (0 : Int64)))]))
    by_cases hc21 : z19 < (0 : Int64)
    · refine own_go (fun t k => XS.ifNo X16.here hx rfl (hb hby at_177) rfl ((if0 _ _).trans (tlt ((lw_lt _ _).mpr hc21)).2.1) k) ?_
      show OwnG p.tables e below _ (T16.setTop (mkF m 180 #[.val (.long p0), .second, .val (.long p1), .second, .val (.long p2), .second, .val (.int p3), .val (.long lm), .second, .val (.ref b2), .val (.long z8), .second, .val (.int (own_took lm (0 : Int64) z8)), .val (.long z12), .second, .val (.long z15), .second, .val (.int (own_took lm z12 z15)), .val (.int z18), .val (.long z19), .second, .unset, .unset, .unset, .unset, .unset, .unset] []))
      refine own_go (fun t k => XS.iconst X16.here hx rfl (hb hby at_180) k) ?_
      show OwnG p.tables e below _ (T16.setTop (mkF m 181 #[.val (.long p0), .second, .val (.long p1), .second, .val (.long p2), .second, .val (.int p3), .val (.long lm), .second, .val (.ref b2), .val (.long z8), .second, .val (.int (own_took lm (0 : Int64) z8)), .val (.long z12), .second, .val (.long z15), .second, .val (.int (own_took lm z12 z15)), .val (.int z18), .val (.long z19), .second, .unset, .unset, .unset, .unset, .unset, .unset] [(.int (1 : Int32))]))
      obtain ⟨fs, hr, hrun, hended, hW, hsame⟩ := X16.leave (v := some (.int (1 : Int32))) (fun h => by rw [Bd.returns] at h; cases h)
      refine ⟨_, _, retN X16 hx (t := .boolean) Bd.returns (by simp) (hb hby at_181) hr, hrun, hended, _, _, rfl, ?_, ⟨_, rfl⟩, hW, hsame.mono (by decide) (by decide)⟩
      show Q_own_law Z p0 p1 p2 p3 h0 n0 _ T16.heap _
      exact ⟨rfl, N16⟩
    · refine own_go (fun t k => XS.ifYes X16.here hx rfl (pc0 := 177) (pc' := 182) rfl (hb hby at_177) rfl ((if0 _ _).trans (flt (mt (lw_lt _ _).mp hc21)).2.1) (by decide) (by decide) k) ?_
      show OwnG p.tables e below _ (T16.setTop (mkF m 182 #[.val (.long p0), .second, .val (.long p1), .second, .val (.long p2), .second, .val (.int p3), .val (.long lm), .second, .val (.ref b2), .val (.long z8), .second, .val (.int (own_took lm (0 : Int64) z8)), .val (.long z12), .second, .val (.long z15), .second, .val (.int (own_took lm z12 z15)), .val (.int z18), .val (.long z19), .second, .unset, .unset, .unset, .unset, .unset, .unset] []))
      refine own_go (fun t k => XS.lload X16.here hx rfl (hb hby at_182) rfl  k) ?_
      show OwnG p.tables e below _ (T16.setTop (mkF m 184 #[.val (.long p0), .second, .val (.long p1), .second, .val (.long p2), .second, .val (.int p3), .val (.long lm), .second, .val (.ref b2), .val (.long z8), .second, .val (.int (own_took lm (0 : Int64) z8)), .val (.long z12), .second, .val (.long z15), .second, .val (.int (own_took lm z12 z15)), .val (.int z18), .val (.long z19), .second, .unset, .unset, .unset, .unset, .unset, .unset] [(.long lm)]))
      refine own_go (fun t k => XS.lload X16.here hx rfl (hb hby at_184) rfl  k) ?_
      show OwnG p.tables e below _ (T16.setTop (mkF m 186 #[.val (.long p0), .second, .val (.long p1), .second, .val (.long p2), .second, .val (.int p3), .val (.long lm), .second, .val (.ref b2), .val (.long z8), .second, .val (.int (own_took lm (0 : Int64) z8)), .val (.long z12), .second, .val (.long z15), .second, .val (.int (own_took lm z12 z15)), .val (.int z18), .val (.long z19), .second, .unset, .unset, .unset, .unset, .unset, .unset] [(.long z19), (.long lm)]))
      refine own_go (fun t k => XS.lsub X16.here hx rfl (hb hby at_186) rfl k) ?_
      show OwnG p.tables e below _ (T16.setTop (mkF m 187 #[.val (.long p0), .second, .val (.long p1), .second, .val (.long p2), .second, .val (.int p3), .val (.long lm), .second, .val (.ref b2), .val (.long z8), .second, .val (.int (own_took lm (0 : Int64) z8)), .val (.long z12), .second, .val (.long z15), .second, .val (.int (own_took lm z12 z15)), .val (.int z18), .val (.long z19), .second, .unset, .unset, .unset, .unset, .unset, .unset] [(.long (lm - z19))]))
      refine own_go (fun t k => XS.lstore X16.here hx rfl (hb hby at_187) rfl (l' := #[.val (.long p0), .second, .val (.long p1), .second, .val (.long p2), .second, .val (.int p3), .val (.long lm), .second, .val (.ref b2), .val (.long z8), .second, .val (.int (own_took lm (0 : Int64) z8)), .val (.long z12), .second, .val (.long z15), .second, .val (.int (own_took lm z12 z15)), .val (.int z18), .val (.long z19), .second, .val (.long (lm - z19)), .second, .unset, .unset, .unset, .unset]) rfl k) ?_
      show OwnG p.tables e below _ (T16.setTop (mkF m 189 #[.val (.long p0), .second, .val (.long p1), .second, .val (.long p2), .second, .val (.int p3), .val (.long lm), .second, .val (.ref b2), .val (.long z8), .second, .val (.int (own_took lm (0 : Int64) z8)), .val (.long z12), .second, .val (.long z15), .second, .val (.int (own_took lm z12 z15)), .val (.int z18), .val (.long z19), .second, .val (.long (lm - z19)), .second, .unset, .unset, .unset, .unset] []))
      refine own_go (fun t k => XS.lload X16.here hx rfl (hb hby at_189) rfl  k) ?_
      show OwnG p.tables e below _ (T16.setTop (mkF m 191 #[.val (.long p0), .second, .val (.long p1), .second, .val (.long p2), .second, .val (.int p3), .val (.long lm), .second, .val (.ref b2), .val (.long z8), .second, .val (.int (own_took lm (0 : Int64) z8)), .val (.long z12), .second, .val (.long z15), .second, .val (.int (own_took lm z12 z15)), .val (.int z18), .val (.long z19), .second, .val (.long (lm - z19)), .second, .unset, .unset, .unset, .unset] [(.long (lm - z19))]))
      refine own_go (fun t k => (X16.ldc2Long hx hown (mvT hZ (hw _ (List.mem_of_getElem? (i := 0) rfl))) (g := (mkF m 191 #[.val (.long p0), .second, .val (.long p1), .second, .val (.long p2), .second, .val (.int p3), .val (.long lm), .second, .val (.ref b2), .val (.long z8), .second, .val (.int (own_took lm (0 : Int64) z8)), .val (.long z12), .second, .val (.long z15), .second, .val (.int (own_took lm z12 z15)), .val (.int z18), .val (.long z19), .second, .val (.long (lm - z19)), .second, .unset, .unset, .unset, .unset] [(.long (lm - z19))])) rfl (hb hby at_191)) t k) ?_
      show OwnG p.tables e below _ (T16.setTop (mkF m 194 #[.val (.long p0), .second, .val (.long p1), .second, .val (.long p2), .second, .val (.int p3), .val (.long lm), .second, .val (.ref b2), .val (.long z8), .second, .val (.int (own_took lm (0 : Int64) z8)), .val (.long z12), .second, .val (.long z15), .second, .val (.int (own_took lm z12 z15)), .val (.int z18), .val (.long z19), .second, .val (.long (lm - z19)), .second, .unset, .unset, .unset, .unset] [(.long (9223372036854775807 : Int64)), (.long (lm - z19))]))
      refine own_go (fun t k => XS.lcmp X16.here hx rfl (hb hby at_194) rfl k) ?_
      show OwnG p.tables e below _ (T16.setTop (mkF m 195 #[.val (.long p0), .second, .val (.long p1), .second, .val (.long p2), .second, .val (.int p3), .val (.long lm), .second, .val (.ref b2), .val (.long z8), .second, .val (.int (own_took lm (0 : Int64) z8)), .val (.long z12), .second, .val (.long z15), .second, .val (.int (own_took lm z12 z15)), .val (.int z18), .val (.long z19), .second, .val (.long (lm - z19)), .second, .unset, .unset, .unset, .unset] [(.int (lcmpW (lm - z19) (9223372036854775807 : Int64)))]))
      by_cases hc22 : (lm - z19) = (9223372036854775807 : Int64)
      · refine own_go (fun t k => XS.ifNo X16.here hx rfl (hb hby at_195) rfl ((if0 _ _).trans (teq ((lw_eq _ _).mpr hc22)).2) k) ?_
        show OwnG p.tables e below _ (T16.setTop (mkF m 198 #[.val (.long p0), .second, .val (.long p1), .second, .val (.long p2), .second, .val (.int p3), .val (.long lm), .second, .val (.ref b2), .val (.long z8), .second, .val (.int (own_took lm (0 : Int64) z8)), .val (.long z12), .second, .val (.long z15), .second, .val (.int (own_took lm z12 z15)), .val (.int z18), .val (.long z19), .second, .val (.long (lm - z19)), .second, .unset, .unset, .unset, .unset] []))
        refine own_go (fun t k => XS.iconst X16.here hx rfl (hb hby at_198) k) ?_
        show OwnG p.tables e below _ (T16.setTop (mkF m 199 #[.val (.long p0), .second, .val (.long p1), .second, .val (.long p2), .second, .val (.int p3), .val (.long lm), .second, .val (.ref b2), .val (.long z8), .second, .val (.int (own_took lm (0 : Int64) z8)), .val (.long z12), .second, .val (.long z15), .second, .val (.int (own_took lm z12 z15)), .val (.int z18), .val (.long z19), .second, .val (.long (lm - z19)), .second, .unset, .unset, .unset, .unset] [(.int (0 : Int32))]))
        refine own_go (fun t k => XS.goto X16.here hx rfl (pc0 := 199) (pc' := 211) rfl (hb hby at_199) (by decide) (by decide) k) ?_
        show OwnG p.tables e below _ (T16.setTop (mkF m 211 #[.val (.long p0), .second, .val (.long p1), .second, .val (.long p2), .second, .val (.int p3), .val (.long lm), .second, .val (.ref b2), .val (.long z8), .second, .val (.int (own_took lm (0 : Int64) z8)), .val (.long z12), .second, .val (.long z15), .second, .val (.int (own_took lm z12 z15)), .val (.int z18), .val (.long z19), .second, .val (.long (lm - z19)), .second, .unset, .unset, .unset, .unset] [(.int (0 : Int32))]))
        refine own_go (fun t k => XS.istore X16.here hx rfl (hb hby at_211) rfl (l' := #[.val (.long p0), .second, .val (.long p1), .second, .val (.long p2), .second, .val (.int p3), .val (.long lm), .second, .val (.ref b2), .val (.long z8), .second, .val (.int (own_took lm (0 : Int64) z8)), .val (.long z12), .second, .val (.long z15), .second, .val (.int (own_took lm z12 z15)), .val (.int z18), .val (.long z19), .second, .val (.long (lm - z19)), .second, .val (.int (0 : Int32)), .unset, .unset, .unset]) rfl k) ?_
        show OwnG p.tables e below _ (T16.setTop (mkF m 213 #[.val (.long p0), .second, .val (.long p1), .second, .val (.long p2), .second, .val (.int p3), .val (.long lm), .second, .val (.ref b2), .val (.long z8), .second, .val (.int (own_took lm (0 : Int64) z8)), .val (.long z12), .second, .val (.long z15), .second, .val (.int (own_took lm z12 z15)), .val (.int z18), .val (.long z19), .second, .val (.long (lm - z19)), .second, .val (.int (0 : Int32)), .unset, .unset, .unset] []))
        refine own_go (fun t k => XS.aload X16.here hx rfl (hb hby at_213) rfl rfl k) ?_
        show OwnG p.tables e below _ (T16.setTop (mkF m 215 #[.val (.long p0), .second, .val (.long p1), .second, .val (.long p2), .second, .val (.int p3), .val (.long lm), .second, .val (.ref b2), .val (.long z8), .second, .val (.int (own_took lm (0 : Int64) z8)), .val (.long z12), .second, .val (.long z15), .second, .val (.int (own_took lm z12 z15)), .val (.int z18), .val (.long z19), .second, .val (.long (lm - z19)), .second, .val (.int (0 : Int32)), .unset, .unset, .unset] [(.ref b2)]))
        refine own_go (fun t k => XS.lload X16.here hx rfl (hb hby at_215) rfl  k) ?_
        show OwnG p.tables e below _ (T16.setTop (mkF m 217 #[.val (.long p0), .second, .val (.long p1), .second, .val (.long p2), .second, .val (.int p3), .val (.long lm), .second, .val (.ref b2), .val (.long z8), .second, .val (.int (own_took lm (0 : Int64) z8)), .val (.long z12), .second, .val (.long z15), .second, .val (.int (own_took lm z12 z15)), .val (.int z18), .val (.long z19), .second, .val (.long (lm - z19)), .second, .val (.int (0 : Int32)), .unset, .unset, .unset] [(.long (lm - z19)), (.ref b2)]))
        obtain ⟨cq23, kq23, q23a, q23b, q23c⟩ := isOf hZ rfl Fq16_0
        obtain ⟨_, _, ⟨T23, L23, k23, n23⟩, -, X23, ⟨Lc23, hQ23, l23, y23, z23⟩, st23⟩ := X16.virtualBack hx (y := (⟨"com/example/offst/offst/group/MemberBytes", "take", "(J)Z"⟩ : MethodName)) (z := (⟨"com/example/offst/offst/group/MemberBytes", "take", "(J)Z"⟩ : MethodName)) hown (mvT hZ (hw _ (List.mem_of_getElem? (i := 16) rfl))) (mvT hZ (hw _ (List.mem_of_getElem? (i := 17) rfl))) (notFace_of_selects (args := #[]) (mvT hZ (hw _ (List.mem_of_getElem? (i := 19) rfl)))) (mvT hZ (hw _ (List.mem_of_getElem? (i := 19) rfl))) (mvT hZ (hw _ (List.mem_of_getElem? (i := 18) rfl))) (by decide) (backOf (W := 0) (own_take l Z a0 hw [] b2 (lm - z19) lm z19 T16.heap n0 Z16 Fq16_0 Fq16_1 F20 g_b2) hZ (hw _ (List.mem_of_getElem? (i := 20) rfl)) (hw _ (List.mem_of_getElem? (i := 7) rfl)) (by decide) (by decide)) q23a q23c (g := (mkF m 217 #[.val (.long p0), .second, .val (.long p1), .second, .val (.long p2), .second, .val (.int p3), .val (.long lm), .second, .val (.ref b2), .val (.long z8), .second, .val (.int (own_took lm (0 : Int64) z8)), .val (.long z12), .second, .val (.long z15), .second, .val (.int (own_took lm z12 z15)), .val (.int z18), .val (.long z19), .second, .val (.long (lm - z19)), .second, .val (.int (0 : Int32)), .unset, .unset, .unset] [(.long (lm - z19)), (.ref b2)])) rfl (by rw [hml]; rfl) (Steps.refl _) (argsL := [(.long (lm - z19))]) (rest := []) (lenOf own_pd44 rfl) rfl (by show 2 * 0 + _ ≤ _; exact Nat.le_of_eq rfl) (hb hby at_217) (fun _ _ => ⟨rfl, rfl, (by decide : 1 + 0 ≤ _), (by decide : 2 + 0 ≤ _)⟩)
        dsimp only [Pt.U, Pt.locs, Pt.cells, Pt.slots] at X23 l23 y23 z23 st23 hQ23
        subst l23 y23 z23
        obtain ⟨rfl, Nq23, Kq23, Fq23_0, Fq23_1, Fq23_2⟩ := hQ23
        have N23 := Fr.app N16 Nq23
        have F24 : Exa Z T23.heap b2 "com/example/offst/offst/group/MemberBytes" := Fq16_0.keep Kq23
        have K23 : Keep h0 T23.heap [] := K16.trans Kq23 (allS (Or.inr sz_b2) all0)
        have Z23 : n0 ≤ T23.heap.size := Nat.le_trans Z16 Kq23.1
        refine own_go (fun t k => st23.trans k) ?_
        show OwnG p.tables e below _ (T23.setTop (mkF m 220 #[.val (.long p0), .second, .val (.long p1), .second, .val (.long p2), .second, .val (.int p3), .val (.long lm), .second, .val (.ref b2), .val (.long z8), .second, .val (.int (own_took lm (0 : Int64) z8)), .val (.long z12), .second, .val (.long z15), .second, .val (.int (own_took lm z12 z15)), .val (.int z18), .val (.long z19), .second, .val (.long (lm - z19)), .second, .val (.int (0 : Int32)), .unset, .unset, .unset] [(.int (own_took lm z19 (lm - z19)))]))
        rw [show (own_took lm z19 (lm - z19)) = 1 from if_neg (own_irr _)]
        show OwnG p.tables e below _ (T23.setTop (mkF m 220 #[.val (.long p0), .second, .val (.long p1), .second, .val (.long p2), .second, .val (.int p3), .val (.long lm), .second, .val (.ref b2), .val (.long z8), .second, .val (.int (own_took lm (0 : Int64) z8)), .val (.long z12), .second, .val (.long z15), .second, .val (.int (own_took lm z12 z15)), .val (.int z18), .val (.long z19), .second, .val (.long (lm - z19)), .second, .val (.int (0 : Int32)), .unset, .unset, .unset] [(.int (1 : Int32))]))
        have F25 : Fld Z T23.heap b2 "com/example/offst/offst/group/MemberBytes" "held" "J" (.long lm) := by rw [show lm = own_held lm z19 (lm - z19) from (own_fill lm z19).trans (if_neg (own_irr _)).symm]; exact Fq23_2
        refine own_go (fun t k => XS.istore X23.here hx rfl (hb hby at_220) rfl (l' := #[.val (.long p0), .second, .val (.long p1), .second, .val (.long p2), .second, .val (.int p3), .val (.long lm), .second, .val (.ref b2), .val (.long z8), .second, .val (.int (own_took lm (0 : Int64) z8)), .val (.long z12), .second, .val (.long z15), .second, .val (.int (own_took lm z12 z15)), .val (.int z18), .val (.long z19), .second, .val (.long (lm - z19)), .second, .val (.int (0 : Int32)), .val (.int (1 : Int32)), .unset, .unset]) rfl k) ?_
        show OwnG p.tables e below _ (T23.setTop (mkF m 222 #[.val (.long p0), .second, .val (.long p1), .second, .val (.long p2), .second, .val (.int p3), .val (.long lm), .second, .val (.ref b2), .val (.long z8), .second, .val (.int (own_took lm (0 : Int64) z8)), .val (.long z12), .second, .val (.long z15), .second, .val (.int (own_took lm z12 z15)), .val (.int z18), .val (.long z19), .second, .val (.long (lm - z19)), .second, .val (.int (0 : Int32)), .val (.int (1 : Int32)), .unset, .unset] []))
        refine own_go (fun t k => XS.aload X23.here hx rfl (hb hby at_222) rfl rfl k) ?_
        show OwnG p.tables e below _ (T23.setTop (mkF m 224 #[.val (.long p0), .second, .val (.long p1), .second, .val (.long p2), .second, .val (.int p3), .val (.long lm), .second, .val (.ref b2), .val (.long z8), .second, .val (.int (own_took lm (0 : Int64) z8)), .val (.long z12), .second, .val (.long z15), .second, .val (.int (own_took lm z12 z15)), .val (.int z18), .val (.long z19), .second, .val (.long (lm - z19)), .second, .val (.int (0 : Int32)), .val (.int (1 : Int32)), .unset, .unset] [(.ref b2)]))
        refine own_go (fun t k => XS.lconst X23.here hx rfl (hb hby at_224) k) ?_
        show OwnG p.tables e below _ (T23.setTop (mkF m 225 #[.val (.long p0), .second, .val (.long p1), .second, .val (.long p2), .second, .val (.int p3), .val (.long lm), .second, .val (.ref b2), .val (.long z8), .second, .val (.int (own_took lm (0 : Int64) z8)), .val (.long z12), .second, .val (.long z15), .second, .val (.int (own_took lm z12 z15)), .val (.int z18), .val (.long z19), .second, .val (.long (lm - z19)), .second, .val (.int (0 : Int32)), .val (.int (1 : Int32)), .unset, .unset] [(.long (1 : Int64)), (.ref b2)]))
        obtain ⟨cq26, kq26, q26a, q26b, q26c⟩ := isOf hZ rfl Fq23_0
        obtain ⟨_, _, ⟨T26, L26, k26, n26⟩, -, X26, ⟨Lc26, hQ26, l26, y26, z26⟩, st26⟩ := X23.virtualBack hx (y := (⟨"com/example/offst/offst/group/MemberBytes", "take", "(J)Z"⟩ : MethodName)) (z := (⟨"com/example/offst/offst/group/MemberBytes", "take", "(J)Z"⟩ : MethodName)) hown (mvT hZ (hw _ (List.mem_of_getElem? (i := 16) rfl))) (mvT hZ (hw _ (List.mem_of_getElem? (i := 17) rfl))) (notFace_of_selects (args := #[]) (mvT hZ (hw _ (List.mem_of_getElem? (i := 19) rfl)))) (mvT hZ (hw _ (List.mem_of_getElem? (i := 19) rfl))) (mvT hZ (hw _ (List.mem_of_getElem? (i := 18) rfl))) (by decide) (backOf (W := 0) (own_take l Z a0 hw [] b2 (1 : Int64) lm lm T23.heap n0 Z23 Fq23_0 Fq23_1 F25 g_b2) hZ (hw _ (List.mem_of_getElem? (i := 20) rfl)) (hw _ (List.mem_of_getElem? (i := 7) rfl)) (by decide) (by decide)) q26a q26c (g := (mkF m 225 #[.val (.long p0), .second, .val (.long p1), .second, .val (.long p2), .second, .val (.int p3), .val (.long lm), .second, .val (.ref b2), .val (.long z8), .second, .val (.int (own_took lm (0 : Int64) z8)), .val (.long z12), .second, .val (.long z15), .second, .val (.int (own_took lm z12 z15)), .val (.int z18), .val (.long z19), .second, .val (.long (lm - z19)), .second, .val (.int (0 : Int32)), .val (.int (1 : Int32)), .unset, .unset] [(.long (1 : Int64)), (.ref b2)])) rfl (by rw [hml]; rfl) (Steps.refl _) (argsL := [(.long (1 : Int64))]) (rest := []) (lenOf own_pd44 rfl) rfl (by show 2 * 0 + _ ≤ _; exact Nat.le_of_eq rfl) (hb hby at_225) (fun _ _ => ⟨rfl, rfl, (by decide : 1 + 0 ≤ _), (by decide : 2 + 0 ≤ _)⟩)
        dsimp only [Pt.U, Pt.locs, Pt.cells, Pt.slots] at X26 l26 y26 z26 st26 hQ26
        subst l26 y26 z26
        obtain ⟨rfl, Nq26, Kq26, Fq26_0, Fq26_1, Fq26_2⟩ := hQ26
        have N26 := Fr.app N23 Nq26
        have F27 : Exa Z T26.heap b2 "com/example/offst/offst/group/MemberBytes" := Fq23_0.keep Kq26
        have K26 : Keep h0 T26.heap [] := K23.trans Kq26 (allS (Or.inr sz_b2) all0)
        have Z26 : n0 ≤ T26.heap.size := Nat.le_trans Z23 Kq26.1
        refine own_go (fun t k => st26.trans k) ?_
        show OwnG p.tables e below _ (T26.setTop (mkF m 228 #[.val (.long p0), .second, .val (.long p1), .second, .val (.long p2), .second, .val (.int p3), .val (.long lm), .second, .val (.ref b2), .val (.long z8), .second, .val (.int (own_took lm (0 : Int64) z8)), .val (.long z12), .second, .val (.long z15), .second, .val (.int (own_took lm z12 z15)), .val (.int z18), .val (.long z19), .second, .val (.long (lm - z19)), .second, .val (.int (0 : Int32)), .val (.int (1 : Int32)), .unset, .unset] [(.int (own_took lm lm (1 : Int64)))]))
        have hx5 : lm - lm < (1 : Int64) := by rw [Int64.sub_self]; decide
        rw [show (own_took lm lm (1 : Int64)) = 0 from if_pos hx5]
        show OwnG p.tables e below _ (T26.setTop (mkF m 228 #[.val (.long p0), .second, .val (.long p1), .second, .val (.long p2), .second, .val (.int p3), .val (.long lm), .second, .val (.ref b2), .val (.long z8), .second, .val (.int (own_took lm (0 : Int64) z8)), .val (.long z12), .second, .val (.long z15), .second, .val (.int (own_took lm z12 z15)), .val (.int z18), .val (.long z19), .second, .val (.long (lm - z19)), .second, .val (.int (0 : Int32)), .val (.int (1 : Int32)), .unset, .unset] [(.int (0 : Int32))]))
        have F28 : Fld Z T26.heap b2 "com/example/offst/offst/group/MemberBytes" "held" "J" (.long lm) := by rw [show lm = own_held lm lm (1 : Int64) from (if_pos hx5).symm]; exact Fq26_2
        refine own_go (fun t k => XS.istore X26.here hx rfl (hb hby at_228) rfl (l' := #[.val (.long p0), .second, .val (.long p1), .second, .val (.long p2), .second, .val (.int p3), .val (.long lm), .second, .val (.ref b2), .val (.long z8), .second, .val (.int (own_took lm (0 : Int64) z8)), .val (.long z12), .second, .val (.long z15), .second, .val (.int (own_took lm z12 z15)), .val (.int z18), .val (.long z19), .second, .val (.long (lm - z19)), .second, .val (.int (0 : Int32)), .val (.int (1 : Int32)), .val (.int (0 : Int32)), .unset]) rfl k) ?_
        show OwnG p.tables e below _ (T26.setTop (mkF m 230 #[.val (.long p0), .second, .val (.long p1), .second, .val (.long p2), .second, .val (.int p3), .val (.long lm), .second, .val (.ref b2), .val (.long z8), .second, .val (.int (own_took lm (0 : Int64) z8)), .val (.long z12), .second, .val (.long z15), .second, .val (.int (own_took lm z12 z15)), .val (.int z18), .val (.long z19), .second, .val (.long (lm - z19)), .second, .val (.int (0 : Int32)), .val (.int (1 : Int32)), .val (.int (0 : Int32)), .unset] []))
        refine own_go (fun t k => XS.aload X26.here hx rfl (hb hby at_230) rfl rfl k) ?_
        show OwnG p.tables e below _ (T26.setTop (mkF m 232 #[.val (.long p0), .second, .val (.long p1), .second, .val (.long p2), .second, .val (.int p3), .val (.long lm), .second, .val (.ref b2), .val (.long z8), .second, .val (.int (own_took lm (0 : Int64) z8)), .val (.long z12), .second, .val (.long z15), .second, .val (.int (own_took lm z12 z15)), .val (.int z18), .val (.long z19), .second, .val (.long (lm - z19)), .second, .val (.int (0 : Int32)), .val (.int (1 : Int32)), .val (.int (0 : Int32)), .unset] [(.ref b2)]))
        refine own_go (fun t k => XS.lconst X26.here hx rfl (hb hby at_232) k) ?_
        show OwnG p.tables e below _ (T26.setTop (mkF m 233 #[.val (.long p0), .second, .val (.long p1), .second, .val (.long p2), .second, .val (.int p3), .val (.long lm), .second, .val (.ref b2), .val (.long z8), .second, .val (.int (own_took lm (0 : Int64) z8)), .val (.long z12), .second, .val (.long z15), .second, .val (.int (own_took lm z12 z15)), .val (.int z18), .val (.long z19), .second, .val (.long (lm - z19)), .second, .val (.int (0 : Int32)), .val (.int (1 : Int32)), .val (.int (0 : Int32)), .unset] [(.long (0 : Int64)), (.ref b2)]))
        obtain ⟨cq29, kq29, q29a, q29b, q29c⟩ := isOf hZ rfl Fq26_0
        obtain ⟨_, _, ⟨T29, L29, k29, n29⟩, -, X29, ⟨Lc29, hQ29, l29, y29, z29⟩, st29⟩ := X26.virtualBack hx (y := (⟨"com/example/offst/offst/group/MemberBytes", "take", "(J)Z"⟩ : MethodName)) (z := (⟨"com/example/offst/offst/group/MemberBytes", "take", "(J)Z"⟩ : MethodName)) hown (mvT hZ (hw _ (List.mem_of_getElem? (i := 16) rfl))) (mvT hZ (hw _ (List.mem_of_getElem? (i := 17) rfl))) (notFace_of_selects (args := #[]) (mvT hZ (hw _ (List.mem_of_getElem? (i := 19) rfl)))) (mvT hZ (hw _ (List.mem_of_getElem? (i := 19) rfl))) (mvT hZ (hw _ (List.mem_of_getElem? (i := 18) rfl))) (by decide) (backOf (W := 0) (own_take l Z a0 hw [] b2 (0 : Int64) lm lm T26.heap n0 Z26 Fq26_0 Fq26_1 F28 g_b2) hZ (hw _ (List.mem_of_getElem? (i := 20) rfl)) (hw _ (List.mem_of_getElem? (i := 7) rfl)) (by decide) (by decide)) q29a q29c (g := (mkF m 233 #[.val (.long p0), .second, .val (.long p1), .second, .val (.long p2), .second, .val (.int p3), .val (.long lm), .second, .val (.ref b2), .val (.long z8), .second, .val (.int (own_took lm (0 : Int64) z8)), .val (.long z12), .second, .val (.long z15), .second, .val (.int (own_took lm z12 z15)), .val (.int z18), .val (.long z19), .second, .val (.long (lm - z19)), .second, .val (.int (0 : Int32)), .val (.int (1 : Int32)), .val (.int (0 : Int32)), .unset] [(.long (0 : Int64)), (.ref b2)])) rfl (by rw [hml]; rfl) (Steps.refl _) (argsL := [(.long (0 : Int64))]) (rest := []) (lenOf own_pd44 rfl) rfl (by show 2 * 0 + _ ≤ _; exact Nat.le_of_eq rfl) (hb hby at_233) (fun _ _ => ⟨rfl, rfl, (by decide : 1 + 0 ≤ _), (by decide : 2 + 0 ≤ _)⟩)
        dsimp only [Pt.U, Pt.locs, Pt.cells, Pt.slots] at X29 l29 y29 z29 st29 hQ29
        subst l29 y29 z29
        obtain ⟨rfl, Nq29, Kq29, Fq29_0, Fq29_1, Fq29_2⟩ := hQ29
        have N29 := Fr.app N26 Nq29
        have F30 : Exa Z T29.heap b2 "com/example/offst/offst/group/MemberBytes" := Fq26_0.keep Kq29
        have K29 : Keep h0 T29.heap [] := K26.trans Kq29 (allS (Or.inr sz_b2) all0)
        have Z29 : n0 ≤ T29.heap.size := Nat.le_trans Z26 Kq29.1
        refine own_go (fun t k => st29.trans k) ?_
        show OwnG p.tables e below _ (T29.setTop (mkF m 236 #[.val (.long p0), .second, .val (.long p1), .second, .val (.long p2), .second, .val (.int p3), .val (.long lm), .second, .val (.ref b2), .val (.long z8), .second, .val (.int (own_took lm (0 : Int64) z8)), .val (.long z12), .second, .val (.long z15), .second, .val (.int (own_took lm z12 z15)), .val (.int z18), .val (.long z19), .second, .val (.long (lm - z19)), .second, .val (.int (0 : Int32)), .val (.int (1 : Int32)), .val (.int (0 : Int32)), .unset] [(.int (own_took lm lm (0 : Int64)))]))
        have hx6 : ¬ lm - lm < (0 : Int64) := by rw [Int64.sub_self]; decide
        rw [show (own_took lm lm (0 : Int64)) = 1 from if_neg hx6]
        show OwnG p.tables e below _ (T29.setTop (mkF m 236 #[.val (.long p0), .second, .val (.long p1), .second, .val (.long p2), .second, .val (.int p3), .val (.long lm), .second, .val (.ref b2), .val (.long z8), .second, .val (.int (own_took lm (0 : Int64) z8)), .val (.long z12), .second, .val (.long z15), .second, .val (.int (own_took lm z12 z15)), .val (.int z18), .val (.long z19), .second, .val (.long (lm - z19)), .second, .val (.int (0 : Int32)), .val (.int (1 : Int32)), .val (.int (0 : Int32)), .unset] [(.int (1 : Int32))]))
        refine own_go (fun t k => XS.istore X29.here hx rfl (hb hby at_236) rfl (l' := #[.val (.long p0), .second, .val (.long p1), .second, .val (.long p2), .second, .val (.int p3), .val (.long lm), .second, .val (.ref b2), .val (.long z8), .second, .val (.int (own_took lm (0 : Int64) z8)), .val (.long z12), .second, .val (.long z15), .second, .val (.int (own_took lm z12 z15)), .val (.int z18), .val (.long z19), .second, .val (.long (lm - z19)), .second, .val (.int (0 : Int32)), .val (.int (1 : Int32)), .val (.int (0 : Int32)), .val (.int (1 : Int32))]) rfl k) ?_
        show OwnG p.tables e below _ (T29.setTop (mkF m 238 #[.val (.long p0), .second, .val (.long p1), .second, .val (.long p2), .second, .val (.int p3), .val (.long lm), .second, .val (.ref b2), .val (.long z8), .second, .val (.int (own_took lm (0 : Int64) z8)), .val (.long z12), .second, .val (.long z15), .second, .val (.int (own_took lm z12 z15)), .val (.int z18), .val (.long z19), .second, .val (.long (lm - z19)), .second, .val (.int (0 : Int32)), .val (.int (1 : Int32)), .val (.int (0 : Int32)), .val (.int (1 : Int32))] []))
        refine own_go (fun t k => XS.iload X29.here hx rfl (hb hby at_238) rfl  k) ?_
        show OwnG p.tables e below _ (T29.setTop (mkF m 240 #[.val (.long p0), .second, .val (.long p1), .second, .val (.long p2), .second, .val (.int p3), .val (.long lm), .second, .val (.ref b2), .val (.long z8), .second, .val (.int (own_took lm (0 : Int64) z8)), .val (.long z12), .second, .val (.long z15), .second, .val (.int (own_took lm z12 z15)), .val (.int z18), .val (.long z19), .second, .val (.long (lm - z19)), .second, .val (.int (0 : Int32)), .val (.int (1 : Int32)), .val (.int (0 : Int32)), .val (.int (1 : Int32))] [(.int (0 : Int32))]))
        refine own_go (fun t k => XS.ifNo X29.here hx rfl (hb hby at_240) rfl ((if0 _ _).trans (teq (by decide : (0 : Int32) = (0 : Int32))).2) k) ?_
        show OwnG p.tables e below _ (T29.setTop (mkF m 243 #[.val (.long p0), .second, .val (.long p1), .second, .val (.long p2), .second, .val (.int p3), .val (.long lm), .second, .val (.ref b2), .val (.long z8), .second, .val (.int (own_took lm (0 : Int64) z8)), .val (.long z12), .second, .val (.long z15), .second, .val (.int (own_took lm z12 z15)), .val (.int z18), .val (.long z19), .second, .val (.long (lm - z19)), .second, .val (.int (0 : Int32)), .val (.int (1 : Int32)), .val (.int (0 : Int32)), .val (.int (1 : Int32))] []))
        refine own_go (fun t k => XS.iload X29.here hx rfl (hb hby at_243) rfl  k) ?_
        show OwnG p.tables e below _ (T29.setTop (mkF m 245 #[.val (.long p0), .second, .val (.long p1), .second, .val (.long p2), .second, .val (.int p3), .val (.long lm), .second, .val (.ref b2), .val (.long z8), .second, .val (.int (own_took lm (0 : Int64) z8)), .val (.long z12), .second, .val (.long z15), .second, .val (.int (own_took lm z12 z15)), .val (.int z18), .val (.long z19), .second, .val (.long (lm - z19)), .second, .val (.int (0 : Int32)), .val (.int (1 : Int32)), .val (.int (0 : Int32)), .val (.int (1 : Int32))] [(.int (1 : Int32))]))
        refine own_go (fun t k => XS.ifNo X29.here hx rfl (hb hby at_245) rfl ((if0 _ _).trans (feq (by decide : ¬ ((1 : Int32) = (0 : Int32)))).1) k) ?_
        show OwnG p.tables e below _ (T29.setTop (mkF m 248 #[.val (.long p0), .second, .val (.long p1), .second, .val (.long p2), .second, .val (.int p3), .val (.long lm), .second, .val (.ref b2), .val (.long z8), .second, .val (.int (own_took lm (0 : Int64) z8)), .val (.long z12), .second, .val (.long z15), .second, .val (.int (own_took lm z12 z15)), .val (.int z18), .val (.long z19), .second, .val (.long (lm - z19)), .second, .val (.int (0 : Int32)), .val (.int (1 : Int32)), .val (.int (0 : Int32)), .val (.int (1 : Int32))] []))
        refine own_go (fun t k => XS.iload X29.here hx rfl (hb hby at_248) rfl  k) ?_
        show OwnG p.tables e below _ (T29.setTop (mkF m 250 #[.val (.long p0), .second, .val (.long p1), .second, .val (.long p2), .second, .val (.int p3), .val (.long lm), .second, .val (.ref b2), .val (.long z8), .second, .val (.int (own_took lm (0 : Int64) z8)), .val (.long z12), .second, .val (.long z15), .second, .val (.int (own_took lm z12 z15)), .val (.int z18), .val (.long z19), .second, .val (.long (lm - z19)), .second, .val (.int (0 : Int32)), .val (.int (1 : Int32)), .val (.int (0 : Int32)), .val (.int (1 : Int32))] [(.int (0 : Int32))]))
        refine own_go (fun t k => XS.ifNo X29.here hx rfl (hb hby at_250) rfl ((if0 _ _).trans (teq (by decide : (0 : Int32) = (0 : Int32))).2) k) ?_
        show OwnG p.tables e below _ (T29.setTop (mkF m 253 #[.val (.long p0), .second, .val (.long p1), .second, .val (.long p2), .second, .val (.int p3), .val (.long lm), .second, .val (.ref b2), .val (.long z8), .second, .val (.int (own_took lm (0 : Int64) z8)), .val (.long z12), .second, .val (.long z15), .second, .val (.int (own_took lm z12 z15)), .val (.int z18), .val (.long z19), .second, .val (.long (lm - z19)), .second, .val (.int (0 : Int32)), .val (.int (1 : Int32)), .val (.int (0 : Int32)), .val (.int (1 : Int32))] []))
        refine own_go (fun t k => XS.iload X29.here hx rfl (hb hby at_253) rfl  k) ?_
        show OwnG p.tables e below _ (T29.setTop (mkF m 255 #[.val (.long p0), .second, .val (.long p1), .second, .val (.long p2), .second, .val (.int p3), .val (.long lm), .second, .val (.ref b2), .val (.long z8), .second, .val (.int (own_took lm (0 : Int64) z8)), .val (.long z12), .second, .val (.long z15), .second, .val (.int (own_took lm z12 z15)), .val (.int z18), .val (.long z19), .second, .val (.long (lm - z19)), .second, .val (.int (0 : Int32)), .val (.int (1 : Int32)), .val (.int (0 : Int32)), .val (.int (1 : Int32))] [(.int (1 : Int32))]))
        refine own_go (fun t k => XS.ifNo X29.here hx rfl (hb hby at_255) rfl ((if0 _ _).trans (feq (by decide : ¬ ((1 : Int32) = (0 : Int32)))).1) k) ?_
        show OwnG p.tables e below _ (T29.setTop (mkF m 258 #[.val (.long p0), .second, .val (.long p1), .second, .val (.long p2), .second, .val (.int p3), .val (.long lm), .second, .val (.ref b2), .val (.long z8), .second, .val (.int (own_took lm (0 : Int64) z8)), .val (.long z12), .second, .val (.long z15), .second, .val (.int (own_took lm z12 z15)), .val (.int z18), .val (.long z19), .second, .val (.long (lm - z19)), .second, .val (.int (0 : Int32)), .val (.int (1 : Int32)), .val (.int (0 : Int32)), .val (.int (1 : Int32))] []))
        refine own_go (fun t k => XS.iconst X29.here hx rfl (hb hby at_258) k) ?_
        show OwnG p.tables e below _ (T29.setTop (mkF m 259 #[.val (.long p0), .second, .val (.long p1), .second, .val (.long p2), .second, .val (.int p3), .val (.long lm), .second, .val (.ref b2), .val (.long z8), .second, .val (.int (own_took lm (0 : Int64) z8)), .val (.long z12), .second, .val (.long z15), .second, .val (.int (own_took lm z12 z15)), .val (.int z18), .val (.long z19), .second, .val (.long (lm - z19)), .second, .val (.int (0 : Int32)), .val (.int (1 : Int32)), .val (.int (0 : Int32)), .val (.int (1 : Int32))] [(.int (1 : Int32))]))
        refine own_go (fun t k => XS.goto X29.here hx rfl (pc0 := 259) (pc' := 263) rfl (hb hby at_259) (by decide) (by decide) k) ?_
        show OwnG p.tables e below _ (T29.setTop (mkF m 263 #[.val (.long p0), .second, .val (.long p1), .second, .val (.long p2), .second, .val (.int p3), .val (.long lm), .second, .val (.ref b2), .val (.long z8), .second, .val (.int (own_took lm (0 : Int64) z8)), .val (.long z12), .second, .val (.long z15), .second, .val (.int (own_took lm z12 z15)), .val (.int z18), .val (.long z19), .second, .val (.long (lm - z19)), .second, .val (.int (0 : Int32)), .val (.int (1 : Int32)), .val (.int (0 : Int32)), .val (.int (1 : Int32))] [(.int (1 : Int32))]))
        obtain ⟨fs, hr, hrun, hended, hW, hsame⟩ := X29.leave (v := some (.int (1 : Int32))) (fun h => by rw [Bd.returns] at h; cases h)
        refine ⟨_, _, retN X29 hx (t := .boolean) Bd.returns (by simp) (hb hby at_263) hr, hrun, hended, _, _, rfl, ?_, ⟨_, rfl⟩, hW, hsame.mono (by decide) (by decide)⟩
        show Q_own_law Z p0 p1 p2 p3 h0 n0 _ T29.heap _
        exact ⟨rfl, N29⟩
      · refine own_go (fun t k => XS.ifYes X16.here hx rfl (pc0 := 195) (pc' := 202) rfl (hb hby at_195) rfl ((if0 _ _).trans (feq (mt (lw_eq _ _).mp hc22)).2) (by decide) (by decide) k) ?_
        show OwnG p.tables e below _ (T16.setTop (mkF m 202 #[.val (.long p0), .second, .val (.long p1), .second, .val (.long p2), .second, .val (.int p3), .val (.long lm), .second, .val (.ref b2), .val (.long z8), .second, .val (.int (own_took lm (0 : Int64) z8)), .val (.long z12), .second, .val (.long z15), .second, .val (.int (own_took lm z12 z15)), .val (.int z18), .val (.long z19), .second, .val (.long (lm - z19)), .second, .unset, .unset, .unset, .unset] []))
        refine own_go (fun t k => XS.aload X16.here hx rfl (hb hby at_202) rfl rfl k) ?_
        show OwnG p.tables e below _ (T16.setTop (mkF m 204 #[.val (.long p0), .second, .val (.long p1), .second, .val (.long p2), .second, .val (.int p3), .val (.long lm), .second, .val (.ref b2), .val (.long z8), .second, .val (.int (own_took lm (0 : Int64) z8)), .val (.long z12), .second, .val (.long z15), .second, .val (.int (own_took lm z12 z15)), .val (.int z18), .val (.long z19), .second, .val (.long (lm - z19)), .second, .unset, .unset, .unset, .unset] [(.ref b2)]))
        refine own_go (fun t k => XS.lload X16.here hx rfl (hb hby at_204) rfl  k) ?_
        show OwnG p.tables e below _ (T16.setTop (mkF m 206 #[.val (.long p0), .second, .val (.long p1), .second, .val (.long p2), .second, .val (.int p3), .val (.long lm), .second, .val (.ref b2), .val (.long z8), .second, .val (.int (own_took lm (0 : Int64) z8)), .val (.long z12), .second, .val (.long z15), .second, .val (.int (own_took lm z12 z15)), .val (.int z18), .val (.long z19), .second, .val (.long (lm - z19)), .second, .unset, .unset, .unset, .unset] [(.long (lm - z19)), (.ref b2)]))
        refine own_go (fun t k => XS.lconst X16.here hx rfl (hb hby at_206) k) ?_
        show OwnG p.tables e below _ (T16.setTop (mkF m 207 #[.val (.long p0), .second, .val (.long p1), .second, .val (.long p2), .second, .val (.int p3), .val (.long lm), .second, .val (.ref b2), .val (.long z8), .second, .val (.int (own_took lm (0 : Int64) z8)), .val (.long z12), .second, .val (.long z15), .second, .val (.int (own_took lm z12 z15)), .val (.int z18), .val (.long z19), .second, .val (.long (lm - z19)), .second, .unset, .unset, .unset, .unset] [(.long (1 : Int64)), (.long (lm - z19)), (.ref b2)]))
        refine own_go (fun t k => XS.ladd X16.here hx rfl (hb hby at_207) rfl k) ?_
        show OwnG p.tables e below _ (T16.setTop (mkF m 208 #[.val (.long p0), .second, .val (.long p1), .second, .val (.long p2), .second, .val (.int p3), .val (.long lm), .second, .val (.ref b2), .val (.long z8), .second, .val (.int (own_took lm (0 : Int64) z8)), .val (.long z12), .second, .val (.long z15), .second, .val (.int (own_took lm z12 z15)), .val (.int z18), .val (.long z19), .second, .val (.long (lm - z19)), .second, .unset, .unset, .unset, .unset] [(.long ((lm - z19) + (1 : Int64))), (.ref b2)]))
        obtain ⟨cq31, kq31, q31a, q31b, q31c⟩ := isOf hZ rfl Fq16_0
        obtain ⟨_, _, ⟨T31, L31, k31, n31⟩, -, X31, ⟨Lc31, hQ31, l31, y31, z31⟩, st31⟩ := X16.virtualBack hx (y := (⟨"com/example/offst/offst/group/MemberBytes", "take", "(J)Z"⟩ : MethodName)) (z := (⟨"com/example/offst/offst/group/MemberBytes", "take", "(J)Z"⟩ : MethodName)) hown (mvT hZ (hw _ (List.mem_of_getElem? (i := 16) rfl))) (mvT hZ (hw _ (List.mem_of_getElem? (i := 17) rfl))) (notFace_of_selects (args := #[]) (mvT hZ (hw _ (List.mem_of_getElem? (i := 19) rfl)))) (mvT hZ (hw _ (List.mem_of_getElem? (i := 19) rfl))) (mvT hZ (hw _ (List.mem_of_getElem? (i := 18) rfl))) (by decide) (backOf (W := 0) (own_take l Z a0 hw [] b2 ((lm - z19) + (1 : Int64)) lm z19 T16.heap n0 Z16 Fq16_0 Fq16_1 F20 g_b2) hZ (hw _ (List.mem_of_getElem? (i := 20) rfl)) (hw _ (List.mem_of_getElem? (i := 7) rfl)) (by decide) (by decide)) q31a q31c (g := (mkF m 208 #[.val (.long p0), .second, .val (.long p1), .second, .val (.long p2), .second, .val (.int p3), .val (.long lm), .second, .val (.ref b2), .val (.long z8), .second, .val (.int (own_took lm (0 : Int64) z8)), .val (.long z12), .second, .val (.long z15), .second, .val (.int (own_took lm z12 z15)), .val (.int z18), .val (.long z19), .second, .val (.long (lm - z19)), .second, .unset, .unset, .unset, .unset] [(.long ((lm - z19) + (1 : Int64))), (.ref b2)])) rfl (by rw [hml]; rfl) (Steps.refl _) (argsL := [(.long ((lm - z19) + (1 : Int64)))]) (rest := []) (lenOf own_pd44 rfl) rfl (by show 2 * 0 + _ ≤ _; exact Nat.le_of_eq rfl) (hb hby at_208) (fun _ _ => ⟨rfl, rfl, (by decide : 1 + 0 ≤ _), (by decide : 2 + 0 ≤ _)⟩)
        dsimp only [Pt.U, Pt.locs, Pt.cells, Pt.slots] at X31 l31 y31 z31 st31 hQ31
        subst l31 y31 z31
        obtain ⟨rfl, Nq31, Kq31, Fq31_0, Fq31_1, Fq31_2⟩ := hQ31
        have N31 := Fr.app N16 Nq31
        have F32 : Exa Z T31.heap b2 "com/example/offst/offst/group/MemberBytes" := Fq16_0.keep Kq31
        have K31 : Keep h0 T31.heap [] := K16.trans Kq31 (allS (Or.inr sz_b2) all0)
        have Z31 : n0 ≤ T31.heap.size := Nat.le_trans Z16 Kq31.1
        refine own_go (fun t k => st31.trans k) ?_
        show OwnG p.tables e below _ (T31.setTop (mkF m 211 #[.val (.long p0), .second, .val (.long p1), .second, .val (.long p2), .second, .val (.int p3), .val (.long lm), .second, .val (.ref b2), .val (.long z8), .second, .val (.int (own_took lm (0 : Int64) z8)), .val (.long z12), .second, .val (.long z15), .second, .val (.int (own_took lm z12 z15)), .val (.int z18), .val (.long z19), .second, .val (.long (lm - z19)), .second, .unset, .unset, .unset, .unset] [(.int (own_took lm z19 ((lm - z19) + (1 : Int64))))]))
        have hx3 : lm - z19 < lm - z19 + 1 := own_succ hc22
        rw [show (own_took lm z19 ((lm - z19) + (1 : Int64))) = 0 from if_pos hx3]
        show OwnG p.tables e below _ (T31.setTop (mkF m 211 #[.val (.long p0), .second, .val (.long p1), .second, .val (.long p2), .second, .val (.int p3), .val (.long lm), .second, .val (.ref b2), .val (.long z8), .second, .val (.int (own_took lm (0 : Int64) z8)), .val (.long z12), .second, .val (.long z15), .second, .val (.int (own_took lm z12 z15)), .val (.int z18), .val (.long z19), .second, .val (.long (lm - z19)), .second, .unset, .unset, .unset, .unset] [(.int (0 : Int32))]))
        have F33 : Fld Z T31.heap b2 "com/example/offst/offst/group/MemberBytes" "held" "J" (.long z19) := by rw [show z19 = own_held lm z19 (lm - z19 + 1) from (if_pos hx3).symm]; exact Fq31_2
        refine own_go (fun t k => XS.istore X31.here hx rfl (hb hby at_211) rfl (l' := #[.val (.long p0), .second, .val (.long p1), .second, .val (.long p2), .second, .val (.int p3), .val (.long lm), .second, .val (.ref b2), .val (.long z8), .second, .val (.int (own_took lm (0 : Int64) z8)), .val (.long z12), .second, .val (.long z15), .second, .val (.int (own_took lm z12 z15)), .val (.int z18), .val (.long z19), .second, .val (.long (lm - z19)), .second, .val (.int (0 : Int32)), .unset, .unset, .unset]) rfl k) ?_
        show OwnG p.tables e below _ (T31.setTop (mkF m 213 #[.val (.long p0), .second, .val (.long p1), .second, .val (.long p2), .second, .val (.int p3), .val (.long lm), .second, .val (.ref b2), .val (.long z8), .second, .val (.int (own_took lm (0 : Int64) z8)), .val (.long z12), .second, .val (.long z15), .second, .val (.int (own_took lm z12 z15)), .val (.int z18), .val (.long z19), .second, .val (.long (lm - z19)), .second, .val (.int (0 : Int32)), .unset, .unset, .unset] []))
        refine own_go (fun t k => XS.aload X31.here hx rfl (hb hby at_213) rfl rfl k) ?_
        show OwnG p.tables e below _ (T31.setTop (mkF m 215 #[.val (.long p0), .second, .val (.long p1), .second, .val (.long p2), .second, .val (.int p3), .val (.long lm), .second, .val (.ref b2), .val (.long z8), .second, .val (.int (own_took lm (0 : Int64) z8)), .val (.long z12), .second, .val (.long z15), .second, .val (.int (own_took lm z12 z15)), .val (.int z18), .val (.long z19), .second, .val (.long (lm - z19)), .second, .val (.int (0 : Int32)), .unset, .unset, .unset] [(.ref b2)]))
        refine own_go (fun t k => XS.lload X31.here hx rfl (hb hby at_215) rfl  k) ?_
        show OwnG p.tables e below _ (T31.setTop (mkF m 217 #[.val (.long p0), .second, .val (.long p1), .second, .val (.long p2), .second, .val (.int p3), .val (.long lm), .second, .val (.ref b2), .val (.long z8), .second, .val (.int (own_took lm (0 : Int64) z8)), .val (.long z12), .second, .val (.long z15), .second, .val (.int (own_took lm z12 z15)), .val (.int z18), .val (.long z19), .second, .val (.long (lm - z19)), .second, .val (.int (0 : Int32)), .unset, .unset, .unset] [(.long (lm - z19)), (.ref b2)]))
        obtain ⟨cq34, kq34, q34a, q34b, q34c⟩ := isOf hZ rfl Fq31_0
        obtain ⟨_, _, ⟨T34, L34, k34, n34⟩, -, X34, ⟨Lc34, hQ34, l34, y34, z34⟩, st34⟩ := X31.virtualBack hx (y := (⟨"com/example/offst/offst/group/MemberBytes", "take", "(J)Z"⟩ : MethodName)) (z := (⟨"com/example/offst/offst/group/MemberBytes", "take", "(J)Z"⟩ : MethodName)) hown (mvT hZ (hw _ (List.mem_of_getElem? (i := 16) rfl))) (mvT hZ (hw _ (List.mem_of_getElem? (i := 17) rfl))) (notFace_of_selects (args := #[]) (mvT hZ (hw _ (List.mem_of_getElem? (i := 19) rfl)))) (mvT hZ (hw _ (List.mem_of_getElem? (i := 19) rfl))) (mvT hZ (hw _ (List.mem_of_getElem? (i := 18) rfl))) (by decide) (backOf (W := 0) (own_take l Z a0 hw [] b2 (lm - z19) lm z19 T31.heap n0 Z31 Fq31_0 Fq31_1 F33 g_b2) hZ (hw _ (List.mem_of_getElem? (i := 20) rfl)) (hw _ (List.mem_of_getElem? (i := 7) rfl)) (by decide) (by decide)) q34a q34c (g := (mkF m 217 #[.val (.long p0), .second, .val (.long p1), .second, .val (.long p2), .second, .val (.int p3), .val (.long lm), .second, .val (.ref b2), .val (.long z8), .second, .val (.int (own_took lm (0 : Int64) z8)), .val (.long z12), .second, .val (.long z15), .second, .val (.int (own_took lm z12 z15)), .val (.int z18), .val (.long z19), .second, .val (.long (lm - z19)), .second, .val (.int (0 : Int32)), .unset, .unset, .unset] [(.long (lm - z19)), (.ref b2)])) rfl (by rw [hml]; rfl) (Steps.refl _) (argsL := [(.long (lm - z19))]) (rest := []) (lenOf own_pd44 rfl) rfl (by show 2 * 0 + _ ≤ _; exact Nat.le_of_eq rfl) (hb hby at_217) (fun _ _ => ⟨rfl, rfl, (by decide : 1 + 0 ≤ _), (by decide : 2 + 0 ≤ _)⟩)
        dsimp only [Pt.U, Pt.locs, Pt.cells, Pt.slots] at X34 l34 y34 z34 st34 hQ34
        subst l34 y34 z34
        obtain ⟨rfl, Nq34, Kq34, Fq34_0, Fq34_1, Fq34_2⟩ := hQ34
        have N34 := Fr.app N31 Nq34
        have F35 : Exa Z T34.heap b2 "com/example/offst/offst/group/MemberBytes" := Fq31_0.keep Kq34
        have K34 : Keep h0 T34.heap [] := K31.trans Kq34 (allS (Or.inr sz_b2) all0)
        have Z34 : n0 ≤ T34.heap.size := Nat.le_trans Z31 Kq34.1
        refine own_go (fun t k => st34.trans k) ?_
        show OwnG p.tables e below _ (T34.setTop (mkF m 220 #[.val (.long p0), .second, .val (.long p1), .second, .val (.long p2), .second, .val (.int p3), .val (.long lm), .second, .val (.ref b2), .val (.long z8), .second, .val (.int (own_took lm (0 : Int64) z8)), .val (.long z12), .second, .val (.long z15), .second, .val (.int (own_took lm z12 z15)), .val (.int z18), .val (.long z19), .second, .val (.long (lm - z19)), .second, .val (.int (0 : Int32)), .unset, .unset, .unset] [(.int (own_took lm z19 (lm - z19)))]))
        rw [show (own_took lm z19 (lm - z19)) = 1 from if_neg (own_irr _)]
        show OwnG p.tables e below _ (T34.setTop (mkF m 220 #[.val (.long p0), .second, .val (.long p1), .second, .val (.long p2), .second, .val (.int p3), .val (.long lm), .second, .val (.ref b2), .val (.long z8), .second, .val (.int (own_took lm (0 : Int64) z8)), .val (.long z12), .second, .val (.long z15), .second, .val (.int (own_took lm z12 z15)), .val (.int z18), .val (.long z19), .second, .val (.long (lm - z19)), .second, .val (.int (0 : Int32)), .unset, .unset, .unset] [(.int (1 : Int32))]))
        have F36 : Fld Z T34.heap b2 "com/example/offst/offst/group/MemberBytes" "held" "J" (.long lm) := by rw [show lm = own_held lm z19 (lm - z19) from (own_fill lm z19).trans (if_neg (own_irr _)).symm]; exact Fq34_2
        refine own_go (fun t k => XS.istore X34.here hx rfl (hb hby at_220) rfl (l' := #[.val (.long p0), .second, .val (.long p1), .second, .val (.long p2), .second, .val (.int p3), .val (.long lm), .second, .val (.ref b2), .val (.long z8), .second, .val (.int (own_took lm (0 : Int64) z8)), .val (.long z12), .second, .val (.long z15), .second, .val (.int (own_took lm z12 z15)), .val (.int z18), .val (.long z19), .second, .val (.long (lm - z19)), .second, .val (.int (0 : Int32)), .val (.int (1 : Int32)), .unset, .unset]) rfl k) ?_
        show OwnG p.tables e below _ (T34.setTop (mkF m 222 #[.val (.long p0), .second, .val (.long p1), .second, .val (.long p2), .second, .val (.int p3), .val (.long lm), .second, .val (.ref b2), .val (.long z8), .second, .val (.int (own_took lm (0 : Int64) z8)), .val (.long z12), .second, .val (.long z15), .second, .val (.int (own_took lm z12 z15)), .val (.int z18), .val (.long z19), .second, .val (.long (lm - z19)), .second, .val (.int (0 : Int32)), .val (.int (1 : Int32)), .unset, .unset] []))
        refine own_go (fun t k => XS.aload X34.here hx rfl (hb hby at_222) rfl rfl k) ?_
        show OwnG p.tables e below _ (T34.setTop (mkF m 224 #[.val (.long p0), .second, .val (.long p1), .second, .val (.long p2), .second, .val (.int p3), .val (.long lm), .second, .val (.ref b2), .val (.long z8), .second, .val (.int (own_took lm (0 : Int64) z8)), .val (.long z12), .second, .val (.long z15), .second, .val (.int (own_took lm z12 z15)), .val (.int z18), .val (.long z19), .second, .val (.long (lm - z19)), .second, .val (.int (0 : Int32)), .val (.int (1 : Int32)), .unset, .unset] [(.ref b2)]))
        refine own_go (fun t k => XS.lconst X34.here hx rfl (hb hby at_224) k) ?_
        show OwnG p.tables e below _ (T34.setTop (mkF m 225 #[.val (.long p0), .second, .val (.long p1), .second, .val (.long p2), .second, .val (.int p3), .val (.long lm), .second, .val (.ref b2), .val (.long z8), .second, .val (.int (own_took lm (0 : Int64) z8)), .val (.long z12), .second, .val (.long z15), .second, .val (.int (own_took lm z12 z15)), .val (.int z18), .val (.long z19), .second, .val (.long (lm - z19)), .second, .val (.int (0 : Int32)), .val (.int (1 : Int32)), .unset, .unset] [(.long (1 : Int64)), (.ref b2)]))
        obtain ⟨cq37, kq37, q37a, q37b, q37c⟩ := isOf hZ rfl Fq34_0
        obtain ⟨_, _, ⟨T37, L37, k37, n37⟩, -, X37, ⟨Lc37, hQ37, l37, y37, z37⟩, st37⟩ := X34.virtualBack hx (y := (⟨"com/example/offst/offst/group/MemberBytes", "take", "(J)Z"⟩ : MethodName)) (z := (⟨"com/example/offst/offst/group/MemberBytes", "take", "(J)Z"⟩ : MethodName)) hown (mvT hZ (hw _ (List.mem_of_getElem? (i := 16) rfl))) (mvT hZ (hw _ (List.mem_of_getElem? (i := 17) rfl))) (notFace_of_selects (args := #[]) (mvT hZ (hw _ (List.mem_of_getElem? (i := 19) rfl)))) (mvT hZ (hw _ (List.mem_of_getElem? (i := 19) rfl))) (mvT hZ (hw _ (List.mem_of_getElem? (i := 18) rfl))) (by decide) (backOf (W := 0) (own_take l Z a0 hw [] b2 (1 : Int64) lm lm T34.heap n0 Z34 Fq34_0 Fq34_1 F36 g_b2) hZ (hw _ (List.mem_of_getElem? (i := 20) rfl)) (hw _ (List.mem_of_getElem? (i := 7) rfl)) (by decide) (by decide)) q37a q37c (g := (mkF m 225 #[.val (.long p0), .second, .val (.long p1), .second, .val (.long p2), .second, .val (.int p3), .val (.long lm), .second, .val (.ref b2), .val (.long z8), .second, .val (.int (own_took lm (0 : Int64) z8)), .val (.long z12), .second, .val (.long z15), .second, .val (.int (own_took lm z12 z15)), .val (.int z18), .val (.long z19), .second, .val (.long (lm - z19)), .second, .val (.int (0 : Int32)), .val (.int (1 : Int32)), .unset, .unset] [(.long (1 : Int64)), (.ref b2)])) rfl (by rw [hml]; rfl) (Steps.refl _) (argsL := [(.long (1 : Int64))]) (rest := []) (lenOf own_pd44 rfl) rfl (by show 2 * 0 + _ ≤ _; exact Nat.le_of_eq rfl) (hb hby at_225) (fun _ _ => ⟨rfl, rfl, (by decide : 1 + 0 ≤ _), (by decide : 2 + 0 ≤ _)⟩)
        dsimp only [Pt.U, Pt.locs, Pt.cells, Pt.slots] at X37 l37 y37 z37 st37 hQ37
        subst l37 y37 z37
        obtain ⟨rfl, Nq37, Kq37, Fq37_0, Fq37_1, Fq37_2⟩ := hQ37
        have N37 := Fr.app N34 Nq37
        have F38 : Exa Z T37.heap b2 "com/example/offst/offst/group/MemberBytes" := Fq34_0.keep Kq37
        have K37 : Keep h0 T37.heap [] := K34.trans Kq37 (allS (Or.inr sz_b2) all0)
        have Z37 : n0 ≤ T37.heap.size := Nat.le_trans Z34 Kq37.1
        refine own_go (fun t k => st37.trans k) ?_
        show OwnG p.tables e below _ (T37.setTop (mkF m 228 #[.val (.long p0), .second, .val (.long p1), .second, .val (.long p2), .second, .val (.int p3), .val (.long lm), .second, .val (.ref b2), .val (.long z8), .second, .val (.int (own_took lm (0 : Int64) z8)), .val (.long z12), .second, .val (.long z15), .second, .val (.int (own_took lm z12 z15)), .val (.int z18), .val (.long z19), .second, .val (.long (lm - z19)), .second, .val (.int (0 : Int32)), .val (.int (1 : Int32)), .unset, .unset] [(.int (own_took lm lm (1 : Int64)))]))
        have hx5 : lm - lm < (1 : Int64) := by rw [Int64.sub_self]; decide
        rw [show (own_took lm lm (1 : Int64)) = 0 from if_pos hx5]
        show OwnG p.tables e below _ (T37.setTop (mkF m 228 #[.val (.long p0), .second, .val (.long p1), .second, .val (.long p2), .second, .val (.int p3), .val (.long lm), .second, .val (.ref b2), .val (.long z8), .second, .val (.int (own_took lm (0 : Int64) z8)), .val (.long z12), .second, .val (.long z15), .second, .val (.int (own_took lm z12 z15)), .val (.int z18), .val (.long z19), .second, .val (.long (lm - z19)), .second, .val (.int (0 : Int32)), .val (.int (1 : Int32)), .unset, .unset] [(.int (0 : Int32))]))
        have F39 : Fld Z T37.heap b2 "com/example/offst/offst/group/MemberBytes" "held" "J" (.long lm) := by rw [show lm = own_held lm lm (1 : Int64) from (if_pos hx5).symm]; exact Fq37_2
        refine own_go (fun t k => XS.istore X37.here hx rfl (hb hby at_228) rfl (l' := #[.val (.long p0), .second, .val (.long p1), .second, .val (.long p2), .second, .val (.int p3), .val (.long lm), .second, .val (.ref b2), .val (.long z8), .second, .val (.int (own_took lm (0 : Int64) z8)), .val (.long z12), .second, .val (.long z15), .second, .val (.int (own_took lm z12 z15)), .val (.int z18), .val (.long z19), .second, .val (.long (lm - z19)), .second, .val (.int (0 : Int32)), .val (.int (1 : Int32)), .val (.int (0 : Int32)), .unset]) rfl k) ?_
        show OwnG p.tables e below _ (T37.setTop (mkF m 230 #[.val (.long p0), .second, .val (.long p1), .second, .val (.long p2), .second, .val (.int p3), .val (.long lm), .second, .val (.ref b2), .val (.long z8), .second, .val (.int (own_took lm (0 : Int64) z8)), .val (.long z12), .second, .val (.long z15), .second, .val (.int (own_took lm z12 z15)), .val (.int z18), .val (.long z19), .second, .val (.long (lm - z19)), .second, .val (.int (0 : Int32)), .val (.int (1 : Int32)), .val (.int (0 : Int32)), .unset] []))
        refine own_go (fun t k => XS.aload X37.here hx rfl (hb hby at_230) rfl rfl k) ?_
        show OwnG p.tables e below _ (T37.setTop (mkF m 232 #[.val (.long p0), .second, .val (.long p1), .second, .val (.long p2), .second, .val (.int p3), .val (.long lm), .second, .val (.ref b2), .val (.long z8), .second, .val (.int (own_took lm (0 : Int64) z8)), .val (.long z12), .second, .val (.long z15), .second, .val (.int (own_took lm z12 z15)), .val (.int z18), .val (.long z19), .second, .val (.long (lm - z19)), .second, .val (.int (0 : Int32)), .val (.int (1 : Int32)), .val (.int (0 : Int32)), .unset] [(.ref b2)]))
        refine own_go (fun t k => XS.lconst X37.here hx rfl (hb hby at_232) k) ?_
        show OwnG p.tables e below _ (T37.setTop (mkF m 233 #[.val (.long p0), .second, .val (.long p1), .second, .val (.long p2), .second, .val (.int p3), .val (.long lm), .second, .val (.ref b2), .val (.long z8), .second, .val (.int (own_took lm (0 : Int64) z8)), .val (.long z12), .second, .val (.long z15), .second, .val (.int (own_took lm z12 z15)), .val (.int z18), .val (.long z19), .second, .val (.long (lm - z19)), .second, .val (.int (0 : Int32)), .val (.int (1 : Int32)), .val (.int (0 : Int32)), .unset] [(.long (0 : Int64)), (.ref b2)]))
        obtain ⟨cq40, kq40, q40a, q40b, q40c⟩ := isOf hZ rfl Fq37_0
        obtain ⟨_, _, ⟨T40, L40, k40, n40⟩, -, X40, ⟨Lc40, hQ40, l40, y40, z40⟩, st40⟩ := X37.virtualBack hx (y := (⟨"com/example/offst/offst/group/MemberBytes", "take", "(J)Z"⟩ : MethodName)) (z := (⟨"com/example/offst/offst/group/MemberBytes", "take", "(J)Z"⟩ : MethodName)) hown (mvT hZ (hw _ (List.mem_of_getElem? (i := 16) rfl))) (mvT hZ (hw _ (List.mem_of_getElem? (i := 17) rfl))) (notFace_of_selects (args := #[]) (mvT hZ (hw _ (List.mem_of_getElem? (i := 19) rfl)))) (mvT hZ (hw _ (List.mem_of_getElem? (i := 19) rfl))) (mvT hZ (hw _ (List.mem_of_getElem? (i := 18) rfl))) (by decide) (backOf (W := 0) (own_take l Z a0 hw [] b2 (0 : Int64) lm lm T37.heap n0 Z37 Fq37_0 Fq37_1 F39 g_b2) hZ (hw _ (List.mem_of_getElem? (i := 20) rfl)) (hw _ (List.mem_of_getElem? (i := 7) rfl)) (by decide) (by decide)) q40a q40c (g := (mkF m 233 #[.val (.long p0), .second, .val (.long p1), .second, .val (.long p2), .second, .val (.int p3), .val (.long lm), .second, .val (.ref b2), .val (.long z8), .second, .val (.int (own_took lm (0 : Int64) z8)), .val (.long z12), .second, .val (.long z15), .second, .val (.int (own_took lm z12 z15)), .val (.int z18), .val (.long z19), .second, .val (.long (lm - z19)), .second, .val (.int (0 : Int32)), .val (.int (1 : Int32)), .val (.int (0 : Int32)), .unset] [(.long (0 : Int64)), (.ref b2)])) rfl (by rw [hml]; rfl) (Steps.refl _) (argsL := [(.long (0 : Int64))]) (rest := []) (lenOf own_pd44 rfl) rfl (by show 2 * 0 + _ ≤ _; exact Nat.le_of_eq rfl) (hb hby at_233) (fun _ _ => ⟨rfl, rfl, (by decide : 1 + 0 ≤ _), (by decide : 2 + 0 ≤ _)⟩)
        dsimp only [Pt.U, Pt.locs, Pt.cells, Pt.slots] at X40 l40 y40 z40 st40 hQ40
        subst l40 y40 z40
        obtain ⟨rfl, Nq40, Kq40, Fq40_0, Fq40_1, Fq40_2⟩ := hQ40
        have N40 := Fr.app N37 Nq40
        have F41 : Exa Z T40.heap b2 "com/example/offst/offst/group/MemberBytes" := Fq37_0.keep Kq40
        have K40 : Keep h0 T40.heap [] := K37.trans Kq40 (allS (Or.inr sz_b2) all0)
        have Z40 : n0 ≤ T40.heap.size := Nat.le_trans Z37 Kq40.1
        refine own_go (fun t k => st40.trans k) ?_
        show OwnG p.tables e below _ (T40.setTop (mkF m 236 #[.val (.long p0), .second, .val (.long p1), .second, .val (.long p2), .second, .val (.int p3), .val (.long lm), .second, .val (.ref b2), .val (.long z8), .second, .val (.int (own_took lm (0 : Int64) z8)), .val (.long z12), .second, .val (.long z15), .second, .val (.int (own_took lm z12 z15)), .val (.int z18), .val (.long z19), .second, .val (.long (lm - z19)), .second, .val (.int (0 : Int32)), .val (.int (1 : Int32)), .val (.int (0 : Int32)), .unset] [(.int (own_took lm lm (0 : Int64)))]))
        have hx6 : ¬ lm - lm < (0 : Int64) := by rw [Int64.sub_self]; decide
        rw [show (own_took lm lm (0 : Int64)) = 1 from if_neg hx6]
        show OwnG p.tables e below _ (T40.setTop (mkF m 236 #[.val (.long p0), .second, .val (.long p1), .second, .val (.long p2), .second, .val (.int p3), .val (.long lm), .second, .val (.ref b2), .val (.long z8), .second, .val (.int (own_took lm (0 : Int64) z8)), .val (.long z12), .second, .val (.long z15), .second, .val (.int (own_took lm z12 z15)), .val (.int z18), .val (.long z19), .second, .val (.long (lm - z19)), .second, .val (.int (0 : Int32)), .val (.int (1 : Int32)), .val (.int (0 : Int32)), .unset] [(.int (1 : Int32))]))
        refine own_go (fun t k => XS.istore X40.here hx rfl (hb hby at_236) rfl (l' := #[.val (.long p0), .second, .val (.long p1), .second, .val (.long p2), .second, .val (.int p3), .val (.long lm), .second, .val (.ref b2), .val (.long z8), .second, .val (.int (own_took lm (0 : Int64) z8)), .val (.long z12), .second, .val (.long z15), .second, .val (.int (own_took lm z12 z15)), .val (.int z18), .val (.long z19), .second, .val (.long (lm - z19)), .second, .val (.int (0 : Int32)), .val (.int (1 : Int32)), .val (.int (0 : Int32)), .val (.int (1 : Int32))]) rfl k) ?_
        show OwnG p.tables e below _ (T40.setTop (mkF m 238 #[.val (.long p0), .second, .val (.long p1), .second, .val (.long p2), .second, .val (.int p3), .val (.long lm), .second, .val (.ref b2), .val (.long z8), .second, .val (.int (own_took lm (0 : Int64) z8)), .val (.long z12), .second, .val (.long z15), .second, .val (.int (own_took lm z12 z15)), .val (.int z18), .val (.long z19), .second, .val (.long (lm - z19)), .second, .val (.int (0 : Int32)), .val (.int (1 : Int32)), .val (.int (0 : Int32)), .val (.int (1 : Int32))] []))
        refine own_go (fun t k => XS.iload X40.here hx rfl (hb hby at_238) rfl  k) ?_
        show OwnG p.tables e below _ (T40.setTop (mkF m 240 #[.val (.long p0), .second, .val (.long p1), .second, .val (.long p2), .second, .val (.int p3), .val (.long lm), .second, .val (.ref b2), .val (.long z8), .second, .val (.int (own_took lm (0 : Int64) z8)), .val (.long z12), .second, .val (.long z15), .second, .val (.int (own_took lm z12 z15)), .val (.int z18), .val (.long z19), .second, .val (.long (lm - z19)), .second, .val (.int (0 : Int32)), .val (.int (1 : Int32)), .val (.int (0 : Int32)), .val (.int (1 : Int32))] [(.int (0 : Int32))]))
        refine own_go (fun t k => XS.ifNo X40.here hx rfl (hb hby at_240) rfl ((if0 _ _).trans (teq (by decide : (0 : Int32) = (0 : Int32))).2) k) ?_
        show OwnG p.tables e below _ (T40.setTop (mkF m 243 #[.val (.long p0), .second, .val (.long p1), .second, .val (.long p2), .second, .val (.int p3), .val (.long lm), .second, .val (.ref b2), .val (.long z8), .second, .val (.int (own_took lm (0 : Int64) z8)), .val (.long z12), .second, .val (.long z15), .second, .val (.int (own_took lm z12 z15)), .val (.int z18), .val (.long z19), .second, .val (.long (lm - z19)), .second, .val (.int (0 : Int32)), .val (.int (1 : Int32)), .val (.int (0 : Int32)), .val (.int (1 : Int32))] []))
        refine own_go (fun t k => XS.iload X40.here hx rfl (hb hby at_243) rfl  k) ?_
        show OwnG p.tables e below _ (T40.setTop (mkF m 245 #[.val (.long p0), .second, .val (.long p1), .second, .val (.long p2), .second, .val (.int p3), .val (.long lm), .second, .val (.ref b2), .val (.long z8), .second, .val (.int (own_took lm (0 : Int64) z8)), .val (.long z12), .second, .val (.long z15), .second, .val (.int (own_took lm z12 z15)), .val (.int z18), .val (.long z19), .second, .val (.long (lm - z19)), .second, .val (.int (0 : Int32)), .val (.int (1 : Int32)), .val (.int (0 : Int32)), .val (.int (1 : Int32))] [(.int (1 : Int32))]))
        refine own_go (fun t k => XS.ifNo X40.here hx rfl (hb hby at_245) rfl ((if0 _ _).trans (feq (by decide : ¬ ((1 : Int32) = (0 : Int32)))).1) k) ?_
        show OwnG p.tables e below _ (T40.setTop (mkF m 248 #[.val (.long p0), .second, .val (.long p1), .second, .val (.long p2), .second, .val (.int p3), .val (.long lm), .second, .val (.ref b2), .val (.long z8), .second, .val (.int (own_took lm (0 : Int64) z8)), .val (.long z12), .second, .val (.long z15), .second, .val (.int (own_took lm z12 z15)), .val (.int z18), .val (.long z19), .second, .val (.long (lm - z19)), .second, .val (.int (0 : Int32)), .val (.int (1 : Int32)), .val (.int (0 : Int32)), .val (.int (1 : Int32))] []))
        refine own_go (fun t k => XS.iload X40.here hx rfl (hb hby at_248) rfl  k) ?_
        show OwnG p.tables e below _ (T40.setTop (mkF m 250 #[.val (.long p0), .second, .val (.long p1), .second, .val (.long p2), .second, .val (.int p3), .val (.long lm), .second, .val (.ref b2), .val (.long z8), .second, .val (.int (own_took lm (0 : Int64) z8)), .val (.long z12), .second, .val (.long z15), .second, .val (.int (own_took lm z12 z15)), .val (.int z18), .val (.long z19), .second, .val (.long (lm - z19)), .second, .val (.int (0 : Int32)), .val (.int (1 : Int32)), .val (.int (0 : Int32)), .val (.int (1 : Int32))] [(.int (0 : Int32))]))
        refine own_go (fun t k => XS.ifNo X40.here hx rfl (hb hby at_250) rfl ((if0 _ _).trans (teq (by decide : (0 : Int32) = (0 : Int32))).2) k) ?_
        show OwnG p.tables e below _ (T40.setTop (mkF m 253 #[.val (.long p0), .second, .val (.long p1), .second, .val (.long p2), .second, .val (.int p3), .val (.long lm), .second, .val (.ref b2), .val (.long z8), .second, .val (.int (own_took lm (0 : Int64) z8)), .val (.long z12), .second, .val (.long z15), .second, .val (.int (own_took lm z12 z15)), .val (.int z18), .val (.long z19), .second, .val (.long (lm - z19)), .second, .val (.int (0 : Int32)), .val (.int (1 : Int32)), .val (.int (0 : Int32)), .val (.int (1 : Int32))] []))
        refine own_go (fun t k => XS.iload X40.here hx rfl (hb hby at_253) rfl  k) ?_
        show OwnG p.tables e below _ (T40.setTop (mkF m 255 #[.val (.long p0), .second, .val (.long p1), .second, .val (.long p2), .second, .val (.int p3), .val (.long lm), .second, .val (.ref b2), .val (.long z8), .second, .val (.int (own_took lm (0 : Int64) z8)), .val (.long z12), .second, .val (.long z15), .second, .val (.int (own_took lm z12 z15)), .val (.int z18), .val (.long z19), .second, .val (.long (lm - z19)), .second, .val (.int (0 : Int32)), .val (.int (1 : Int32)), .val (.int (0 : Int32)), .val (.int (1 : Int32))] [(.int (1 : Int32))]))
        refine own_go (fun t k => XS.ifNo X40.here hx rfl (hb hby at_255) rfl ((if0 _ _).trans (feq (by decide : ¬ ((1 : Int32) = (0 : Int32)))).1) k) ?_
        show OwnG p.tables e below _ (T40.setTop (mkF m 258 #[.val (.long p0), .second, .val (.long p1), .second, .val (.long p2), .second, .val (.int p3), .val (.long lm), .second, .val (.ref b2), .val (.long z8), .second, .val (.int (own_took lm (0 : Int64) z8)), .val (.long z12), .second, .val (.long z15), .second, .val (.int (own_took lm z12 z15)), .val (.int z18), .val (.long z19), .second, .val (.long (lm - z19)), .second, .val (.int (0 : Int32)), .val (.int (1 : Int32)), .val (.int (0 : Int32)), .val (.int (1 : Int32))] []))
        refine own_go (fun t k => XS.iconst X40.here hx rfl (hb hby at_258) k) ?_
        show OwnG p.tables e below _ (T40.setTop (mkF m 259 #[.val (.long p0), .second, .val (.long p1), .second, .val (.long p2), .second, .val (.int p3), .val (.long lm), .second, .val (.ref b2), .val (.long z8), .second, .val (.int (own_took lm (0 : Int64) z8)), .val (.long z12), .second, .val (.long z15), .second, .val (.int (own_took lm z12 z15)), .val (.int z18), .val (.long z19), .second, .val (.long (lm - z19)), .second, .val (.int (0 : Int32)), .val (.int (1 : Int32)), .val (.int (0 : Int32)), .val (.int (1 : Int32))] [(.int (1 : Int32))]))
        refine own_go (fun t k => XS.goto X40.here hx rfl (pc0 := 259) (pc' := 263) rfl (hb hby at_259) (by decide) (by decide) k) ?_
        show OwnG p.tables e below _ (T40.setTop (mkF m 263 #[.val (.long p0), .second, .val (.long p1), .second, .val (.long p2), .second, .val (.int p3), .val (.long lm), .second, .val (.ref b2), .val (.long z8), .second, .val (.int (own_took lm (0 : Int64) z8)), .val (.long z12), .second, .val (.long z15), .second, .val (.int (own_took lm z12 z15)), .val (.int z18), .val (.long z19), .second, .val (.long (lm - z19)), .second, .val (.int (0 : Int32)), .val (.int (1 : Int32)), .val (.int (0 : Int32)), .val (.int (1 : Int32))] [(.int (1 : Int32))]))
        obtain ⟨fs, hr, hrun, hended, hW, hsame⟩ := X40.leave (v := some (.int (1 : Int32))) (fun h => by rw [Bd.returns] at h; cases h)
        refine ⟨_, _, retN X40 hx (t := .boolean) Bd.returns (by simp) (hb hby at_263) hr, hrun, hended, _, _, rfl, ?_, ⟨_, rfl⟩, hW, hsame.mono (by decide) (by decide)⟩
        show Q_own_law Z p0 p1 p2 p3 h0 n0 _ T40.heap _
        exact ⟨rfl, N40⟩
set_option maxRecDepth 65536 in
set_option maxHeartbeats 40000000 in
theorem comes_1 {Post : Tables → Env → Array Value → State → Outcome → State → Prop} (hpost : ∀ tb e args s v u, (limb_1_1.after args s (.returned v) u = true ∧ limb_1_2.after args s (.returned v) u = true ∧ True) → FrameEnd s (.returned v) u (Jvm.fieldLocs frame_1_writes args s ++ Jvm.arrayLocs frame_1_arrays args s ++ Jvm.staticLocs frame_1_statics s) 16 128 → Post tb e args s (.returned v) u) :
    ArmFor flags0 classFile x code maxLocals ret World_1 tables_1 room_1 Calls_1 rest_1 Pre_1 Post := by
  intro l hfl _ _ p e ha hc hk s m args below hf hA hF happ hP
  obtain ⟨hcalls, hrest, hpre⟩ := hP
  obtain ⟨-, -, -, hnamed, -, -, -, hat⟩ := (Spec.applies_iff hf).mp happ
  obtain ⟨hg, hn⟩ := and_e (Cond.before_iff.mp (show (Jvm.Cond.and given_1 narrow_1).before args s = true from hpre))
  obtain ⟨hcount, hg⟩ := and_e hg
  obtain ⟨ga0, hg⟩ := and_e hg
  obtain ⟨ga1, hg⟩ := and_e hg
  obtain ⟨ga2, hg⟩ := and_e hg
  have ga3 := hg
  obtain ⟨w0, w1, w2, w3, rfl⟩ : ∃ w0 w1 w2 w3 : Value, args = #[w0, w1, w2, w3] := by
    have hs : args.size = 4 := by simpa [Cond.value, given_1] using hcount
    obtain ⟨L⟩ := args
    match L, hs with
    | [w0, w1, w2, w3], _ => exact ⟨w0, w1, w2, w3, rfl⟩
  have hw := fun d (hd : d ∈ tables_1) => atoms_spec (ws := Jvm.Cond.code x code maxLocals ret :: tables_1) hat d (List.mem_cons_of_mem _ hd)
  have hfit : Fit s := fun {y c} hc i hi => by
    obtain ⟨ha, rfl⟩ := Array.getElem?_eq_some_iff.mp hc
    have q := List.all_eq_true.mp ((Array.all_eq_true_iff_forall_mem.mp hF) _ (Array.getElem_mem ha)) i (List.mem_range.mpr hi)
    simpa [Array.getElem?_eq_getElem hi] using q
  obtain ⟨i0, ei0⟩ := isL_v ga0
  obtain rfl : w0 = (.long i0) := Option.some.inj ei0
  obtain ⟨i1, ei1⟩ := isL_v ga1
  obtain rfl : w1 = (.long i1) := Option.some.inj ei1
  obtain ⟨i2, ei2⟩ := isL_v ga2
  obtain rfl : w2 = (.long i2) := Option.some.inj ei2
  obtain ⟨i3, ei3⟩ := is_v ga3
  obtain rfl : w3 = (.int i3) := Option.some.inj ei3
  obtain ⟨n, o, h1, h2, h3, _, L, rfl, ⟨rfl, N⟩, hq⟩ := own_law l s _ hw tables_1 i0 i1 i2 i3  s.heap s.heap.size (Nat.le_refl _)  p e ha hc hk s m _ below hf ((Spec.applies_iff_loose hf).mp happ).1 ⟨rfl, State.Warmed39.refl s, rfl⟩ trivial
  refine ⟨n, _, h1, h2, h3, hpost _ _ _ _ _ _ ⟨Cond.after_iff.mpr rfl, Cond.after_iff.mpr (eq_i res_at (Term.int_eval (1)) rfl), trivial⟩ ⟨hq.1, hq.2.1, (hq.2.2.sift fun y hy => Or.inr (N y hy)).mono (by decide) (by decide)⟩⟩
theorem main_1_1 : Claimed_1_1 := comes_1 fun _ _ _ _ _ _ h hF => ⟨h.1, hF⟩
theorem main_1_2 : Claimed_1_2 := comes_1 fun _ _ _ _ _ _ h hF => ⟨h.2.1, hF⟩
end Jvm.Pilot.@@N@@
namespace Jvm.Pilot.@@N@@
open Jvm Jvm.ClassFile Sem Op Lib Jvm.Free Jvm.Stand Jvm.Pilot.@@N@@.Jvm.D
/-! MADE BY PROGRAM (witnessworld.py) out of the Statement's table words and the real class files: 10 classes; the members and pool entries that the words name. The judged class is class 1, her method 1. -/
namespace start1
open Jvm.ClassFile
def u (s : String) : CpInfo := .utf8 (stringToUtf16 s)
/-- a pool by its gaps: so many unusable entries, then the entry; so many at the end -/
def gap : Nat → List CpInfo → List CpInfo
  | 0, r => r
  | n + 1, r => .unusable :: gap n r
def poolList (es : List (Nat × CpInfo)) (last : Nat) : List CpInfo := es.foldr (fun e r => gap e.1 (e.2 :: r)) (gap last [])
def pool (es : List (Nat × CpInfo)) (last : Nat) : Array CpInfo := ⟨poolList es last⟩
def fileOf (pool : Array CpInfo) (this : Nat) (attrs : Array Attribute := #[]) (ms : Array MethodInfo := #[]) (fl : Nat := 33) (sup : Nat := 0) (ifs : Array Nat := #[]) (fds : Array FieldInfo := #[]) : ClassFile where
  minorVersion := 0
  majorVersion := 65
  constantPool := pool
  accessFlags := fl
  thisClass := this
  superClass := sup
  interfaces := ifs
  fields := fds
  methods := ms
  attributes := attrs
def plain (name : String) (sup : Option ClassId) : Class where
  name := name
  kind := .ordinary
  loader := none
  accessFlags := 33
  super := sup
  interfaces := #[]
  cf := none
  fields := #[]
  methods := #[]
  instanceTypes := #[]
  staticTypes := #[]
  resolved := #[]
  callSites := []
  init := .initialized
  statics := none
  mirror := none

def pool0 : Array CpInfo := pool [(5, u "<init>"), (0, u "()V"), (1, .class_ 10), (1, u "java/lang/Object")] 113

def k0c0 : Code := { maxStack := 0, maxLocals := 1, code := object_method_1_code, exceptionTable := #[], attributes := #[] }
def k0m0 : Method := { name := "<init>", desc := "()V", sig := { parameters := [], returnType := none }, accessFlags := 1, code := some k0c0 }
/-- java/lang/Object -/
def k0 : Class := { plain "java/lang/Object" none with
  accessFlags := 33
  interfaces := #[]
  cf := some (fileOf pool0 8 #[] #[{ accessFlags := 1, nameIndex := 5, descriptorIndex := 6, attributes := #[] }] 33 0 #[] #[])
  fields := #[]
  methods := #[k0m0]
  instanceTypes := #[]
  staticTypes := #[]
  resolved := Array.replicate 124 none
  statics := none }

def pool1 : Array CpInfo := pool [(2, .class_ 4), (1, u "java/lang/Object"), (0, u "<init>"), (0, u "()V"), (2, .long 9223372036854775807), (1, .methodref 12 13), (0, .class_ 14), (0, .nameAndType 15 16), (0, u "java/lang/Math"), (0, u "max"), (0, u "(JJ)J"), (0, .class_ 18), (0, u "com/example/offst/offst/group/MemberBytes"), (0, .methodref 17 20), (0, .nameAndType 5 21), (0, u "(J)V"), (0, .methodref 17 23), (0, .nameAndType 24 25), (0, u "take"), (0, u "(J)Z"), (0, .class_ 27), (0, u "com/example/offst/offst/group/MemberBytesTakePinLaw"), (2, u "law"), (0, u "(JJJI)Z")] 3

def k1m0 : Method := { name := "<init>", desc := "()V", sig := { parameters := [], returnType := none }, accessFlags := 1, code := none }
def k1c1 : Code := { maxStack := 6, maxLocals := 27, code := code, exceptionTable := #[], attributes := #[] }
def k1m1 : Method := { name := "law", desc := "(JJJI)Z", sig := { parameters := [.long, .long, .long, .int], returnType := some .boolean }, accessFlags := 9, code := some k1c1 }
/-- com/example/offst/offst/group/MemberBytesTakePinLaw -/
def k1 : Class := { plain "com/example/offst/offst/group/MemberBytesTakePinLaw" (some 0) with
  accessFlags := 49
  interfaces := #[]
  cf := some (fileOf pool1 26 #[] #[{ accessFlags := 1, nameIndex := 5, descriptorIndex := 6, attributes := #[] }, { accessFlags := 9, nameIndex := 30, descriptorIndex := 31, attributes := #[] }] 49 2 #[] #[])
  fields := #[]
  methods := #[k1m0, k1m1]
  instanceTypes := #[]
  staticTypes := #[]
  resolved := Array.replicate 35 none
  statics := none }

def pool2 : Array CpInfo := pool [(1, .class_ 2), (0, u "java/lang/Math"), (1, .class_ 6), (1, u "java/lang/Object"), (0, u "<init>"), (0, u "()V"), (89, .class_ 100), (1, u "java/lang/Math$RandomNumberGeneratorHolder"), (20, u "(JJ)J"), (50, u "negativeZeroFloatBits"), (0, u "J"), (2, u "negativeZeroDoubleBits"), (21, u "max"), (46, u "$assertionsDisabled"), (0, u "Z"), (91, u "twoToTheDoubleScaleDown"), (0, u "D"), (4, u "twoToTheDoubleScaleUp"), (9, u "E"), (3, u "PI"), (2, u "TAU"), (2, u "DEGREES_TO_RADIANS"), (0, u "RADIANS_TO_DEGREES")] 94

def k2m0 : Method := { name := "<init>", desc := "()V", sig := { parameters := [], returnType := none }, accessFlags := 2, code := none }
def k2c1 : Code := { maxStack := 4, maxLocals := 4, code := jdk_29_method_66_code, exceptionTable := #[], attributes := #[] }
def k2m1 : Method := { name := "max", desc := "(JJ)J", sig := { parameters := [.long, .long], returnType := some .long }, accessFlags := 9, code := some k2c1 }
/-- java/lang/Math -/
def k2 : Class := { plain "java/lang/Math" (some 0) with
  accessFlags := 49
  interfaces := #[]
  cf := some (fileOf pool2 1 #[.nestMembers #[98]] #[{ accessFlags := 2, nameIndex := 7, descriptorIndex := 8, attributes := #[] }, { accessFlags := 9, nameIndex := 198, descriptorIndex := 121, attributes := #[] }] 49 4 #[] #[{ accessFlags := 25, nameIndex := 354, descriptorIndex := 339, attributes := #[] }, { accessFlags := 25, nameIndex := 358, descriptorIndex := 339, attributes := #[] }, { accessFlags := 25, nameIndex := 361, descriptorIndex := 339, attributes := #[] }, { accessFlags := 26, nameIndex := 364, descriptorIndex := 339, attributes := #[] }, { accessFlags := 26, nameIndex := 365, descriptorIndex := 339, attributes := #[] }, { accessFlags := 26, nameIndex := 172, descriptorIndex := 173, attributes := #[] }, { accessFlags := 26, nameIndex := 176, descriptorIndex := 173, attributes := #[] }, { accessFlags := 8, nameIndex := 344, descriptorIndex := 339, attributes := #[] }, { accessFlags := 8, nameIndex := 338, descriptorIndex := 339, attributes := #[] }, { accessFlags := 4120, nameIndex := 245, descriptorIndex := 246, attributes := #[] }])
  fields := #[{ name := "E", type := .double, accessFlags := 25, slot := 0, constantValue := 0 }, { name := "PI", type := .double, accessFlags := 25, slot := 1, constantValue := 0 }, { name := "TAU", type := .double, accessFlags := 25, slot := 2, constantValue := 0 }, { name := "DEGREES_TO_RADIANS", type := .double, accessFlags := 26, slot := 3, constantValue := 0 }, { name := "RADIANS_TO_DEGREES", type := .double, accessFlags := 26, slot := 4, constantValue := 0 }, { name := "negativeZeroFloatBits", type := .long, accessFlags := 26, slot := 5, constantValue := 0 }, { name := "negativeZeroDoubleBits", type := .long, accessFlags := 26, slot := 6, constantValue := 0 }, { name := "twoToTheDoubleScaleUp", type := .double, accessFlags := 8, slot := 7, constantValue := 0 }, { name := "twoToTheDoubleScaleDown", type := .double, accessFlags := 8, slot := 8, constantValue := 0 }, { name := "$assertionsDisabled", type := .boolean, accessFlags := 4120, slot := 9, constantValue := 0 }]
  methods := #[k2m0, k2m1]
  instanceTypes := #[]
  staticTypes := #[.double, .double, .double, .double, .double, .long, .long, .double, .double, .boolean]
  resolved := Array.replicate 460 none
  statics := none }

def pool3 : Array CpInfo := pool [(1, .methodref 2 3), (0, .class_ 4), (0, .nameAndType 5 6), (0, u "java/lang/Object"), (0, u "<init>"), (0, u "()V"), (9, .fieldref 17 18), (0, .class_ 19), (0, .nameAndType 20 21), (0, u "com/example/offst/offst/group/MemberBytes"), (0, u "limit"), (0, u "J"), (10, .fieldref 17 33), (0, .nameAndType 34 21), (0, u "held"), (0, u "PER_MEMBER"), (0, u "I"), (2, u "(J)V"), (5, u "take"), (0, u "(J)Z")] 18

def k3c0 : Code := { maxStack := 4, maxLocals := 3, code := prog_27_method_1_code, exceptionTable := #[], attributes := #[] }
def k3m0 : Method := { name := "<init>", desc := "(J)V", sig := { parameters := [.long], returnType := none }, accessFlags := 0, code := some k3c0 }
def k3c1 : Code := { maxStack := 6, maxLocals := 3, code := prog_27_method_3_code, exceptionTable := #[], attributes := #[] }
def k3m1 : Method := { name := "take", desc := "(J)Z", sig := { parameters := [.long], returnType := some .boolean }, accessFlags := 0, code := some k3c1 }
/-- com/example/offst/offst/group/MemberBytes -/
def k3 : Class := { plain "com/example/offst/offst/group/MemberBytes" (some 0) with
  accessFlags := 48
  interfaces := #[]
  cf := some (fileOf pool3 17 #[] #[{ accessFlags := 0, nameIndex := 5, descriptorIndex := 39, attributes := #[] }, { accessFlags := 0, nameIndex := 45, descriptorIndex := 46, attributes := #[] }] 48 2 #[] #[{ accessFlags := 24, nameIndex := 35, descriptorIndex := 36, attributes := #[] }, { accessFlags := 18, nameIndex := 20, descriptorIndex := 21, attributes := #[] }, { accessFlags := 2, nameIndex := 34, descriptorIndex := 21, attributes := #[] }])
  fields := #[{ name := "PER_MEMBER", type := .int, accessFlags := 24, slot := 0, constantValue := 0 }, { name := "limit", type := .long, accessFlags := 18, slot := 0, constantValue := 0 }, { name := "held", type := .long, accessFlags := 2, slot := 1, constantValue := 0 }]
  methods := #[k3m0, k3m1]
  instanceTypes := #[.long, .long]
  staticTypes := #[.int]
  resolved := Array.replicate 65 none
  statics := none }

def pool4 : Array CpInfo := pool [(1, u "java/lang/Cloneable"), (0, .class_ 1), (0, u "java/lang/Object"), (0, .class_ 3)] 3

/-- java/lang/Cloneable -/
def k4 : Class := { plain "java/lang/Cloneable" (some 0) with
  accessFlags := 1537
  interfaces := #[]
  cf := some (fileOf pool4 2 #[] #[] 1537 4 #[] #[])
  fields := #[]
  methods := #[]
  instanceTypes := #[]
  staticTypes := #[]
  resolved := Array.replicate 8 none
  statics := none }

def pool5 : Array CpInfo := pool [(1, u "java/io/Serializable"), (0, .class_ 1), (0, u "java/lang/Object"), (0, .class_ 3)] 3

/-- java/io/Serializable -/
def k5 : Class := { plain "java/io/Serializable" (some 0) with
  accessFlags := 1537
  interfaces := #[]
  cf := some (fileOf pool5 2 #[] #[] 1537 4 #[] #[])
  fields := #[]
  methods := #[]
  instanceTypes := #[]
  staticTypes := #[]
  resolved := Array.replicate 8 none
  statics := none }

/-- the primitive byte -/
def k6 : Class := { plain "byte" none with kind := .primitive 'B', accessFlags := 0x411 }
/-- [B -/
def k7 : Class := { plain "[B" (some 0) with kind := .array 6 .byte, interfaces := #[4, 5], accessFlags := 1041 }

/-- the primitive int -/
def k8 : Class := { plain "int" none with kind := .primitive 'I', accessFlags := 0x411 }
/-- [I -/
def k9 : Class := { plain "[I" (some 0) with kind := .array 8 .int, interfaces := #[4, 5], accessFlags := 1041 }

def heap : Heap := #[]
def classes : Array Class := #[k0, k1, k2, k3, k4, k5, k6, k7, k8, k9]
def interned : List (Array UInt16 × Addr) := []
def slotsUsed : Nat := 0
def theMethod : MethodId := ⟨1, 1⟩
def args0 : Array Value := #[.long 10, .long 3, .long 4, .int 3]
def aboutOver (below : List Frame) : State where
  vm := { classes := classes, interned := interned.toArray }
  heap := heap
  slotsUsed := slotsUsed
  threads := #[{ frames := .invoking theMethod args0 :: below }]
def below0 : List Frame := [.native { method := ⟨0, 0⟩, args := #[] }]
def about1 : State := aboutOver below0
def p0 : Program := .bare "" "" ""
def e0 : Env := launch0.env 0 0 0
theorem w_frames : about1.frames = Frame.invoking theMethod args0 :: below0 := rfl
set_option maxRecDepth 65536 in
theorem w_args : argsFit about1.vm theMethod args0 = true := by decide +kernel
set_option maxRecDepth 65536 in
theorem w_heap : heapFits about1 = true := by decide +kernel
set_option maxRecDepth 65536 in
theorem w_runnable : about1.curStatus? = some .runnable := by decide +kernel
set_option maxRecDepth 65536 in
theorem w_alone : about1.alone = true := by decide +kernel
set_option maxRecDepth 65536 in
theorem w_named : about1.methodNamed? x = some theMethod := by decide +kernel
set_option maxRecDepth 65536 in
theorem w_hears : about1.hears theMethod below0 = true := by decide +kernel
set_option maxRecDepth 65536 in
theorem w_ripe : about1.ripe theMethod args0 below0 = true := by decide +kernel
theorem w_running : about1.status = .running := rfl
set_option maxRecDepth 65536 in
theorem w_room : about1.hasRoom e0.platform room_1 = true :=
  launch0.hasRoom_least _ room_1 (by decide +kernel) (by decide +kernel) (by decide +kernel) (by decide +kernel) (by decide +kernel) (by decide +kernel)
theorem allAtoms_all (ts : List Jvm.Cond) (a : Array Jvm.Value) (st : Jvm.State) : (allAtoms ts).before a st = ts.all (fun c => c.before a st) := by
  induction ts with
  | nil => rfl
  | cons c t ih =>
    show (Jvm.Cond.and c (allAtoms t)).before a st = _
    rw [Jvm.Cond.before_and, ih, List.all_cons]
def words1 : List Jvm.Cond := Jvm.Cond.code x code maxLocals ret :: tables_1
/-- a 'code' word, met by the world's own term for the bytes: nothing is compared byte by byte -/
theorem code_word {y : MethodName} {bytes : ByteArray} {mx : Nat} {rt : Option FieldType} {a : Array Value} {s : State} {m : MethodId} {meth : Method} {c : Code} (h1 : s.methodNamed? y = some m) (h2 : s.vm.method? m = some meth) (h3 : meth.code = some c) (h4 : c.code = bytes)
    (h5 : (c.maxLocals == mx && c.exceptionTable.isEmpty && decide (c.maxStack ≤ mostOperands) && decide (meth.sig.returnType = rt) && !meth.locks && decide (parseMethodDescriptor y.desc = some meth.sig)) = true) : (Jvm.Cond.code y bytes mx rt).before a s = true := by
  simp only [Bool.and_eq_true, beq_iff_eq, Bool.not_eq_true', decide_eq_true_eq] at h5
  obtain ⟨⟨⟨⟨⟨g1, g2⟩, g3⟩, g4⟩, g5⟩, g6⟩ := h5
  simp [Cond.before, Cond.holds, Cond.value, h1, h2, h3, h4, g1, g2, g3, g4, g5, g6]
def isCode : Jvm.Cond → Bool
  | .code _ _ _ _ => true
  | _ => false
theorem all_split {L : List Jvm.Cond} {P : Jvm.Cond → Bool} (h1 : L.all (fun c => isCode c || P c) = true) (h2 : ∀ c ∈ L.filter isCode, P c = true) : L.all P = true := by
  refine List.all_eq_true.mpr fun c hc => ?_
  have h := List.all_eq_true.mp h1 c hc
  rcases Bool.eq_false_or_eq_true (isCode c) with hi | hi
  · exact h2 c (List.mem_filter.mpr ⟨hc, hi⟩)
  · simpa [hi] using h
set_option maxRecDepth 65536 in
theorem w_c0 : (Jvm.Cond.code x code maxLocals ret).before args0 about1 = true := code_word (m := ⟨1, 1⟩) (meth := k1m1) (c := k1c1) (by decide +kernel) rfl rfl rfl (by decide +kernel)
set_option maxRecDepth 65536 in
theorem w_c1 : (Jvm.Cond.code ({ cls := "java/lang/Math", name := "max", desc := "(JJ)J" } : Jvm.MethodName) jdk_29_method_66_code (4 : Nat) (Option.some Jvm.ClassFile.FieldType.long)).before args0 about1 = true := code_word (m := ⟨2, 1⟩) (meth := k2m1) (c := k2c1) (by decide +kernel) rfl rfl rfl (by decide +kernel)
set_option maxRecDepth 65536 in
theorem w_c2 : (Jvm.Cond.code ({ cls := "com/example/offst/offst/group/MemberBytes", name := "<init>", desc := "(J)V" } : Jvm.MethodName) prog_27_method_1_code (3 : Nat) (Option.none : Option Jvm.ClassFile.FieldType)).before args0 about1 = true := code_word (m := ⟨3, 0⟩) (meth := k3m0) (c := k3c0) (by decide +kernel) rfl rfl rfl (by decide +kernel)
set_option maxRecDepth 65536 in
theorem w_c3 : (Jvm.Cond.code ({ cls := "java/lang/Object", name := "<init>", desc := "()V" } : Jvm.MethodName) object_method_1_code (1 : Nat) (Option.none : Option Jvm.ClassFile.FieldType)).before args0 about1 = true := code_word (m := ⟨0, 0⟩) (meth := k0m0) (c := k0c0) (by decide +kernel) rfl rfl rfl (by decide +kernel)
set_option maxRecDepth 65536 in
theorem w_c4 : (Jvm.Cond.code ({ cls := "com/example/offst/offst/group/MemberBytes", name := "take", desc := "(J)Z" } : Jvm.MethodName) prog_27_method_3_code (3 : Nat) (Option.some Jvm.ClassFile.FieldType.boolean)).before args0 about1 = true := code_word (m := ⟨3, 1⟩) (meth := k3m1) (c := k3c1) (by decide +kernel) rfl rfl rfl (by decide +kernel)
def codes1 : List Jvm.Cond := [Jvm.Cond.code x code maxLocals ret, Jvm.Cond.code ({ cls := "java/lang/Math", name := "max", desc := "(JJ)J" } : Jvm.MethodName) jdk_29_method_66_code (4 : Nat) (Option.some Jvm.ClassFile.FieldType.long), Jvm.Cond.code ({ cls := "com/example/offst/offst/group/MemberBytes", name := "<init>", desc := "(J)V" } : Jvm.MethodName) prog_27_method_1_code (3 : Nat) (Option.none : Option Jvm.ClassFile.FieldType), Jvm.Cond.code ({ cls := "java/lang/Object", name := "<init>", desc := "()V" } : Jvm.MethodName) object_method_1_code (1 : Nat) (Option.none : Option Jvm.ClassFile.FieldType), Jvm.Cond.code ({ cls := "com/example/offst/offst/group/MemberBytes", name := "take", desc := "(J)Z" } : Jvm.MethodName) prog_27_method_3_code (3 : Nat) (Option.some Jvm.ClassFile.FieldType.boolean)]
set_option maxRecDepth 65536 in
theorem codes_eq : words1.filter isCode = codes1 := rfl
theorem w_codes : ∀ c ∈ words1.filter isCode, c.before args0 about1 = true := by
  rw [codes_eq]
  intro c hc
  simp only [codes1, List.mem_cons, List.not_mem_nil, or_false] at hc
  rcases hc with rfl | rfl | rfl | rfl | rfl
  · exact w_c0
  · exact w_c1
  · exact w_c2
  · exact w_c3
  · exact w_c4
set_option maxRecDepth 65536 in
theorem w_t1 : words1.all (fun c => isCode c || c.before args0 about1) = true := by decide +kernel
theorem w_tables : (allAtoms (Jvm.Cond.code x code maxLocals ret :: tables_1)).before args0 about1 = true := by
  rw [allAtoms_all]
  show words1.all (fun c => c.before args0 about1) = true
  refine all_split ?_ w_codes
  rw [w_t1]
set_option maxRecDepth 65536 in
theorem w_case : (Jvm.Cond.and given_1 narrow_1).before args0 about1 = true := by decide +kernel
theorem w_applies : (headSpec (Jvm.Cond.code x code maxLocals ret :: tables_1) room_1).applies x e0.platform about1 = true :=
  (Spec.applies_iff w_frames).mpr ⟨w_running, w_runnable, w_alone, w_named, w_hears, w_ripe, w_room, w_tables⟩
theorem atStart : AtStart classFile x code maxLocals ret World_1 tables_1 room_1 Calls_1 rest_1 Pre_1 launch0 p0 e0 about1 theMethod args0 below0 :=
  ⟨lists_1, trivial, launch0.admits_env _ _ _, launch0.least_env, fairChoices_fair.cas, fairChoices_fair.clock, w_frames, w_args, w_heap, w_applies, trivial, trivial, w_case⟩
end start1
theorem witness_1 : WitnessClaimed_1 := ⟨start1.p0, start1.e0, start1.about1, start1.theMethod, start1.args0, start1.below0, start1.atStart⟩
end Jvm.Pilot.@@N@@
