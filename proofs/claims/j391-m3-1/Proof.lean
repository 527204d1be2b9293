import JvmDerived
import JvmDerived.Pilot.@@N@@Statement
import JvmDerived.Pilot.@@N@@Code
set_option linter.unusedVariables false
set_option linter.unusedSimpArgs false
namespace Jvm.RoadKit
open Sem ClassFile Op Lib Jvm.Stand Jvm.Free Jvm.LawKit
section New
variable {p : Program} {l : Launch} {e : Env} {R : Room} {s : State} {m : MethodId} {args : Array Value} {below : List Frame} {meth : Method} {c : Code} {T : State} {locs : List Loc} {cells slots : Nat}
theorem retI (X : Stand p l e R s m args below meth c T locs cells slots) (hx : p.tables.exec = Jvm.exec) {pc : Nat} {Ls : Array Slot} {z : Int32} {rest : List Value} (hret : meth.sig.returnType = some .int) (hd : decode c.code pc = .ok (.ireturn, 1)) {fs : List Frame}
    (hl : ∀ (f : JFrame) (acts : List Action), f.method = m → f.locked = none → f.entered = [] → (doReturn e (T.setTop f) acts (some (.int z))).1 = T.setFrames fs) : Steps p.tables e below (T.setTop (mkF m pc Ls (.int z :: rest))) (T.setFrames fs) := by
  have hm' : T.vm.method? m = some meth := X.method'
  have hn : narrow .int (.int z) = .int z := rfl
  show Steps p.tables e below (T.setTop { method := m, pc := pc, locals := Ls, stack := _ :: rest, locked := none }) _
  jvm_step X.here [X.here.top, hx, hd, hm', hret, hn]
  first | (intro acts; rw [hl _ acts rfl rfl rfl]) | rw [hl _ _ rfl rfl rfl]
  exact Steps.refl _
end New
end Jvm.RoadKit
namespace Jvm.Pilot.@@N@@
open Jvm Jvm.ClassFile Sem Op Lib Jvm.Free Jvm.Stand Jvm.LawKit Jvm.RoadKit Bundle Jvm.Pilot.@@N@@.Jvm.D
abbrev OwnG (tb : Tables) (e : Env) (below : List Frame) (R : State → Outcome → Prop) (cur : State) : Prop := ∃ s₂ o, Steps tb e below cur s₂ ∧ R s₂ o
theorem own_go {tb : Tables} {e : Env} {below : List Frame} {R : State → Outcome → Prop} {cur nxt : State} (h : ∀ t, Steps tb e below nxt t → Steps tb e below cur t) (k : OwnG tb e below R nxt) : OwnG tb e below R cur := by
  obtain ⟨s₂, o, h1, h2⟩ := k
  exact ⟨s₂, o, h _ h1, h2⟩
theorem own_pick {α : Type} (c : Prop) (a b : α) : ∃ z : α, (c → z = a) ∧ (¬ c → z = b) := by
  by_cases h : c
  · exact ⟨a, fun _ => rfl, fun q => absurd h q⟩
  · exact ⟨b, fun q => absurd q h, fun _ => rfl⟩
theorem own_ne_or {a d x n : Nat} (h : x = d ∨ n ≤ x) (h1 : a ≠ d) (h2 : a < n) : a ≠ x := by
  rcases h with h | h <;> omega
theorem own_ge_or {d x n k : Nat} (h : x = d ∨ n ≤ x) (h1 : k ≤ d) (h2 : k ≤ n) : k ≤ x := by
  rcases h with h | h <;> omega
theorem own_in_or {d x n k : Nat} {ws : List Nat} (h : x = d ∨ n ≤ x) (h1 : d ∈ ws) (h2 : k ≤ n) : x ∈ ws ∨ k ≤ x := by
  rcases h with rfl | h
  · exact Or.inl h1
  · exact Or.inr (Nat.le_trans h2 h)
theorem own_iw_or {d x n k : Nat} {ws : List Nat} (h : x = d ∨ n ≤ x) (h1 : d ∈ ws ∨ k ≤ d) (h2 : k ≤ n) : x ∈ ws ∨ k ≤ x := by
  rcases h with rfl | h
  · exact h1
  · exact Or.inr (Nat.le_trans h2 h)
section OwnStat
variable {args : Array Value} {s : State} {t u w : Term} {a b : Addr} {cl : Cell} {ty : FieldType}
theorem own_eqI {v : Int32} (h : (Cond.eq t (.int v)).value args s none s [] = some true) : t.eval args s none [] s = some (.int v) := by
  cases hx : t.eval args s none [] s with
  | none => simp [Cond.value, Term.eval, hx] at h
  | some y => cases y <;> simp [Cond.value, Term.eval, hx] at h; rw [h]
theorem own_eqJ {v : Int64} (h : (Cond.eq t (.long v)).value args s none s [] = some true) : t.eval args s none [] s = some (.long v) := by
  cases hx : t.eval args s none [] s with
  | none => simp [Cond.value, Term.eval, hx] at h
  | some y => cases y <;> simp [Cond.value, Term.eval, hx] at h; rw [h]
theorem own_eqR (h : (Cond.eq t u).value args s none s [] = some true) (hu : u.eval args s none [] s = some (.ref b)) : t.eval args s none [] s = some (.ref b) := by
  cases hx : t.eval args s none [] s with
  | none => simp [Cond.value, hu, hx] at h
  | some y => cases y <;> simp [Cond.value, hu, hx] at h; rw [h]
theorem own_neI {i v : Int32} (h : (Cond.not (.eq t (.int v))).value args s none s [] = some true) (ev : t.eval args s none [] s = some (.int i)) : i ≠ v := by
  intro e
  subst e
  simp [Cond.value, ev, Term.eval] at h
theorem own_len {n : Int32} (ev : t.eval args s none [] s = some (.ref a)) (A : Arr s s.heap a cl ty) (h : (Cond.eq (.length t) (.int n)).value args s none s [] = some true) : cl.slots.size < 2 ^ 31 ∧ cl.slots.size.toInt32 = n := by
  have e := own_eqI h
  have hA : s.arrayAt? a = some cl := A.fin (Vm.Alike.refl _)
  by_cases q : cl.slots.size < 2 ^ 31
  · rw [len_f ev hA q] at e
    exact ⟨q, by cases e; rfl⟩
  · simp [Term.eval, ev, hA, q] at e
theorem own_elem {j : Int32} {v : Value} (hj : ¬ j < 0) (ev : t.eval args s none [] s = some (.ref a)) (A : Arr s s.heap a cl ty) (h : (Term.elem t (.int j)).eval args s none [] s = some v) : cl.slots[j.toNatClampNeg]? = some v := by
  rw [elem_f (a := .int j) ev rfl (A.fin (Vm.Alike.refl _)) hj] at h; exact h
theorem own_fld {C n d : String} {v : Value} (ev : t.eval args s none [] s = some (.ref a)) (h : (Term.field t C n d).eval args s none [] s = some v) : Fld s s.heap a C n d v :=
  Fld.start (by rw [← fld_at ev]; exact h)
end OwnStat

theorem own_sa (Z : State) (a0 : Array Value) (hw : ∀ d ∈ tables_1, d.before a0 Z = true) : ∀ a ∈ Bundle.stringAtoms, a.before a0 Z = true := by
  intro d hd
  simp only [Bundle.stringAtoms, List.mem_cons, List.not_mem_nil, or_false] at hd
  rcases hd with rfl | rfl | rfl | rfl | rfl | rfl | rfl
  · exact (hw _ (List.mem_of_getElem? (i := 5) rfl))
  · exact (hw _ (List.mem_of_getElem? (i := 6) rfl))
  · exact (hw _ (List.mem_of_getElem? (i := 0) rfl))
  · exact (hw _ (List.mem_of_getElem? (i := 7) rfl))
  · exact (hw _ (List.mem_of_getElem? (i := 8) rfl))
  · exact (hw _ (List.mem_of_getElem? (i := 9) rfl))
  · exact (hw _ (List.mem_of_getElem? (i := 10) rfl))
theorem own_m7 (x : Int32) : ¬ (x &&& 7) < 0 ∧ (x &&& 7).toNatClampNeg ≤ 7 := by
  have h := c_mask x 7 3 (by decide) rfl
  have : (0 : Int32).toInt = 0 := rfl
  rw [Int32.lt_iff_toInt_lt]; simp only [Int32.toNatClampNeg]; omega
theorem own_first (b : Int64) (x : Int32) : b + x.toInt64 = b + (x - (0 : Int32)).toInt64 := by rw [Int32.sub_zero]
theorem own_second (b : Int64) (x y : Int32) : b + (y &&& 7).toInt64 = b + (x &&& 7).toInt64 + ((y &&& 7) - (x &&& 7)).toInt64 := by
  have h1 := c_mask x 7 3 (by decide) rfl; have h2 := c_mask y 7 3 (by decide) rfl
  generalize (x &&& 7) = u at *; generalize (y &&& 7) = v at *
  have h3 := c_isub v u; have h4 := rng32 (v - u)
  have h5 : (v - u).toInt64 = v.toInt64 - u.toInt64 := by
    apply Int64.toInt_inj.mp
    have g := c_lsub v.toInt64 u.toInt64; have g2 := rng64 (v.toInt64 - u.toInt64)
    rw [c_i2l] at g ⊢; rw [c_i2l] at g; omega
  rw [h5, Int64.add_assoc]; congr 1
  apply Int64.toBitVec_inj.mp; simp only [Int64.toBitVec_add, Int64.toBitVec_sub]; rw [BitVec.add_comm, BitVec.sub_add_cancel]
theorem own_ef0 (m : MethodId) (a1 : Addr) (a2 : Addr) : entryFrame m #[(.ref a1), (.ref a2)] 2 = mkF m 0 #[.val (.ref a1), .val (.ref a2)] [] := by first | (simp [entryFrame, mkF, argsToLocals, Value.category]; done) | rfl
theorem own_pn1 : plainName "com/example/offst/offst/group/Member" = true := by first | (simp [plainName, overriddenIn]; done) | decide +kernel
theorem own_d2 : decode prog_26_method_1_code 0 = .ok (.aload_n 0, 1) := by decide +kernel
theorem own_d3 : decode prog_26_method_1_code 1 = .ok (.invokespecial 1, 3) := by decide +kernel
theorem own_d4 : decode prog_26_method_1_code 4 = .ok (.aload_n 0, 1) := by decide +kernel
theorem own_d5 : decode prog_26_method_1_code 5 = .ok (.getstatic 7, 3) := by decide +kernel
theorem own_d6 : decode prog_26_method_1_code 8 = .ok (.putfield 13, 3) := by decide +kernel
theorem own_d7 : decode prog_26_method_1_code 11 = .ok (.aload_n 0, 1) := by decide +kernel
theorem own_d8 : decode prog_26_method_1_code 12 = .ok (.aload_n 1, 1) := by decide +kernel
theorem own_d9 : decode prog_26_method_1_code 13 = .ok (.putfield 16, 3) := by decide +kernel
theorem own_d10 : decode prog_26_method_1_code 16 = .ok (.return_, 1) := by decide +kernel
def Q_own_init (Z : State) (a1 : Addr) (a2 : Addr) (o_NO_ASSIGNMENT : Addr) (kc_o_NO_ASSIGNMENT : ClassId) (h0 : Heap) (n0 : Nat) (v : Option Value) (h : Heap) (L : List Loc) : Prop := v = none ∧ Fr n0 L ∧ Keep h0 h [a1] ∧ Exa Z h a1 "com/example/offst/offst/group/Member" ∧ Fld Z h a1 "com/example/offst/offst/group/Member" "assignment" "[B" (.ref o_NO_ASSIGNMENT) ∧ Fld Z h a1 "com/example/offst/offst/group/Member" "heldBytes" "J" (.long (0 : Int64)) ∧ Fld Z h a1 "com/example/offst/offst/group/Member" "joinedWith" "Lcom/example/offst/offst/protocol/JoinGroupRequest;" .null
set_option maxRecDepth 65536 in
set_option maxHeartbeats 40000000 in
theorem own_init (l : Launch) (Z : State) (a0 : Array Value) (hw : ∀ d ∈ tables_1, d.before a0 Z = true) (ws : List Jvm.Cond) (a1 : Addr) (a2 : Addr) (o_NO_ASSIGNMENT : Addr) (kc_o_NO_ASSIGNMENT : ClassId) (h0 : Heap) (n0 : Nat) (Z0 : n0 ≤ h0.size) (O0 : Old Z n0 h0) (S_NO_ASSIGNMENT : Sta Z Z.heap "com/example/offst/offst/group/Member" "NO_ASSIGNMENT" "[B" (.ref o_NO_ASSIGNMENT)) (V_o_NO_ASSIGNMENT : Arv Z Z.heap o_NO_ASSIGNMENT kc_o_NO_ASSIGNMENT .byte (0 : Int32) [] (.int (0 : Int32))) (f0_0 : Exa Z h0 a1 "com/example/offst/offst/group/Member") (f0_1 : Fld Z h0 a1 "com/example/offst/offst/group/Member" "assignment" "[B" .null) (f0_2 : Fld Z h0 a1 "com/example/offst/offst/group/Member" "id" "Ljava/lang/String;" .null) (f0_3 : Fld Z h0 a1 "com/example/offst/offst/group/Member" "heldBytes" "J" (.long (0 : Int64))) (f0_4 : Fld Z h0 a1 "com/example/offst/offst/group/Member" "joinedWith" "Lcom/example/offst/offst/protocol/JoinGroupRequest;" .null) (g_a1 : n0 ≤ a1) :
    MetFree l (⟨"com/example/offst/offst/group/Member", "<init>", "(Ljava/lang/String;)V"⟩ : MethodName) (head1 (Jvm.Cond.code (⟨"com/example/offst/offst/group/Member", "<init>", "(Ljava/lang/String;)V"⟩ : MethodName) prog_26_method_1_code 2 none :: ws) ({ frames := 1, cells := 0, slots := 0, locals := 12 } : Room)) (fun a U => a = #[(.ref a1), (.ref a2)] ∧ Z.Warmed39 U.vm ∧ U.heap = h0) (fun _ _ _ _ _ => True) (fun _ U o U' => ∃ v L, o = .returned v ∧ Q_own_init Z a1 a2 o_NO_ASSIGNMENT kc_o_NO_ASSIGNMENT h0 n0 v U'.heap L ∧ FrameEnd U o U' L ({ frames := 1, cells := 0, slots := 0, locals := 12 } : Room).cells ({ frames := 1, cells := 0, slots := 0, locals := 12 } : Room).slots) := by
  refine MetFree.of_bodySF (plainFor_of_name own_pn1) hisR ?_
  intro p e s m args below meth c s₁ Bd hml0 hP hK
  obtain ⟨rfl, hZ, hh⟩ := hP
  have hx := Bd.exec
  have hby := Bd.bytes
  have hml : c.maxLocals = 2 := hml0
  have hown : s.vm.findClass "com/example/offst/offst/group/Member" = some m.cls := findClass_of_methodNamed Bd.named
  have hnm := (name_of_methodNamed Bd.named Bd.method).1
  have X0 : Stand p l e ({ frames := 1, cells := 0, slots := 0, locals := 12 } : Room) s m #[(.ref a1), (.ref a2)] below meth c s₁ [] 0 0 := Stand.of_body Bd
  have e0 : s₁.heap = h0 := by rw [← hh, Bd.state]; rfl
  have N0 := Fr.nil n0
  have K0 := Keep.refl h0 [a1]
  refine own_go (fun t k => castTop (own_ef0 m a1 a2) k) ?_
  show OwnG p.tables e below _ (s₁.setTop (mkF m 0 #[.val (.ref a1), .val (.ref a2)] []))
  refine own_go (fun t k => XS.aloadN X0.here hx rfl (hb hby own_d2) rfl rfl k) ?_
  show OwnG p.tables e below _ (s₁.setTop (mkF m 1 #[.val (.ref a1), .val (.ref a2)] [(.ref a1)]))
  obtain ⟨T1, X1, e1, st1⟩ := initO X0 hx hZ hown (hw _ (List.mem_of_getElem? (i := 14) rfl)) (hw _ (List.mem_of_getElem? (i := 15) rfl)) (hw _ (List.mem_of_getElem? (i := 16) rfl)) e0 (g := (mkF m 1 #[.val (.ref a1), .val (.ref a2)] [(.ref a1)])) rfl (by rw [hml]; rfl) rfl (hb hby own_d3) (by decide) (W := 0) (by show 2 * 0 + _ ≤ _; exact Nat.le_of_eq rfl) (by decide)
  refine own_go (fun t k => st1 t k) ?_
  show OwnG p.tables e below _ (T1.setTop (mkF m 4 #[.val (.ref a1), .val (.ref a2)] []))
  refine own_go (fun t k => XS.aloadN X1.here hx rfl (hb hby own_d4) rfl rfl k) ?_
  show OwnG p.tables e below _ (T1.setTop (mkF m 5 #[.val (.ref a1), .val (.ref a2)] [(.ref a1)]))
  obtain ⟨T2, X2, e2, st2⟩ := getS2 X1 hx hZ hown (host := "") (Or.inl (hw _ (List.mem_of_getElem? (i := 17) rfl))) Via.refl e1 (S_NO_ASSIGNMENT.ext O0.2) (g := (mkF m 5 #[.val (.ref a1), .val (.ref a2)] [(.ref a1)])) rfl (hb hby own_d5)
  refine own_go (fun t k => st2 t k) ?_
  show OwnG p.tables e below _ (T2.setTop (mkF m 8 #[.val (.ref a1), .val (.ref a2)] [(.ref o_NO_ASSIGNMENT), (.ref a1)]))
  obtain ⟨T3, h3, X3, e3, W3, st3⟩ := putF X2 hx hZ hown (host := "") (Or.inl (hw _ (List.mem_of_getElem? (i := 19) rfl))) Via.refl e2 f0_1 f0_0 (Or.inl (hw _ (List.mem_of_getElem? (i := 20) rfl))) (hw _ (List.mem_of_getElem? (i := 2) rfl)) (ty := (.array .byte)) (by decide) rfl rfl (g := (mkF m 8 #[.val (.ref a1), .val (.ref a2)] [(.ref o_NO_ASSIGNMENT), (.ref a1)])) rfl rfl (hb hby own_d6)
  have F4 : Exa Z h3 a1 "com/example/offst/offst/group/Member" := f0_0.wr W3
  have F5 : Fld Z h3 a1 "com/example/offst/offst/group/Member" "assignment" "[B" (.ref o_NO_ASSIGNMENT) := f0_1.same W3
  have F6 : Fld Z h3 a1 "com/example/offst/offst/group/Member" "id" "Ljava/lang/String;" .null := f0_2.other W3 (Or.inr (slot_ne (Or.inr (hw _ (List.mem_of_getElem? (i := 22) rfl))) (Or.inl (hw _ (List.mem_of_getElem? (i := 20) rfl))) (by decide) (t := (.object "java/lang/String")) (t' := (.array .byte)) (by decide) (by decide)))
  have F7 : Fld Z h3 a1 "com/example/offst/offst/group/Member" "heldBytes" "J" (.long (0 : Int64)) := f0_3.other W3 (Or.inr (slot_ne (Or.inl (hw _ (List.mem_of_getElem? (i := 34) rfl))) (Or.inl (hw _ (List.mem_of_getElem? (i := 20) rfl))) (by decide) (t := .long) (t' := (.array .byte)) (by decide) (by decide)))
  have F8 : Fld Z h3 a1 "com/example/offst/offst/group/Member" "joinedWith" "Lcom/example/offst/offst/protocol/JoinGroupRequest;" .null := f0_4.other W3 (Or.inr (slot_ne (Or.inl (hw _ (List.mem_of_getElem? (i := 46) rfl))) (Or.inl (hw _ (List.mem_of_getElem? (i := 20) rfl))) (by decide) (t := (.object "com/example/offst/offst/protocol/JoinGroupRequest")) (t' := (.array .byte)) (by decide) (by decide)))
  have F9 : Old Z n0 h3 := O0.wr W3 g_a1
  have N10 := Fr.snoc X3 N0 g_a1
  have K10 : Keep h0 h3 [a1] := K0.wr W3 (Or.inl (List.mem_of_getElem? (i := 0) rfl))
  have Z10 : n0 ≤ h3.size := Nat.le_trans Z0 (Keep.of_wr W3).1
  refine own_go (fun t k => st3 t k) ?_
  show OwnG p.tables e below _ (T3.setTop (mkF m 11 #[.val (.ref a1), .val (.ref a2)] []))
  refine own_go (fun t k => XS.aloadN X3.here hx rfl (hb hby own_d7) rfl rfl k) ?_
  show OwnG p.tables e below _ (T3.setTop (mkF m 12 #[.val (.ref a1), .val (.ref a2)] [(.ref a1)]))
  refine own_go (fun t k => XS.aloadN X3.here hx rfl (hb hby own_d8) rfl rfl k) ?_
  show OwnG p.tables e below _ (T3.setTop (mkF m 13 #[.val (.ref a1), .val (.ref a2)] [(.ref a2), (.ref a1)]))
  obtain ⟨T11, h11, X11, e11, W11, st11⟩ := putF X3 hx hZ hown (host := "") (Or.inl (hw _ (List.mem_of_getElem? (i := 21) rfl))) Via.refl e3 F6 F4 (Or.inr ⟨(hw _ (List.mem_of_getElem? (i := 22) rfl)), rfl, hnm⟩) (hw _ (List.mem_of_getElem? (i := 2) rfl)) (ty := (.object "java/lang/String")) (by decide) rfl rfl (g := (mkF m 13 #[.val (.ref a1), .val (.ref a2)] [(.ref a2), (.ref a1)])) rfl rfl (hb hby own_d9)
  have F12 : Exa Z h11 a1 "com/example/offst/offst/group/Member" := F4.wr W11
  have F13 : Fld Z h11 a1 "com/example/offst/offst/group/Member" "assignment" "[B" (.ref o_NO_ASSIGNMENT) := F5.other W11 (Or.inr (slot_ne (Or.inl (hw _ (List.mem_of_getElem? (i := 20) rfl))) (Or.inr (hw _ (List.mem_of_getElem? (i := 22) rfl))) (by decide) (t := (.array .byte)) (t' := (.object "java/lang/String")) (by decide) (by decide)))
  have F14 : Fld Z h11 a1 "com/example/offst/offst/group/Member" "id" "Ljava/lang/String;" (.ref a2) := F6.same W11
  have F15 : Fld Z h11 a1 "com/example/offst/offst/group/Member" "heldBytes" "J" (.long (0 : Int64)) := F7.other W11 (Or.inr (slot_ne (Or.inl (hw _ (List.mem_of_getElem? (i := 34) rfl))) (Or.inr (hw _ (List.mem_of_getElem? (i := 22) rfl))) (by decide) (t := .long) (t' := (.object "java/lang/String")) (by decide) (by decide)))
  have F16 : Fld Z h11 a1 "com/example/offst/offst/group/Member" "joinedWith" "Lcom/example/offst/offst/protocol/JoinGroupRequest;" .null := F8.other W11 (Or.inr (slot_ne (Or.inl (hw _ (List.mem_of_getElem? (i := 46) rfl))) (Or.inr (hw _ (List.mem_of_getElem? (i := 22) rfl))) (by decide) (t := (.object "com/example/offst/offst/protocol/JoinGroupRequest")) (t' := (.object "java/lang/String")) (by decide) (by decide)))
  have F17 : Old Z n0 h11 := F9.wr W11 g_a1
  have N18 := Fr.snoc X11 N10 g_a1
  have K18 : Keep h0 h11 [a1] := K10.wr W11 (Or.inl (List.mem_of_getElem? (i := 0) rfl))
  have Z18 : n0 ≤ h11.size := Nat.le_trans Z10 (Keep.of_wr W11).1
  refine own_go (fun t k => st11 t k) ?_
  show OwnG p.tables e below _ (T11.setTop (mkF m 16 #[.val (.ref a1), .val (.ref a2)] []))
  obtain ⟨fs, hr, hrun, hended, hW, hsame⟩ := X11.leave (v := none) (fun _ => rfl)
  refine ⟨_, _, X11.returnOut hx Bd.returns (hb hby own_d10) hr, hrun, hended, _, _, rfl, ?_, ⟨_, rfl⟩, hW, hsame.mono (by decide) (by decide)⟩
  show Q_own_init Z a1 a2 o_NO_ASSIGNMENT kc_o_NO_ASSIGNMENT h0 n0 _ T11.heap _
  rw [e11]
  exact ⟨rfl, N18, K18, F12, F13, F15, F16⟩
theorem own_ef11 (m : MethodId) (a1 : Addr) : entryFrame m #[(.ref a1)] 1 = mkF m 0 #[.val (.ref a1)] [] := by first | (simp [entryFrame, mkF, argsToLocals, Value.category]; done) | rfl
theorem own_d12 : decode prog_26_method_14_code 0 = .ok (.aload_n 0, 1) := by decide +kernel
theorem own_d13 : decode prog_26_method_14_code 1 = .ok (.getfield 13, 3) := by decide +kernel
theorem own_d14 : decode prog_26_method_14_code 4 = .ok (.areturn, 1) := by decide +kernel
def Q_own_assignment (Z : State) (a1 : Addr) (a2 : Addr) (h0 : Heap) (n0 : Nat) (v : Option Value) (h : Heap) (L : List Loc) : Prop := v = some (.ref a2) ∧ Fr n0 L ∧ h = h0
set_option maxRecDepth 65536 in
set_option maxHeartbeats 40000000 in
theorem own_assignment (l : Launch) (Z : State) (a0 : Array Value) (hw : ∀ d ∈ tables_1, d.before a0 Z = true) (ws : List Jvm.Cond) (a1 : Addr) (a2 : Addr) (h0 : Heap) (n0 : Nat) (Z0 : n0 ≤ h0.size) (f0_0 : Fld Z h0 a1 "com/example/offst/offst/group/Member" "assignment" "[B" (.ref a2)) :
    MetFree l (⟨"com/example/offst/offst/group/Member", "assignment", "()[B"⟩ : MethodName) (head1 (Jvm.Cond.code (⟨"com/example/offst/offst/group/Member", "assignment", "()[B"⟩ : MethodName) prog_26_method_14_code 1 (some (.array .byte)) :: ws) ({ frames := 0, cells := 0, slots := 0, locals := 0 } : Room)) (fun a U => a = #[(.ref a1)] ∧ Z.Warmed39 U.vm ∧ U.heap = h0) (fun _ _ _ _ _ => True) (fun _ U o U' => ∃ v L, o = .returned v ∧ Q_own_assignment Z a1 a2 h0 n0 v U'.heap L ∧ FrameEnd U o U' L ({ frames := 0, cells := 0, slots := 0, locals := 0 } : Room).cells ({ frames := 0, cells := 0, slots := 0, locals := 0 } : Room).slots) := by
  refine MetFree.of_bodySF (plainFor_of_name own_pn1) hisR ?_
  intro p e s m args below meth c s₁ Bd hml0 hP hK
  obtain ⟨rfl, hZ, hh⟩ := hP
  have hx := Bd.exec
  have hby := Bd.bytes
  have hml : c.maxLocals = 1 := hml0
  have hown : s.vm.findClass "com/example/offst/offst/group/Member" = some m.cls := findClass_of_methodNamed Bd.named
  have hnm := (name_of_methodNamed Bd.named Bd.method).1
  have X0 : Stand p l e ({ frames := 0, cells := 0, slots := 0, locals := 0 } : Room) s m #[(.ref a1)] below meth c s₁ [] 0 0 := Stand.of_body Bd
  have e0 : s₁.heap = h0 := by rw [← hh, Bd.state]; rfl
  have N0 := Fr.nil n0
  have K0 := Keep.refl h0 []
  refine own_go (fun t k => castTop (own_ef11 m a1) k) ?_
  show OwnG p.tables e below _ (s₁.setTop (mkF m 0 #[.val (.ref a1)] []))
  refine own_go (fun t k => XS.aloadN X0.here hx rfl (hb hby own_d12) rfl rfl k) ?_
  show OwnG p.tables e below _ (s₁.setTop (mkF m 1 #[.val (.ref a1)] [(.ref a1)]))
  obtain ⟨T1, X1, e1, st1⟩ := getF X0 hx hZ hown (host := "") (Or.inl (hw _ (List.mem_of_getElem? (i := 19) rfl))) Via.refl e0 f0_0 (g := (mkF m 1 #[.val (.ref a1)] [(.ref a1)])) rfl rfl (hb hby own_d13)
  refine own_go (fun t k => st1 t k) ?_
  show OwnG p.tables e below _ (T1.setTop (mkF m 4 #[.val (.ref a1)] [(.ref a2)]))
  obtain ⟨fs, hr, hrun, hended, hW, hsame⟩ := X1.leave (v := some (.ref a2)) (fun h => by rw [Bd.returns] at h; cases h)
  have hlast : Steps p.tables e below (T1.setTop (mkF m 4 #[.val (.ref a1)] [(.ref a2)])) (T1.setFrames fs) := by
    exact retOut X1 hx (t := (.array .byte)) Bd.returns rfl (Or.inr (Or.inr (Or.inr (Or.inr ⟨rfl, rfl, rfl⟩)))) (hb hby own_d14) hr
  refine ⟨_, _, hlast, hrun, hended, _, _, rfl, ?_, ⟨_, rfl⟩, hW, hsame.mono (by decide) (by decide)⟩
  show Q_own_assignment Z a1 a2 h0 n0 _ T1.heap _
  rw [e1]
  exact ⟨rfl, N0, rfl⟩
theorem own_ef15 (m : MethodId) (a1 : Addr) : entryFrame m #[(.ref a1)] 1 = mkF m 0 #[.val (.ref a1)] [] := by first | (simp [entryFrame, mkF, argsToLocals, Value.category]; done) | rfl
theorem own_d16 : decode prog_26_method_5_code 0 = .ok (.aload_n 0, 1) := by decide +kernel
theorem own_d17 : decode prog_26_method_5_code 1 = .ok (.getfield 73, 3) := by decide +kernel
theorem own_d18 : decode prog_26_method_5_code 4 = .ok (.lreturn, 1) := by decide +kernel
def Q_own_held (Z : State) (a1 : Addr) (q1 : Int64) (h0 : Heap) (n0 : Nat) (v : Option Value) (h : Heap) (L : List Loc) : Prop := v = some (.long q1) ∧ Fr n0 L ∧ h = h0
set_option maxRecDepth 65536 in
set_option maxHeartbeats 40000000 in
theorem own_held (l : Launch) (Z : State) (a0 : Array Value) (hw : ∀ d ∈ tables_1, d.before a0 Z = true) (ws : List Jvm.Cond) (a1 : Addr) (q1 : Int64) (h0 : Heap) (n0 : Nat) (Z0 : n0 ≤ h0.size) (f0_0 : Fld Z h0 a1 "com/example/offst/offst/group/Member" "heldBytes" "J" (.long q1)) :
    MetFree l (⟨"com/example/offst/offst/group/Member", "heldBytes", "()J"⟩ : MethodName) (head1 (Jvm.Cond.code (⟨"com/example/offst/offst/group/Member", "heldBytes", "()J"⟩ : MethodName) prog_26_method_5_code 1 (some .long) :: ws) ({ frames := 0, cells := 0, slots := 0, locals := 0 } : Room)) (fun a U => a = #[(.ref a1)] ∧ Z.Warmed39 U.vm ∧ U.heap = h0) (fun _ _ _ _ _ => True) (fun _ U o U' => ∃ v L, o = .returned v ∧ Q_own_held Z a1 q1 h0 n0 v U'.heap L ∧ FrameEnd U o U' L ({ frames := 0, cells := 0, slots := 0, locals := 0 } : Room).cells ({ frames := 0, cells := 0, slots := 0, locals := 0 } : Room).slots) := by
  refine MetFree.of_bodySF (plainFor_of_name own_pn1) hisR ?_
  intro p e s m args below meth c s₁ Bd hml0 hP hK
  obtain ⟨rfl, hZ, hh⟩ := hP
  have hx := Bd.exec
  have hby := Bd.bytes
  have hml : c.maxLocals = 1 := hml0
  have hown : s.vm.findClass "com/example/offst/offst/group/Member" = some m.cls := findClass_of_methodNamed Bd.named
  have hnm := (name_of_methodNamed Bd.named Bd.method).1
  have X0 : Stand p l e ({ frames := 0, cells := 0, slots := 0, locals := 0 } : Room) s m #[(.ref a1)] below meth c s₁ [] 0 0 := Stand.of_body Bd
  have e0 : s₁.heap = h0 := by rw [← hh, Bd.state]; rfl
  have N0 := Fr.nil n0
  have K0 := Keep.refl h0 []
  refine own_go (fun t k => castTop (own_ef15 m a1) k) ?_
  show OwnG p.tables e below _ (s₁.setTop (mkF m 0 #[.val (.ref a1)] []))
  refine own_go (fun t k => XS.aloadN X0.here hx rfl (hb hby own_d16) rfl rfl k) ?_
  show OwnG p.tables e below _ (s₁.setTop (mkF m 1 #[.val (.ref a1)] [(.ref a1)]))
  obtain ⟨T1, X1, e1, st1⟩ := getF X0 hx hZ hown (host := "") (Or.inl (hw _ (List.mem_of_getElem? (i := 33) rfl))) Via.refl e0 f0_0 (g := (mkF m 1 #[.val (.ref a1)] [(.ref a1)])) rfl rfl (hb hby own_d17)
  refine own_go (fun t k => st1 t k) ?_
  show OwnG p.tables e below _ (T1.setTop (mkF m 4 #[.val (.ref a1)] [(.long q1)]))
  obtain ⟨fs, hr, hrun, hended, hW, hsame⟩ := X1.leave (v := some (.long q1)) (fun h => by rw [Bd.returns] at h; cases h)
  have hlast : Steps p.tables e below (T1.setTop (mkF m 4 #[.val (.ref a1)] [(.long q1)])) (T1.setFrames fs) := by
    exact retOut X1 hx (t := .long) Bd.returns rfl (Or.inr (Or.inl ⟨rfl, rfl, _, rfl⟩)) (hb hby own_d18) hr
  refine ⟨_, _, hlast, hrun, hended, _, _, rfl, ?_, ⟨_, rfl⟩, hW, hsame.mono (by decide) (by decide)⟩
  show Q_own_held Z a1 q1 h0 n0 _ T1.heap _
  rw [e1]
  exact ⟨rfl, N0, rfl⟩
theorem own_ef19 (m : MethodId) (a1 : Addr) (q1 : Int64) : entryFrame m #[(.ref a1), .null, (.long q1)] 4 = mkF m 0 #[.val (.ref a1), .val .null, .val (.long q1), .second] [] := by first | (simp [entryFrame, mkF, argsToLocals, Value.category]; done) | rfl
theorem own_d20 : decode prog_26_method_6_code 0 = .ok (.aload_n 0, 1) := by decide +kernel
theorem own_d21 : decode prog_26_method_6_code 1 = .ok (.aload_n 1, 1) := by decide +kernel
theorem own_d22 : decode prog_26_method_6_code 2 = .ok (.putfield 69, 3) := by decide +kernel
theorem own_d23 : decode prog_26_method_6_code 5 = .ok (.aload_n 0, 1) := by decide +kernel
theorem own_d24 : decode prog_26_method_6_code 6 = .ok (.lload_n 2, 1) := by decide +kernel
theorem own_d25 : decode prog_26_method_6_code 7 = .ok (.putfield 73, 3) := by decide +kernel
theorem own_d26 : decode prog_26_method_6_code 10 = .ok (.aload_n 0, 1) := by decide +kernel
theorem own_d27 : decode prog_26_method_6_code 11 = .ok (.getstatic 7, 3) := by decide +kernel
theorem own_d28 : decode prog_26_method_6_code 14 = .ok (.putfield 13, 3) := by decide +kernel
theorem own_d29 : decode prog_26_method_6_code 17 = .ok (.return_, 1) := by decide +kernel
def Q_own_join (Z : State) (a1 : Addr) (q1 : Int64) (a2 : Addr) (q0 : Int64) (o_NO_ASSIGNMENT : Addr) (kc_o_NO_ASSIGNMENT : ClassId) (h0 : Heap) (n0 : Nat) (v : Option Value) (h : Heap) (L : List Loc) : Prop := v = none ∧ Fr n0 L ∧ Keep h0 h [a1] ∧ Exa Z h a1 "com/example/offst/offst/group/Member" ∧ Fld Z h a1 "com/example/offst/offst/group/Member" "assignment" "[B" (.ref o_NO_ASSIGNMENT) ∧ Fld Z h a1 "com/example/offst/offst/group/Member" "heldBytes" "J" (.long q1)
set_option maxRecDepth 65536 in
set_option maxHeartbeats 40000000 in
theorem own_join (l : Launch) (Z : State) (a0 : Array Value) (hw : ∀ d ∈ tables_1, d.before a0 Z = true) (ws : List Jvm.Cond) (a1 : Addr) (q1 : Int64) (a2 : Addr) (q0 : Int64) (o_NO_ASSIGNMENT : Addr) (kc_o_NO_ASSIGNMENT : ClassId) (h0 : Heap) (n0 : Nat) (Z0 : n0 ≤ h0.size) (O0 : Old Z n0 h0) (S_NO_ASSIGNMENT : Sta Z Z.heap "com/example/offst/offst/group/Member" "NO_ASSIGNMENT" "[B" (.ref o_NO_ASSIGNMENT)) (V_o_NO_ASSIGNMENT : Arv Z Z.heap o_NO_ASSIGNMENT kc_o_NO_ASSIGNMENT .byte (0 : Int32) [] (.int (0 : Int32))) (f0_0 : Exa Z h0 a1 "com/example/offst/offst/group/Member") (f0_1 : Fld Z h0 a1 "com/example/offst/offst/group/Member" "assignment" "[B" (.ref a2)) (f0_2 : Fld Z h0 a1 "com/example/offst/offst/group/Member" "heldBytes" "J" (.long q0)) (f0_3 : Fld Z h0 a1 "com/example/offst/offst/group/Member" "joinedWith" "Lcom/example/offst/offst/protocol/JoinGroupRequest;" .null) (g_a1 : n0 ≤ a1) :
    MetFree l (⟨"com/example/offst/offst/group/Member", "joinWith", "(Lcom/example/offst/offst/protocol/JoinGroupRequest;J)V"⟩ : MethodName) (head1 (Jvm.Cond.code (⟨"com/example/offst/offst/group/Member", "joinWith", "(Lcom/example/offst/offst/protocol/JoinGroupRequest;J)V"⟩ : MethodName) prog_26_method_6_code 4 none :: ws) ({ frames := 0, cells := 0, slots := 0, locals := 0 } : Room)) (fun a U => a = #[(.ref a1), .null, (.long q1)] ∧ Z.Warmed39 U.vm ∧ U.heap = h0) (fun _ _ _ _ _ => True) (fun _ U o U' => ∃ v L, o = .returned v ∧ Q_own_join Z a1 q1 a2 q0 o_NO_ASSIGNMENT kc_o_NO_ASSIGNMENT h0 n0 v U'.heap L ∧ FrameEnd U o U' L ({ frames := 0, cells := 0, slots := 0, locals := 0 } : Room).cells ({ frames := 0, cells := 0, slots := 0, locals := 0 } : Room).slots) := by
  refine MetFree.of_bodySF (plainFor_of_name own_pn1) hisR ?_
  intro p e s m args below meth c s₁ Bd hml0 hP hK
  obtain ⟨rfl, hZ, hh⟩ := hP
  have hx := Bd.exec
  have hby := Bd.bytes
  have hml : c.maxLocals = 4 := hml0
  have hown : s.vm.findClass "com/example/offst/offst/group/Member" = some m.cls := findClass_of_methodNamed Bd.named
  have hnm := (name_of_methodNamed Bd.named Bd.method).1
  have X0 : Stand p l e ({ frames := 0, cells := 0, slots := 0, locals := 0 } : Room) s m #[(.ref a1), .null, (.long q1)] below meth c s₁ [] 0 0 := Stand.of_body Bd
  have e0 : s₁.heap = h0 := by rw [← hh, Bd.state]; rfl
  have N0 := Fr.nil n0
  have K0 := Keep.refl h0 [a1]
  refine own_go (fun t k => castTop (own_ef19 m a1 q1) k) ?_
  show OwnG p.tables e below _ (s₁.setTop (mkF m 0 #[.val (.ref a1), .val .null, .val (.long q1), .second] []))
  refine own_go (fun t k => XS.aloadN X0.here hx rfl (hb hby own_d20) rfl rfl k) ?_
  show OwnG p.tables e below _ (s₁.setTop (mkF m 1 #[.val (.ref a1), .val .null, .val (.long q1), .second] [(.ref a1)]))
  refine own_go (fun t k => XS.aloadN X0.here hx rfl (hb hby own_d21) rfl rfl k) ?_
  show OwnG p.tables e below _ (s₁.setTop (mkF m 2 #[.val (.ref a1), .val .null, .val (.long q1), .second] [.null, (.ref a1)]))
  obtain ⟨T1, h1, X1, e1, W1, st1⟩ := putF X0 hx hZ hown (host := "") (Or.inl (hw _ (List.mem_of_getElem? (i := 45) rfl))) Via.refl e0 f0_3 f0_0 (Or.inl (hw _ (List.mem_of_getElem? (i := 46) rfl))) (hw _ (List.mem_of_getElem? (i := 2) rfl)) (ty := (.object "com/example/offst/offst/protocol/JoinGroupRequest")) (by decide) rfl rfl (g := (mkF m 2 #[.val (.ref a1), .val .null, .val (.long q1), .second] [.null, (.ref a1)])) rfl rfl (hb hby own_d22)
  have F2 : Exa Z h1 a1 "com/example/offst/offst/group/Member" := f0_0.wr W1
  have F3 : Fld Z h1 a1 "com/example/offst/offst/group/Member" "assignment" "[B" (.ref a2) := f0_1.other W1 (Or.inr (slot_ne (Or.inl (hw _ (List.mem_of_getElem? (i := 20) rfl))) (Or.inl (hw _ (List.mem_of_getElem? (i := 46) rfl))) (by decide) (t := (.array .byte)) (t' := (.object "com/example/offst/offst/protocol/JoinGroupRequest")) (by decide) (by decide)))
  have F4 : Fld Z h1 a1 "com/example/offst/offst/group/Member" "heldBytes" "J" (.long q0) := f0_2.other W1 (Or.inr (slot_ne (Or.inl (hw _ (List.mem_of_getElem? (i := 34) rfl))) (Or.inl (hw _ (List.mem_of_getElem? (i := 46) rfl))) (by decide) (t := .long) (t' := (.object "com/example/offst/offst/protocol/JoinGroupRequest")) (by decide) (by decide)))
  have F5 : Fld Z h1 a1 "com/example/offst/offst/group/Member" "joinedWith" "Lcom/example/offst/offst/protocol/JoinGroupRequest;" .null := f0_3.same W1
  have F6 : Old Z n0 h1 := O0.wr W1 g_a1
  have N7 := Fr.snoc X1 N0 g_a1
  have K7 : Keep h0 h1 [a1] := K0.wr W1 (Or.inl (List.mem_of_getElem? (i := 0) rfl))
  have Z7 : n0 ≤ h1.size := Nat.le_trans Z0 (Keep.of_wr W1).1
  refine own_go (fun t k => st1 t k) ?_
  show OwnG p.tables e below _ (T1.setTop (mkF m 5 #[.val (.ref a1), .val .null, .val (.long q1), .second] []))
  refine own_go (fun t k => XS.aloadN X1.here hx rfl (hb hby own_d23) rfl rfl k) ?_
  show OwnG p.tables e below _ (T1.setTop (mkF m 6 #[.val (.ref a1), .val .null, .val (.long q1), .second] [(.ref a1)]))
  refine own_go (fun t k => XS.lloadN X1.here hx rfl (hb hby own_d24) rfl  k) ?_
  show OwnG p.tables e below _ (T1.setTop (mkF m 7 #[.val (.ref a1), .val .null, .val (.long q1), .second] [(.long q1), (.ref a1)]))
  obtain ⟨T8, h8, X8, e8, W8, st8⟩ := putF X1 hx hZ hown (host := "") (Or.inl (hw _ (List.mem_of_getElem? (i := 33) rfl))) Via.refl e1 F4 F2 (Or.inl (hw _ (List.mem_of_getElem? (i := 34) rfl))) (hw _ (List.mem_of_getElem? (i := 2) rfl)) (ty := .long) (by decide) rfl rfl (g := (mkF m 7 #[.val (.ref a1), .val .null, .val (.long q1), .second] [(.long q1), (.ref a1)])) rfl rfl (hb hby own_d25)
  have F9 : Exa Z h8 a1 "com/example/offst/offst/group/Member" := F2.wr W8
  have F10 : Fld Z h8 a1 "com/example/offst/offst/group/Member" "assignment" "[B" (.ref a2) := F3.other W8 (Or.inr (slot_ne (Or.inl (hw _ (List.mem_of_getElem? (i := 20) rfl))) (Or.inl (hw _ (List.mem_of_getElem? (i := 34) rfl))) (by decide) (t := (.array .byte)) (t' := .long) (by decide) (by decide)))
  have F11 : Fld Z h8 a1 "com/example/offst/offst/group/Member" "heldBytes" "J" (.long q1) := F4.same W8
  have F12 : Fld Z h8 a1 "com/example/offst/offst/group/Member" "joinedWith" "Lcom/example/offst/offst/protocol/JoinGroupRequest;" .null := F5.other W8 (Or.inr (slot_ne (Or.inl (hw _ (List.mem_of_getElem? (i := 46) rfl))) (Or.inl (hw _ (List.mem_of_getElem? (i := 34) rfl))) (by decide) (t := (.object "com/example/offst/offst/protocol/JoinGroupRequest")) (t' := .long) (by decide) (by decide)))
  have F13 : Old Z n0 h8 := F6.wr W8 g_a1
  have N14 := Fr.snoc X8 N7 g_a1
  have K14 : Keep h0 h8 [a1] := K7.wr W8 (Or.inl (List.mem_of_getElem? (i := 0) rfl))
  have Z14 : n0 ≤ h8.size := Nat.le_trans Z7 (Keep.of_wr W8).1
  refine own_go (fun t k => st8 t k) ?_
  show OwnG p.tables e below _ (T8.setTop (mkF m 10 #[.val (.ref a1), .val .null, .val (.long q1), .second] []))
  refine own_go (fun t k => XS.aloadN X8.here hx rfl (hb hby own_d26) rfl rfl k) ?_
  show OwnG p.tables e below _ (T8.setTop (mkF m 11 #[.val (.ref a1), .val .null, .val (.long q1), .second] [(.ref a1)]))
  obtain ⟨T15, X15, e15, st15⟩ := getS2 X8 hx hZ hown (host := "") (Or.inl (hw _ (List.mem_of_getElem? (i := 17) rfl))) Via.refl e8 (S_NO_ASSIGNMENT.ext F13.2) (g := (mkF m 11 #[.val (.ref a1), .val .null, .val (.long q1), .second] [(.ref a1)])) rfl (hb hby own_d27)
  refine own_go (fun t k => st15 t k) ?_
  show OwnG p.tables e below _ (T15.setTop (mkF m 14 #[.val (.ref a1), .val .null, .val (.long q1), .second] [(.ref o_NO_ASSIGNMENT), (.ref a1)]))
  obtain ⟨T16, h16, X16, e16, W16, st16⟩ := putF X15 hx hZ hown (host := "") (Or.inl (hw _ (List.mem_of_getElem? (i := 19) rfl))) Via.refl e15 F10 F9 (Or.inl (hw _ (List.mem_of_getElem? (i := 20) rfl))) (hw _ (List.mem_of_getElem? (i := 2) rfl)) (ty := (.array .byte)) (by decide) rfl rfl (g := (mkF m 14 #[.val (.ref a1), .val .null, .val (.long q1), .second] [(.ref o_NO_ASSIGNMENT), (.ref a1)])) rfl rfl (hb hby own_d28)
  have F17 : Exa Z h16 a1 "com/example/offst/offst/group/Member" := F9.wr W16
  have F18 : Fld Z h16 a1 "com/example/offst/offst/group/Member" "assignment" "[B" (.ref o_NO_ASSIGNMENT) := F10.same W16
  have F19 : Fld Z h16 a1 "com/example/offst/offst/group/Member" "heldBytes" "J" (.long q1) := F11.other W16 (Or.inr (slot_ne (Or.inl (hw _ (List.mem_of_getElem? (i := 34) rfl))) (Or.inl (hw _ (List.mem_of_getElem? (i := 20) rfl))) (by decide) (t := .long) (t' := (.array .byte)) (by decide) (by decide)))
  have F20 : Fld Z h16 a1 "com/example/offst/offst/group/Member" "joinedWith" "Lcom/example/offst/offst/protocol/JoinGroupRequest;" .null := F12.other W16 (Or.inr (slot_ne (Or.inl (hw _ (List.mem_of_getElem? (i := 46) rfl))) (Or.inl (hw _ (List.mem_of_getElem? (i := 20) rfl))) (by decide) (t := (.object "com/example/offst/offst/protocol/JoinGroupRequest")) (t' := (.array .byte)) (by decide) (by decide)))
  have F21 : Old Z n0 h16 := F13.wr W16 g_a1
  have N22 := Fr.snoc X16 N14 g_a1
  have K22 : Keep h0 h16 [a1] := K14.wr W16 (Or.inl (List.mem_of_getElem? (i := 0) rfl))
  have Z22 : n0 ≤ h16.size := Nat.le_trans Z14 (Keep.of_wr W16).1
  refine own_go (fun t k => st16 t k) ?_
  show OwnG p.tables e below _ (T16.setTop (mkF m 17 #[.val (.ref a1), .val .null, .val (.long q1), .second] []))
  obtain ⟨fs, hr, hrun, hended, hW, hsame⟩ := X16.leave (v := none) (fun _ => rfl)
  refine ⟨_, _, X16.returnOut hx Bd.returns (hb hby own_d29) hr, hrun, hended, _, _, rfl, ?_, ⟨_, rfl⟩, hW, hsame.mono (by decide) (by decide)⟩
  show Q_own_join Z a1 q1 a2 q0 o_NO_ASSIGNMENT kc_o_NO_ASSIGNMENT h0 n0 _ T16.heap _
  rw [e16]
  exact ⟨rfl, N22, K22, F17, F18, F19⟩
theorem own_ef30 (m : MethodId) (a1 : Addr) (a2 : Addr) : entryFrame m #[(.ref a1), (.ref a2)] 2 = mkF m 0 #[.val (.ref a1), .val (.ref a2)] [] := by first | (simp [entryFrame, mkF, argsToLocals, Value.category]; done) | rfl
theorem own_d31 : decode prog_26_method_15_code 0 = .ok (.aload_n 0, 1) := by decide +kernel
theorem own_d32 : decode prog_26_method_15_code 1 = .ok (.dup, 1) := by decide +kernel
theorem own_d33 : decode prog_26_method_15_code 2 = .ok (.getfield 73, 3) := by decide +kernel
theorem own_d34 : decode prog_26_method_15_code 5 = .ok (.aload_n 1, 1) := by decide +kernel
theorem own_d35 : decode prog_26_method_15_code 6 = .ok (.arraylength, 1) := by decide +kernel
theorem own_d36 : decode prog_26_method_15_code 7 = .ok (.aload_n 0, 1) := by decide +kernel
theorem own_d37 : decode prog_26_method_15_code 8 = .ok (.getfield 13, 3) := by decide +kernel
theorem own_d38 : decode prog_26_method_15_code 11 = .ok (.arraylength, 1) := by decide +kernel
theorem own_d39 : decode prog_26_method_15_code 12 = .ok (.isub, 1) := by decide +kernel
theorem own_d40 : decode prog_26_method_15_code 13 = .ok (.i2l, 1) := by decide +kernel
theorem own_d41 : decode prog_26_method_15_code 14 = .ok (.ladd, 1) := by decide +kernel
theorem own_d42 : decode prog_26_method_15_code 15 = .ok (.putfield 73, 3) := by decide +kernel
theorem own_d43 : decode prog_26_method_15_code 18 = .ok (.aload_n 0, 1) := by decide +kernel
theorem own_d44 : decode prog_26_method_15_code 19 = .ok (.aload_n 1, 1) := by decide +kernel
theorem own_d45 : decode prog_26_method_15_code 20 = .ok (.putfield 13, 3) := by decide +kernel
theorem own_d46 : decode prog_26_method_15_code 23 = .ok (.return_, 1) := by decide +kernel
def Q_own_assign (Z : State) (a1 : Addr) (a2 : Addr) (a3 : Addr) (k2 : ClassId) (k3 : ClassId) (n2 : Int32) (n3 : Int32) (q0 : Int64) (h0 : Heap) (n0 : Nat) (v : Option Value) (h : Heap) (L : List Loc) : Prop := v = none ∧ Fr n0 L ∧ Keep h0 h [a1] ∧ Exa Z h a1 "com/example/offst/offst/group/Member" ∧ Fld Z h a1 "com/example/offst/offst/group/Member" "assignment" "[B" (.ref a2) ∧ Fld Z h a1 "com/example/offst/offst/group/Member" "heldBytes" "J" (.long (q0 + (n2 - n3).toInt64))
set_option maxRecDepth 65536 in
set_option maxHeartbeats 40000000 in
theorem own_assign (l : Launch) (Z : State) (a0 : Array Value) (hw : ∀ d ∈ tables_1, d.before a0 Z = true) (ws : List Jvm.Cond) (a1 : Addr) (a2 : Addr) (a3 : Addr) (k2 : ClassId) (k3 : ClassId) (n2 : Int32) (n3 : Int32) (q0 : Int64) (h0 : Heap) (n0 : Nat) (Z0 : n0 ≤ h0.size) (f0_0 : Exa Z h0 a1 "com/example/offst/offst/group/Member") (f0_1 : Fld Z h0 a1 "com/example/offst/offst/group/Member" "assignment" "[B" (.ref a3)) (f0_2 : Fld Z h0 a1 "com/example/offst/offst/group/Member" "heldBytes" "J" (.long q0)) (f0_3 : Arv Z h0 a2 k2 .byte n2 [] (.int (0 : Int32))) (f0_4 : Arv Z h0 a3 k3 .byte n3 [] (.int (0 : Int32))) (g_a1 : n0 ≤ a1) :
    MetFree l (⟨"com/example/offst/offst/group/Member", "assign", "([B)V"⟩ : MethodName) (head1 (Jvm.Cond.code (⟨"com/example/offst/offst/group/Member", "assign", "([B)V"⟩ : MethodName) prog_26_method_15_code 2 none :: ws) ({ frames := 0, cells := 0, slots := 0, locals := 0 } : Room)) (fun a U => a = #[(.ref a1), (.ref a2)] ∧ Z.Warmed39 U.vm ∧ U.heap = h0) (fun _ _ _ _ _ => True) (fun _ U o U' => ∃ v L, o = .returned v ∧ Q_own_assign Z a1 a2 a3 k2 k3 n2 n3 q0 h0 n0 v U'.heap L ∧ FrameEnd U o U' L ({ frames := 0, cells := 0, slots := 0, locals := 0 } : Room).cells ({ frames := 0, cells := 0, slots := 0, locals := 0 } : Room).slots) := by
  refine MetFree.of_bodySF (plainFor_of_name own_pn1) hisR ?_
  intro p e s m args below meth c s₁ Bd hml0 hP hK
  obtain ⟨rfl, hZ, hh⟩ := hP
  have hx := Bd.exec
  have hby := Bd.bytes
  have hml : c.maxLocals = 2 := hml0
  have hown : s.vm.findClass "com/example/offst/offst/group/Member" = some m.cls := findClass_of_methodNamed Bd.named
  have hnm := (name_of_methodNamed Bd.named Bd.method).1
  have X0 : Stand p l e ({ frames := 0, cells := 0, slots := 0, locals := 0 } : Room) s m #[(.ref a1), (.ref a2)] below meth c s₁ [] 0 0 := Stand.of_body Bd
  have e0 : s₁.heap = h0 := by rw [← hh, Bd.state]; rfl
  have N0 := Fr.nil n0
  have K0 := Keep.refl h0 [a1]
  refine own_go (fun t k => castTop (own_ef30 m a1 a2) k) ?_
  show OwnG p.tables e below _ (s₁.setTop (mkF m 0 #[.val (.ref a1), .val (.ref a2)] []))
  refine own_go (fun t k => XS.aloadN X0.here hx rfl (hb hby own_d31) rfl rfl k) ?_
  show OwnG p.tables e below _ (s₁.setTop (mkF m 1 #[.val (.ref a1), .val (.ref a2)] [(.ref a1)]))
  refine own_go (fun t k => XS.dup X0.here hx rfl (hb hby own_d32) rfl rfl k) ?_
  show OwnG p.tables e below _ (s₁.setTop (mkF m 2 #[.val (.ref a1), .val (.ref a2)] [(.ref a1), (.ref a1)]))
  obtain ⟨T1, X1, e1, st1⟩ := getF X0 hx hZ hown (host := "") (Or.inl (hw _ (List.mem_of_getElem? (i := 33) rfl))) Via.refl e0 f0_2 (g := (mkF m 2 #[.val (.ref a1), .val (.ref a2)] [(.ref a1), (.ref a1)])) rfl rfl (hb hby own_d33)
  refine own_go (fun t k => st1 t k) ?_
  show OwnG p.tables e below _ (T1.setTop (mkF m 5 #[.val (.ref a1), .val (.ref a2)] [(.long q0), (.ref a1)]))
  refine own_go (fun t k => XS.aloadN X1.here hx rfl (hb hby own_d34) rfl rfl k) ?_
  show OwnG p.tables e below _ (T1.setTop (mkF m 6 #[.val (.ref a1), .val (.ref a2)] [(.ref a2), (.long q0), (.ref a1)]))
  have vv2 := f0_3
  obtain ⟨cl2, Ar2, qk2, Sz2, Nn2, Hs2, Gs2⟩ := vv2
  have st2 : ∀ t, Steps p.tables e below (T1.setTop (mkF m 7 #[.val (.ref a1), .val (.ref a2)] [(.int n2), (.long q0), (.ref a1)])) t → Steps p.tables e below (T1.setTop (mkF m 6 #[.val (.ref a1), .val (.ref a2)] [(.ref a2), (.long q0), (.ref a1)])) t := fun t k => by
    refine X1.arraylength hx (by rw [e1]; exact Ar2.1) (State.isArrayOf_alike hZ.alike Ar2.2.1) (g := (mkF m 6 #[.val (.ref a1), .val (.ref a2)] [(.ref a2), (.long q0), (.ref a1)])) rfl rfl (hb hby own_d35) _ ?_
    rw [len_of Sz2 Nn2]
    exact k
  refine own_go (fun t k => st2 t k) ?_
  show OwnG p.tables e below _ (T1.setTop (mkF m 7 #[.val (.ref a1), .val (.ref a2)] [(.int n2), (.long q0), (.ref a1)]))
  refine own_go (fun t k => XS.aloadN X1.here hx rfl (hb hby own_d36) rfl rfl k) ?_
  show OwnG p.tables e below _ (T1.setTop (mkF m 8 #[.val (.ref a1), .val (.ref a2)] [(.ref a1), (.int n2), (.long q0), (.ref a1)]))
  obtain ⟨T3, X3, e3, st3⟩ := getF X1 hx hZ hown (host := "") (Or.inl (hw _ (List.mem_of_getElem? (i := 19) rfl))) Via.refl e1 f0_1 (g := (mkF m 8 #[.val (.ref a1), .val (.ref a2)] [(.ref a1), (.int n2), (.long q0), (.ref a1)])) rfl rfl (hb hby own_d37)
  refine own_go (fun t k => st3 t k) ?_
  show OwnG p.tables e below _ (T3.setTop (mkF m 11 #[.val (.ref a1), .val (.ref a2)] [(.ref a3), (.int n2), (.long q0), (.ref a1)]))
  have vv4 := f0_4
  obtain ⟨cl4, Ar4, qk4, Sz4, Nn4, Hs4, Gs4⟩ := vv4
  have st4 : ∀ t, Steps p.tables e below (T3.setTop (mkF m 12 #[.val (.ref a1), .val (.ref a2)] [(.int n3), (.int n2), (.long q0), (.ref a1)])) t → Steps p.tables e below (T3.setTop (mkF m 11 #[.val (.ref a1), .val (.ref a2)] [(.ref a3), (.int n2), (.long q0), (.ref a1)])) t := fun t k => by
    refine X3.arraylength hx (by rw [e3]; exact Ar4.1) (State.isArrayOf_alike hZ.alike Ar4.2.1) (g := (mkF m 11 #[.val (.ref a1), .val (.ref a2)] [(.ref a3), (.int n2), (.long q0), (.ref a1)])) rfl rfl (hb hby own_d38) _ ?_
    rw [len_of Sz4 Nn4]
    exact k
  refine own_go (fun t k => st4 t k) ?_
  show OwnG p.tables e below _ (T3.setTop (mkF m 12 #[.val (.ref a1), .val (.ref a2)] [(.int n3), (.int n2), (.long q0), (.ref a1)]))
  refine own_go (fun t k => XS.isub X3.here hx rfl (hb hby own_d39) rfl k) ?_
  show OwnG p.tables e below _ (T3.setTop (mkF m 13 #[.val (.ref a1), .val (.ref a2)] [(.int (n2 - n3)), (.long q0), (.ref a1)]))
  refine own_go (fun t k => XS.i2l X3.here hx rfl (hb hby own_d40) rfl k) ?_
  show OwnG p.tables e below _ (T3.setTop (mkF m 14 #[.val (.ref a1), .val (.ref a2)] [(.long ((n2 - n3).toInt64)), (.long q0), (.ref a1)]))
  refine own_go (fun t k => XS.ladd X3.here hx rfl (hb hby own_d41) rfl k) ?_
  show OwnG p.tables e below _ (T3.setTop (mkF m 15 #[.val (.ref a1), .val (.ref a2)] [(.long (q0 + ((n2 - n3).toInt64))), (.ref a1)]))
  obtain ⟨T5, h5, X5, e5, W5, st5⟩ := putF X3 hx hZ hown (host := "") (Or.inl (hw _ (List.mem_of_getElem? (i := 33) rfl))) Via.refl e3 f0_2 f0_0 (Or.inl (hw _ (List.mem_of_getElem? (i := 34) rfl))) (hw _ (List.mem_of_getElem? (i := 2) rfl)) (ty := .long) (by decide) rfl rfl (g := (mkF m 15 #[.val (.ref a1), .val (.ref a2)] [(.long (q0 + ((n2 - n3).toInt64))), (.ref a1)])) rfl rfl (hb hby own_d42)
  have F6 : Exa Z h5 a1 "com/example/offst/offst/group/Member" := f0_0.wr W5
  have F7 : Fld Z h5 a1 "com/example/offst/offst/group/Member" "assignment" "[B" (.ref a3) := f0_1.other W5 (Or.inr (slot_ne (Or.inl (hw _ (List.mem_of_getElem? (i := 20) rfl))) (Or.inl (hw _ (List.mem_of_getElem? (i := 34) rfl))) (by decide) (t := (.array .byte)) (t' := .long) (by decide) (by decide)))
  have F8 : Fld Z h5 a1 "com/example/offst/offst/group/Member" "heldBytes" "J" (.long (q0 + ((n2 - n3).toInt64))) := f0_2.same W5
  have N9 := Fr.snoc X5 N0 g_a1
  have K9 : Keep h0 h5 [a1] := K0.wr W5 (Or.inl (List.mem_of_getElem? (i := 0) rfl))
  have Z9 : n0 ≤ h5.size := Nat.le_trans Z0 (Keep.of_wr W5).1
  refine own_go (fun t k => st5 t k) ?_
  show OwnG p.tables e below _ (T5.setTop (mkF m 18 #[.val (.ref a1), .val (.ref a2)] []))
  refine own_go (fun t k => XS.aloadN X5.here hx rfl (hb hby own_d43) rfl rfl k) ?_
  show OwnG p.tables e below _ (T5.setTop (mkF m 19 #[.val (.ref a1), .val (.ref a2)] [(.ref a1)]))
  refine own_go (fun t k => XS.aloadN X5.here hx rfl (hb hby own_d44) rfl rfl k) ?_
  show OwnG p.tables e below _ (T5.setTop (mkF m 20 #[.val (.ref a1), .val (.ref a2)] [(.ref a2), (.ref a1)]))
  obtain ⟨T10, h10, X10, e10, W10, st10⟩ := putF X5 hx hZ hown (host := "") (Or.inl (hw _ (List.mem_of_getElem? (i := 19) rfl))) Via.refl e5 F7 F6 (Or.inl (hw _ (List.mem_of_getElem? (i := 20) rfl))) (hw _ (List.mem_of_getElem? (i := 2) rfl)) (ty := (.array .byte)) (by decide) rfl rfl (g := (mkF m 20 #[.val (.ref a1), .val (.ref a2)] [(.ref a2), (.ref a1)])) rfl rfl (hb hby own_d45)
  have F11 : Exa Z h10 a1 "com/example/offst/offst/group/Member" := F6.wr W10
  have F12 : Fld Z h10 a1 "com/example/offst/offst/group/Member" "assignment" "[B" (.ref a2) := F7.same W10
  have F13 : Fld Z h10 a1 "com/example/offst/offst/group/Member" "heldBytes" "J" (.long (q0 + ((n2 - n3).toInt64))) := F8.other W10 (Or.inr (slot_ne (Or.inl (hw _ (List.mem_of_getElem? (i := 34) rfl))) (Or.inl (hw _ (List.mem_of_getElem? (i := 20) rfl))) (by decide) (t := .long) (t' := (.array .byte)) (by decide) (by decide)))
  have N14 := Fr.snoc X10 N9 g_a1
  have K14 : Keep h0 h10 [a1] := K9.wr W10 (Or.inl (List.mem_of_getElem? (i := 0) rfl))
  have Z14 : n0 ≤ h10.size := Nat.le_trans Z9 (Keep.of_wr W10).1
  refine own_go (fun t k => st10 t k) ?_
  show OwnG p.tables e below _ (T10.setTop (mkF m 23 #[.val (.ref a1), .val (.ref a2)] []))
  obtain ⟨fs, hr, hrun, hended, hW, hsame⟩ := X10.leave (v := none) (fun _ => rfl)
  refine ⟨_, _, X10.returnOut hx Bd.returns (hb hby own_d46) hr, hrun, hended, _, _, rfl, ?_, ⟨_, rfl⟩, hW, hsame.mono (by decide) (by decide)⟩
  show Q_own_assign Z a1 a2 a3 k2 k3 n2 n3 q0 h0 n0 _ T10.heap _
  rw [e10]
  exact ⟨rfl, N14, K14, F11, F12, F13⟩
theorem own_ef47 (m : MethodId) (p0 : Int64) (p1 : Int32) (p2 : Int32) (p3 : Int32) : entryFrame m #[(.long p0), (.int p1), (.int p2), (.int p3)] maxLocals = mkF m 0 #[.val (.long p0), .second, .val (.int p1), .val (.int p2), .val (.int p3), .unset, .unset, .unset, .unset, .unset, .unset, .unset, .unset, .unset, .unset, .unset, .unset, .unset] [] := by first | (simp [entryFrame, mkF, argsToLocals, Value.category, maxLocals]; done) | rfl
theorem own_pn48 : plainName "com/example/offst/offst/group/MemberAssignPinLaw" = true := by first | (simp [plainName, overriddenIn]; done) | decide +kernel
theorem own_pd49 : parseMethodDescriptor "(Ljava/lang/String;)V" = some ⟨[(.object "java/lang/String")], none⟩ := by decide +kernel
theorem own_pd50 : parseMethodDescriptor "()[B" = some ⟨[], some (.array .byte)⟩ := by decide +kernel
theorem own_pd51 : parseMethodDescriptor "()J" = some ⟨[], some .long⟩ := by decide +kernel
theorem own_pd52 : parseMethodDescriptor "([B)V" = some ⟨[(.array .byte)], none⟩ := by decide +kernel
theorem own_pd53 : parseMethodDescriptor "(Lcom/example/offst/offst/protocol/JoinGroupRequest;J)V" = some ⟨[(.object "com/example/offst/offst/protocol/JoinGroupRequest"), .long], none⟩ := by decide +kernel
def Q_own_law (Z : State) (p0 : Int64) (p1 : Int32) (p2 : Int32) (p3 : Int32) (o_NO_ASSIGNMENT : Addr) (kc_o_NO_ASSIGNMENT : ClassId) (h0 : Heap) (n0 : Nat) (v : Option Value) (h : Heap) (L : List Loc) : Prop := v = some (.int (1 : Int32)) ∧ Fr n0 L
set_option maxRecDepth 65536 in
set_option maxHeartbeats 40000000 in
theorem own_law (l : Launch) (Z : State) (a0 : Array Value) (hw : ∀ d ∈ tables_1, d.before a0 Z = true) (ws : List Jvm.Cond) (p0 : Int64) (p1 : Int32) (p2 : Int32) (p3 : Int32) (o_NO_ASSIGNMENT : Addr) (kc_o_NO_ASSIGNMENT : ClassId) (h0 : Heap) (n0 : Nat) (Z0 : n0 ≤ h0.size) (O0 : Old Z n0 h0) (S_NO_ASSIGNMENT : Sta Z Z.heap "com/example/offst/offst/group/Member" "NO_ASSIGNMENT" "[B" (.ref o_NO_ASSIGNMENT)) (V_o_NO_ASSIGNMENT : Arv Z Z.heap o_NO_ASSIGNMENT kc_o_NO_ASSIGNMENT .byte (0 : Int32) [] (.int (0 : Int32))) :
    MetFree l x (head1 (Jvm.Cond.code x code maxLocals ret :: ws) room_1) (fun a U => a = #[(.long p0), (.int p1), (.int p2), (.int p3)] ∧ Z.Warmed39 U.vm ∧ U.heap = h0) (fun _ _ _ _ _ => True) (fun _ U o U' => ∃ v L, o = .returned v ∧ Q_own_law Z p0 p1 p2 p3 o_NO_ASSIGNMENT kc_o_NO_ASSIGNMENT h0 n0 v U'.heap L ∧ ReturnedEndW U o U' L room_1.cells room_1.slots) := by
  refine MetFree.of_bodySF (plainFor_of_name own_pn48) hisR ?_
  intro p e s m args below meth c s₁ Bd hml0 hP hK
  obtain ⟨rfl, hZ, hh⟩ := hP
  have hx := Bd.exec
  have hby := Bd.bytes
  have hml : c.maxLocals = 18 := hml0
  have hown : s.vm.findClass "com/example/offst/offst/group/MemberAssignPinLaw" = some m.cls := findClass_of_methodNamed Bd.named
  have hnm := (name_of_methodNamed Bd.named Bd.method).1
  have X0 : Stand p l e room_1 s m #[(.long p0), (.int p1), (.int p2), (.int p3)] below meth c s₁ [] 0 0 := Stand.of_body Bd
  have e0 : s₁.heap = h0 := by rw [← hh, Bd.state]; rfl
  have N0 := Fr.nil n0
  have K0 := Keep.refl h0 []
  refine own_go (fun t k => castTop (own_ef47 m p0 p1 p2 p3) k) ?_
  show OwnG p.tables e below _ (s₁.setTop (mkF m 0 #[.val (.long p0), .second, .val (.int p1), .val (.int p2), .val (.int p3), .unset, .unset, .unset, .unset, .unset, .unset, .unset, .unset, .unset, .unset, .unset, .unset, .unset] []))
  have hS0 : s.Since s.vm 0 := (State.WarmedH.refl s).since 0
  refine own_go (fun t k => XS.iloadN X0.here hx rfl (hb hby at_0) rfl  k) ?_
  show OwnG p.tables e below _ (s₁.setTop (mkF m 1 #[.val (.long p0), .second, .val (.int p1), .val (.int p2), .val (.int p3), .unset, .unset, .unset, .unset, .unset, .unset, .unset, .unset, .unset, .unset, .unset, .unset, .unset] [(.int p1)]))
  refine own_go (fun t k => XS.bipush X0.here hx rfl (hb hby at_1) k) ?_
  show OwnG p.tables e below _ (s₁.setTop (mkF m 3 #[.val (.long p0), .second, .val (.int p1), .val (.int p2), .val (.int p3), .unset, .unset, .unset, .unset, .unset, .unset, .unset, .unset, .unset, .unset, .unset, .unset, .unset] [(.int (7 : Int32)), (.int p1)]))
  refine own_go (fun t k => XS.iand X0.here hx rfl (hb hby at_3) rfl k) ?_
  show OwnG p.tables e below _ (s₁.setTop (mkF m 4 #[.val (.long p0), .second, .val (.int p1), .val (.int p2), .val (.int p3), .unset, .unset, .unset, .unset, .unset, .unset, .unset, .unset, .unset, .unset, .unset, .unset, .unset] [(.int (p1 &&& (7 : Int32)))]))
  refine own_go (fun t k => XS.istore X0.here hx rfl (hb hby at_4) rfl (l' := #[.val (.long p0), .second, .val (.int p1), .val (.int p2), .val (.int p3), .val (.int (p1 &&& (7 : Int32))), .unset, .unset, .unset, .unset, .unset, .unset, .unset, .unset, .unset, .unset, .unset, .unset]) rfl k) ?_
  show OwnG p.tables e below _ (s₁.setTop (mkF m 6 #[.val (.long p0), .second, .val (.int p1), .val (.int p2), .val (.int p3), .val (.int (p1 &&& (7 : Int32))), .unset, .unset, .unset, .unset, .unset, .unset, .unset, .unset, .unset, .unset, .unset, .unset] []))
  refine own_go (fun t k => XS.iloadN X0.here hx rfl (hb hby at_6) rfl  k) ?_
  show OwnG p.tables e below _ (s₁.setTop (mkF m 7 #[.val (.long p0), .second, .val (.int p1), .val (.int p2), .val (.int p3), .val (.int (p1 &&& (7 : Int32))), .unset, .unset, .unset, .unset, .unset, .unset, .unset, .unset, .unset, .unset, .unset, .unset] [(.int p2)]))
  refine own_go (fun t k => XS.bipush X0.here hx rfl (hb hby at_7) k) ?_
  show OwnG p.tables e below _ (s₁.setTop (mkF m 9 #[.val (.long p0), .second, .val (.int p1), .val (.int p2), .val (.int p3), .val (.int (p1 &&& (7 : Int32))), .unset, .unset, .unset, .unset, .unset, .unset, .unset, .unset, .unset, .unset, .unset, .unset] [(.int (7 : Int32)), (.int p2)]))
  refine own_go (fun t k => XS.iand X0.here hx rfl (hb hby at_9) rfl k) ?_
  show OwnG p.tables e below _ (s₁.setTop (mkF m 10 #[.val (.long p0), .second, .val (.int p1), .val (.int p2), .val (.int p3), .val (.int (p1 &&& (7 : Int32))), .unset, .unset, .unset, .unset, .unset, .unset, .unset, .unset, .unset, .unset, .unset, .unset] [(.int (p2 &&& (7 : Int32)))]))
  refine own_go (fun t k => XS.istore X0.here hx rfl (hb hby at_10) rfl (l' := #[.val (.long p0), .second, .val (.int p1), .val (.int p2), .val (.int p3), .val (.int (p1 &&& (7 : Int32))), .val (.int (p2 &&& (7 : Int32))), .unset, .unset, .unset, .unset, .unset, .unset, .unset, .unset, .unset, .unset, .unset]) rfl k) ?_
  show OwnG p.tables e below _ (s₁.setTop (mkF m 12 #[.val (.long p0), .second, .val (.int p1), .val (.int p2), .val (.int p3), .val (.int (p1 &&& (7 : Int32))), .val (.int (p2 &&& (7 : Int32))), .unset, .unset, .unset, .unset, .unset, .unset, .unset, .unset, .unset, .unset, .unset] []))
  refine own_go (fun t k => XS.iload X0.here hx rfl (hb hby at_12) rfl  k) ?_
  show OwnG p.tables e below _ (s₁.setTop (mkF m 14 #[.val (.long p0), .second, .val (.int p1), .val (.int p2), .val (.int p3), .val (.int (p1 &&& (7 : Int32))), .val (.int (p2 &&& (7 : Int32))), .unset, .unset, .unset, .unset, .unset, .unset, .unset, .unset, .unset, .unset, .unset] [(.int p3)]))
  refine own_go (fun t k => XS.iconst X0.here hx rfl (hb hby at_14) k) ?_
  show OwnG p.tables e below _ (s₁.setTop (mkF m 15 #[.val (.long p0), .second, .val (.int p1), .val (.int p2), .val (.int p3), .val (.int (p1 &&& (7 : Int32))), .val (.int (p2 &&& (7 : Int32))), .unset, .unset, .unset, .unset, .unset, .unset, .unset, .unset, .unset, .unset, .unset] [(.int (1 : Int32)), (.int p3)]))
  refine own_go (fun t k => XS.iand X0.here hx rfl (hb hby at_15) rfl k) ?_
  show OwnG p.tables e below _ (s₁.setTop (mkF m 16 #[.val (.long p0), .second, .val (.int p1), .val (.int p2), .val (.int p3), .val (.int (p1 &&& (7 : Int32))), .val (.int (p2 &&& (7 : Int32))), .unset, .unset, .unset, .unset, .unset, .unset, .unset, .unset, .unset, .unset, .unset] [(.int (p3 &&& (1 : Int32)))]))
  by_cases hc1 : (p3 &&& (1 : Int32)) = (0 : Int32)
  · refine own_go (fun t k => XS.ifYes X0.here hx rfl (pc0 := 16) (pc' := 23) rfl (hb hby at_16) rfl ((if0 _ _).trans (teq hc1).1) (by decide) (by decide) k) ?_
    show OwnG p.tables e below _ (s₁.setTop (mkF m 23 #[.val (.long p0), .second, .val (.int p1), .val (.int p2), .val (.int p3), .val (.int (p1 &&& (7 : Int32))), .val (.int (p2 &&& (7 : Int32))), .unset, .unset, .unset, .unset, .unset, .unset, .unset, .unset, .unset, .unset, .unset] []))
    refine own_go (fun t k => XS.iconst X0.here hx rfl (hb hby at_23) k) ?_
    show OwnG p.tables e below _ (s₁.setTop (mkF m 24 #[.val (.long p0), .second, .val (.int p1), .val (.int p2), .val (.int p3), .val (.int (p1 &&& (7 : Int32))), .val (.int (p2 &&& (7 : Int32))), .unset, .unset, .unset, .unset, .unset, .unset, .unset, .unset, .unset, .unset, .unset] [(.int (0 : Int32))]))
    refine own_go (fun t k => XS.istore X0.here hx rfl (hb hby at_24) rfl (l' := #[.val (.long p0), .second, .val (.int p1), .val (.int p2), .val (.int p3), .val (.int (p1 &&& (7 : Int32))), .val (.int (p2 &&& (7 : Int32))), .val (.int (0 : Int32)), .unset, .unset, .unset, .unset, .unset, .unset, .unset, .unset, .unset, .unset]) rfl k) ?_
    show OwnG p.tables e below _ (s₁.setTop (mkF m 26 #[.val (.long p0), .second, .val (.int p1), .val (.int p2), .val (.int p3), .val (.int (p1 &&& (7 : Int32))), .val (.int (p2 &&& (7 : Int32))), .val (.int (0 : Int32)), .unset, .unset, .unset, .unset, .unset, .unset, .unset, .unset, .unset, .unset] []))
    refine own_go (fun t k => XS.iload X0.here hx rfl (hb hby at_26) rfl  k) ?_
    show OwnG p.tables e below _ (s₁.setTop (mkF m 28 #[.val (.long p0), .second, .val (.int p1), .val (.int p2), .val (.int p3), .val (.int (p1 &&& (7 : Int32))), .val (.int (p2 &&& (7 : Int32))), .val (.int (0 : Int32)), .unset, .unset, .unset, .unset, .unset, .unset, .unset, .unset, .unset, .unset] [(.int p3)]))
    refine own_go (fun t k => XS.iconst X0.here hx rfl (hb hby at_28) k) ?_
    show OwnG p.tables e below _ (s₁.setTop (mkF m 29 #[.val (.long p0), .second, .val (.int p1), .val (.int p2), .val (.int p3), .val (.int (p1 &&& (7 : Int32))), .val (.int (p2 &&& (7 : Int32))), .val (.int (0 : Int32)), .unset, .unset, .unset, .unset, .unset, .unset, .unset, .unset, .unset, .unset] [(.int (2 : Int32)), (.int p3)]))
    refine own_go (fun t k => XS.iand X0.here hx rfl (hb hby at_29) rfl k) ?_
    show OwnG p.tables e below _ (s₁.setTop (mkF m 30 #[.val (.long p0), .second, .val (.int p1), .val (.int p2), .val (.int p3), .val (.int (p1 &&& (7 : Int32))), .val (.int (p2 &&& (7 : Int32))), .val (.int (0 : Int32)), .unset, .unset, .unset, .unset, .unset, .unset, .unset, .unset, .unset, .unset] [(.int (p3 &&& (2 : Int32)))]))
    by_cases hc2 : (p3 &&& (2 : Int32)) = (0 : Int32)
    · refine own_go (fun t k => XS.ifYes X0.here hx rfl (pc0 := 30) (pc' := 37) rfl (hb hby at_30) rfl ((if0 _ _).trans (teq hc2).1) (by decide) (by decide) k) ?_
      show OwnG p.tables e below _ (s₁.setTop (mkF m 37 #[.val (.long p0), .second, .val (.int p1), .val (.int p2), .val (.int p3), .val (.int (p1 &&& (7 : Int32))), .val (.int (p2 &&& (7 : Int32))), .val (.int (0 : Int32)), .unset, .unset, .unset, .unset, .unset, .unset, .unset, .unset, .unset, .unset] []))
      refine own_go (fun t k => XS.iconst X0.here hx rfl (hb hby at_37) k) ?_
      show OwnG p.tables e below _ (s₁.setTop (mkF m 38 #[.val (.long p0), .second, .val (.int p1), .val (.int p2), .val (.int p3), .val (.int (p1 &&& (7 : Int32))), .val (.int (p2 &&& (7 : Int32))), .val (.int (0 : Int32)), .unset, .unset, .unset, .unset, .unset, .unset, .unset, .unset, .unset, .unset] [(.int (0 : Int32))]))
      refine own_go (fun t k => XS.istore X0.here hx rfl (hb hby at_38) rfl (l' := #[.val (.long p0), .second, .val (.int p1), .val (.int p2), .val (.int p3), .val (.int (p1 &&& (7 : Int32))), .val (.int (p2 &&& (7 : Int32))), .val (.int (0 : Int32)), .val (.int (0 : Int32)), .unset, .unset, .unset, .unset, .unset, .unset, .unset, .unset, .unset]) rfl k) ?_
      show OwnG p.tables e below _ (s₁.setTop (mkF m 40 #[.val (.long p0), .second, .val (.int p1), .val (.int p2), .val (.int p3), .val (.int (p1 &&& (7 : Int32))), .val (.int (p2 &&& (7 : Int32))), .val (.int (0 : Int32)), .val (.int (0 : Int32)), .unset, .unset, .unset, .unset, .unset, .unset, .unset, .unset, .unset] []))
      refine own_go (fun t k => XS.iload X0.here hx rfl (hb hby at_40) rfl  k) ?_
      show OwnG p.tables e below _ (s₁.setTop (mkF m 42 #[.val (.long p0), .second, .val (.int p1), .val (.int p2), .val (.int p3), .val (.int (p1 &&& (7 : Int32))), .val (.int (p2 &&& (7 : Int32))), .val (.int (0 : Int32)), .val (.int (0 : Int32)), .unset, .unset, .unset, .unset, .unset, .unset, .unset, .unset, .unset] [(.int (p1 &&& (7 : Int32)))]))
      obtain ⟨T3, h3, k3, X3, e3, E3, A3, st3⟩ := newP X0 hx hZ (hw _ (List.mem_of_getElem? (i := 0) rfl)) e0 (g := (mkF m 42 #[.val (.long p0), .second, .val (.int p1), .val (.int p2), .val (.int p3), .val (.int (p1 &&& (7 : Int32))), .val (.int (p2 &&& (7 : Int32))), .val (.int (0 : Int32)), .val (.int (0 : Int32)), .unset, .unset, .unset, .unset, .unset, .unset, .unset, .unset, .unset] [(.int (p1 &&& (7 : Int32)))])) rfl (hb hby at_42) rfl (own_m7 p1).1 (cap := 7) (own_m7 p1).2 (by decide) (by decide) (by decide)
      obtain ⟨b3, g3⟩ : ∃ z, z = h0.size := ⟨_, rfl⟩
      rw [← g3] at A3 st3
      have g_b3 : n0 ≤ b3 := Nat.le_trans Z0 (Nat.le_of_eq g3.symm)
      have sz_b3 : h0.size ≤ b3 := Nat.le_trans K0.1 (Nat.le_of_eq g3.symm)
      have F4 : Old Z n0 h3 := O0.ext E3
      have K5 : Keep h0 h3 [] := K0.ext E3
      have Z5 : n0 ≤ h3.size := Nat.le_trans Z0 E3.1
      have F6 : Arv Z h3 b3 k3 .byte (p1 &&& (7 : Int32)) [] (.int (0 : Int32)) := Arv.new A3 (own_m7 p1).1
      refine own_go (fun t k => st3 t k) ?_
      show OwnG p.tables e below _ (T3.setTop (mkF m 44 #[.val (.long p0), .second, .val (.int p1), .val (.int p2), .val (.int p3), .val (.int (p1 &&& (7 : Int32))), .val (.int (p2 &&& (7 : Int32))), .val (.int (0 : Int32)), .val (.int (0 : Int32)), .unset, .unset, .unset, .unset, .unset, .unset, .unset, .unset, .unset] [(.ref b3)]))
      refine own_go (fun t k => XS.astore X3.here hx rfl (hb hby at_44) rfl rfl (l' := #[.val (.long p0), .second, .val (.int p1), .val (.int p2), .val (.int p3), .val (.int (p1 &&& (7 : Int32))), .val (.int (p2 &&& (7 : Int32))), .val (.int (0 : Int32)), .val (.int (0 : Int32)), .val (.ref b3), .unset, .unset, .unset, .unset, .unset, .unset, .unset, .unset]) rfl k) ?_
      show OwnG p.tables e below _ (T3.setTop (mkF m 46 #[.val (.long p0), .second, .val (.int p1), .val (.int p2), .val (.int p3), .val (.int (p1 &&& (7 : Int32))), .val (.int (p2 &&& (7 : Int32))), .val (.int (0 : Int32)), .val (.int (0 : Int32)), .val (.ref b3), .unset, .unset, .unset, .unset, .unset, .unset, .unset, .unset] []))
      refine own_go (fun t k => XS.iload X3.here hx rfl (hb hby at_46) rfl  k) ?_
      show OwnG p.tables e below _ (T3.setTop (mkF m 48 #[.val (.long p0), .second, .val (.int p1), .val (.int p2), .val (.int p3), .val (.int (p1 &&& (7 : Int32))), .val (.int (p2 &&& (7 : Int32))), .val (.int (0 : Int32)), .val (.int (0 : Int32)), .val (.ref b3), .unset, .unset, .unset, .unset, .unset, .unset, .unset, .unset] [(.int (0 : Int32))]))
      refine own_go (fun t k => XS.ifYes X3.here hx rfl (pc0 := 48) (pc' := 56) rfl (hb hby at_48) rfl ((if0 _ _).trans (teq (by decide : (0 : Int32) = (0 : Int32))).1) (by decide) (by decide) k) ?_
      show OwnG p.tables e below _ (T3.setTop (mkF m 56 #[.val (.long p0), .second, .val (.int p1), .val (.int p2), .val (.int p3), .val (.int (p1 &&& (7 : Int32))), .val (.int (p2 &&& (7 : Int32))), .val (.int (0 : Int32)), .val (.int (0 : Int32)), .val (.ref b3), .unset, .unset, .unset, .unset, .unset, .unset, .unset, .unset] []))
      refine own_go (fun t k => XS.iload X3.here hx rfl (hb hby at_56) rfl  k) ?_
      show OwnG p.tables e below _ (T3.setTop (mkF m 58 #[.val (.long p0), .second, .val (.int p1), .val (.int p2), .val (.int p3), .val (.int (p1 &&& (7 : Int32))), .val (.int (p2 &&& (7 : Int32))), .val (.int (0 : Int32)), .val (.int (0 : Int32)), .val (.ref b3), .unset, .unset, .unset, .unset, .unset, .unset, .unset, .unset] [(.int (p2 &&& (7 : Int32)))]))
      obtain ⟨T7, h7, k7, X7, e7, E7, A7, st7⟩ := newP X3 hx hZ (hw _ (List.mem_of_getElem? (i := 0) rfl)) e3 (g := (mkF m 58 #[.val (.long p0), .second, .val (.int p1), .val (.int p2), .val (.int p3), .val (.int (p1 &&& (7 : Int32))), .val (.int (p2 &&& (7 : Int32))), .val (.int (0 : Int32)), .val (.int (0 : Int32)), .val (.ref b3), .unset, .unset, .unset, .unset, .unset, .unset, .unset, .unset] [(.int (p2 &&& (7 : Int32)))])) rfl (hb hby at_58) rfl (own_m7 p2).1 (cap := 7) (own_m7 p2).2 (by decide) (by decide) (by decide)
      obtain ⟨b7, g7⟩ : ∃ z, z = h3.size := ⟨_, rfl⟩
      rw [← g7] at A7 st7
      have ne8 : b3 ≠ b7 := Nat.ne_of_lt (Nat.lt_of_lt_of_le F6.lt (Nat.le_of_eq g7.symm))
      have g_b7 : n0 ≤ b7 := Nat.le_trans Z5 (Nat.le_of_eq g7.symm)
      have sz_b7 : h0.size ≤ b7 := Nat.le_trans K5.1 (Nat.le_of_eq g7.symm)
      have F9 : Old Z n0 h7 := F4.ext E7
      have F10 : Arv Z h7 b3 k3 .byte (p1 &&& (7 : Int32)) [] (.int (0 : Int32)) := F6.ext E7
      have K11 : Keep h0 h7 [] := K5.ext E7
      have Z11 : n0 ≤ h7.size := Nat.le_trans Z5 E7.1
      have F12 : Arv Z h7 b7 k7 .byte (p2 &&& (7 : Int32)) [] (.int (0 : Int32)) := Arv.new A7 (own_m7 p2).1
      refine own_go (fun t k => st7 t k) ?_
      show OwnG p.tables e below _ (T7.setTop (mkF m 60 #[.val (.long p0), .second, .val (.int p1), .val (.int p2), .val (.int p3), .val (.int (p1 &&& (7 : Int32))), .val (.int (p2 &&& (7 : Int32))), .val (.int (0 : Int32)), .val (.int (0 : Int32)), .val (.ref b3), .unset, .unset, .unset, .unset, .unset, .unset, .unset, .unset] [(.ref b7)]))
      refine own_go (fun t k => XS.astore X7.here hx rfl (hb hby at_60) rfl rfl (l' := #[.val (.long p0), .second, .val (.int p1), .val (.int p2), .val (.int p3), .val (.int (p1 &&& (7 : Int32))), .val (.int (p2 &&& (7 : Int32))), .val (.int (0 : Int32)), .val (.int (0 : Int32)), .val (.ref b3), .val (.ref b7), .unset, .unset, .unset, .unset, .unset, .unset, .unset]) rfl k) ?_
      show OwnG p.tables e below _ (T7.setTop (mkF m 62 #[.val (.long p0), .second, .val (.int p1), .val (.int p2), .val (.int p3), .val (.int (p1 &&& (7 : Int32))), .val (.int (p2 &&& (7 : Int32))), .val (.int (0 : Int32)), .val (.int (0 : Int32)), .val (.ref b3), .val (.ref b7), .unset, .unset, .unset, .unset, .unset, .unset, .unset] []))
      refine own_go (fun t k => XS.iload X7.here hx rfl (hb hby at_62) rfl  k) ?_
      show OwnG p.tables e below _ (T7.setTop (mkF m 64 #[.val (.long p0), .second, .val (.int p1), .val (.int p2), .val (.int p3), .val (.int (p1 &&& (7 : Int32))), .val (.int (p2 &&& (7 : Int32))), .val (.int (0 : Int32)), .val (.int (0 : Int32)), .val (.ref b3), .val (.ref b7), .unset, .unset, .unset, .unset, .unset, .unset, .unset] [(.int (0 : Int32))]))
      refine own_go (fun t k => XS.ifYes X7.here hx rfl (pc0 := 64) (pc' := 72) rfl (hb hby at_64) rfl ((if0 _ _).trans (teq (by decide : (0 : Int32) = (0 : Int32))).1) (by decide) (by decide) k) ?_
      show OwnG p.tables e below _ (T7.setTop (mkF m 72 #[.val (.long p0), .second, .val (.int p1), .val (.int p2), .val (.int p3), .val (.int (p1 &&& (7 : Int32))), .val (.int (p2 &&& (7 : Int32))), .val (.int (0 : Int32)), .val (.int (0 : Int32)), .val (.ref b3), .val (.ref b7), .unset, .unset, .unset, .unset, .unset, .unset, .unset] []))
      refine own_go (fun t k => XS.iload X7.here hx rfl (hb hby at_72) rfl  k) ?_
      show OwnG p.tables e below _ (T7.setTop (mkF m 74 #[.val (.long p0), .second, .val (.int p1), .val (.int p2), .val (.int p3), .val (.int (p1 &&& (7 : Int32))), .val (.int (p2 &&& (7 : Int32))), .val (.int (0 : Int32)), .val (.int (0 : Int32)), .val (.ref b3), .val (.ref b7), .unset, .unset, .unset, .unset, .unset, .unset, .unset] [(.int (p2 &&& (7 : Int32)))]))
      refine own_go (fun t k => XS.istore X7.here hx rfl (hb hby at_74) rfl (l' := #[.val (.long p0), .second, .val (.int p1), .val (.int p2), .val (.int p3), .val (.int (p1 &&& (7 : Int32))), .val (.int (p2 &&& (7 : Int32))), .val (.int (0 : Int32)), .val (.int (0 : Int32)), .val (.ref b3), .val (.ref b7), .val (.int (p2 &&& (7 : Int32))), .unset, .unset, .unset, .unset, .unset, .unset]) rfl k) ?_
      show OwnG p.tables e below _ (T7.setTop (mkF m 76 #[.val (.long p0), .second, .val (.int p1), .val (.int p2), .val (.int p3), .val (.int (p1 &&& (7 : Int32))), .val (.int (p2 &&& (7 : Int32))), .val (.int (0 : Int32)), .val (.int (0 : Int32)), .val (.ref b3), .val (.ref b7), .val (.int (p2 &&& (7 : Int32))), .unset, .unset, .unset, .unset, .unset, .unset] []))
      obtain ⟨T13, h13, X13, e13, E13, A13, D13, -, st13⟩ := newO X7 hx hZ hown (hw _ (List.mem_of_getElem? (i := 1) rfl)) (hw _ (List.mem_of_getElem? (i := 2) rfl)) (hw _ (List.mem_of_getElem? (i := 3) rfl)) e7 (g := (mkF m 76 #[.val (.long p0), .second, .val (.int p1), .val (.int p2), .val (.int p3), .val (.int (p1 &&& (7 : Int32))), .val (.int (p2 &&& (7 : Int32))), .val (.int (0 : Int32)), .val (.int (0 : Int32)), .val (.ref b3), .val (.ref b7), .val (.int (p2 &&& (7 : Int32))), .unset, .unset, .unset, .unset, .unset, .unset] [])) rfl (hb hby at_76) (by decide) (by decide)
      obtain ⟨b13, g13⟩ : ∃ z, z = h7.size := ⟨_, rfl⟩
      rw [← g13] at A13 D13 st13
      have ne14 : b3 ≠ b13 := Nat.ne_of_lt (Nat.lt_of_lt_of_le F10.lt (Nat.le_of_eq g13.symm))
      have ne15 : b7 ≠ b13 := Nat.ne_of_lt (Nat.lt_of_lt_of_le F12.lt (Nat.le_of_eq g13.symm))
      have g_b13 : n0 ≤ b13 := Nat.le_trans Z11 (Nat.le_of_eq g13.symm)
      have sz_b13 : h0.size ≤ b13 := Nat.le_trans K11.1 (Nat.le_of_eq g13.symm)
      have F16 : Old Z n0 h13 := F9.ext E13
      have F17 : Arv Z h13 b3 k3 .byte (p1 &&& (7 : Int32)) [] (.int (0 : Int32)) := F10.ext E13
      have F18 : Arv Z h13 b7 k7 .byte (p2 &&& (7 : Int32)) [] (.int (0 : Int32)) := F12.ext E13
      have K19 : Keep h0 h13 [] := K11.ext E13
      have Z19 : n0 ≤ h13.size := Nat.le_trans Z11 E13.1
      have F20 : Fld Z h13 b13 "com/example/offst/offst/group/Member" "assignment" "[B" .null := D13 (Or.inl (hw _ (List.mem_of_getElem? (i := 20) rfl))) (ty := (.array .byte)) (by decide)
      have F21 : Fld Z h13 b13 "com/example/offst/offst/group/Member" "id" "Ljava/lang/String;" .null := D13 (Or.inr (hw _ (List.mem_of_getElem? (i := 22) rfl))) (ty := (.object "java/lang/String")) (by decide)
      have F22 : Fld Z h13 b13 "com/example/offst/offst/group/Member" "heldBytes" "J" (.long (0 : Int64)) := D13 (Or.inl (hw _ (List.mem_of_getElem? (i := 34) rfl))) (ty := .long) (by decide)
      have F23 : Fld Z h13 b13 "com/example/offst/offst/group/Member" "joinedWith" "Lcom/example/offst/offst/protocol/JoinGroupRequest;" .null := D13 (Or.inl (hw _ (List.mem_of_getElem? (i := 46) rfl))) (ty := (.object "com/example/offst/offst/protocol/JoinGroupRequest")) (by decide)
      refine own_go (fun t k => st13 t k) ?_
      show OwnG p.tables e below _ (T13.setTop (mkF m 79 #[.val (.long p0), .second, .val (.int p1), .val (.int p2), .val (.int p3), .val (.int (p1 &&& (7 : Int32))), .val (.int (p2 &&& (7 : Int32))), .val (.int (0 : Int32)), .val (.int (0 : Int32)), .val (.ref b3), .val (.ref b7), .val (.int (p2 &&& (7 : Int32))), .unset, .unset, .unset, .unset, .unset, .unset] [(.ref b13)]))
      refine own_go (fun t k => XS.dup X13.here hx rfl (hb hby at_79) rfl rfl k) ?_
      show OwnG p.tables e below _ (T13.setTop (mkF m 80 #[.val (.long p0), .second, .val (.int p1), .val (.int p2), .val (.int p3), .val (.int (p1 &&& (7 : Int32))), .val (.int (p2 &&& (7 : Int32))), .val (.int (0 : Int32)), .val (.int (0 : Int32)), .val (.ref b3), .val (.ref b7), .val (.int (p2 &&& (7 : Int32))), .unset, .unset, .unset, .unset, .unset, .unset] [(.ref b13), (.ref b13)]))
      obtain ⟨a24, T24, h24, kk24, X24, e24, E24, S24, hk24, hZ24, hO24, st24⟩ := ldcS (s := s) (vm0 := s.vm) X13 hx hZ hown (hw _ (List.mem_of_getElem? (i := 4) rfl)) (own_sa Z a0 hw) e13 hS0 (Nat.zero_le _) (g := (mkF m 80 #[.val (.long p0), .second, .val (.int p1), .val (.int p2), .val (.int p3), .val (.int (p1 &&& (7 : Int32))), .val (.int (p2 &&& (7 : Int32))), .val (.int (0 : Int32)), .val (.int (0 : Int32)), .val (.ref b3), .val (.ref b7), .val (.int (p2 &&& (7 : Int32))), .unset, .unset, .unset, .unset, .unset, .unset] [(.ref b13), (.ref b13)])) rfl (hb hby at_80) (n := 4) (by decide) (by decide) (by decide) (by decide)
      have F25 : Old Z n0 h24 := F16.ext E24
      have F26 : Arv Z h24 b3 k3 .byte (p1 &&& (7 : Int32)) [] (.int (0 : Int32)) := F17.ext E24
      have F27 : Arv Z h24 b7 k7 .byte (p2 &&& (7 : Int32)) [] (.int (0 : Int32)) := F18.ext E24
      have F28 : Exa Z h24 b13 "com/example/offst/offst/group/Member" := A13.ext E24
      have F29 : Fld Z h24 b13 "com/example/offst/offst/group/Member" "assignment" "[B" .null := F20.ext E24
      have F30 : Fld Z h24 b13 "com/example/offst/offst/group/Member" "id" "Ljava/lang/String;" .null := F21.ext E24
      have F31 : Fld Z h24 b13 "com/example/offst/offst/group/Member" "heldBytes" "J" (.long (0 : Int64)) := F22.ext E24
      have F32 : Fld Z h24 b13 "com/example/offst/offst/group/Member" "joinedWith" "Lcom/example/offst/offst/protocol/JoinGroupRequest;" .null := F23.ext E24
      have K33 : Keep h0 h24 [] := K19.ext E24
      have Z33 : n0 ≤ h24.size := Nat.le_trans Z19 E24.1
      refine own_go (fun t k => st24 t k) ?_
      show OwnG p.tables e below _ (T24.setTop (mkF m 82 #[.val (.long p0), .second, .val (.int p1), .val (.int p2), .val (.int p3), .val (.int (p1 &&& (7 : Int32))), .val (.int (p2 &&& (7 : Int32))), .val (.int (0 : Int32)), .val (.int (0 : Int32)), .val (.ref b3), .val (.ref b7), .val (.int (p2 &&& (7 : Int32))), .unset, .unset, .unset, .unset, .unset, .unset] [(.ref a24), (.ref b13), (.ref b13)]))
      obtain ⟨_, _, ⟨T34, L34, k34, n34⟩, -, X34, ⟨Lc34, hQ34, l34, y34, z34⟩, st34⟩ := X24.specialBack hx (y := (⟨"com/example/offst/offst/group/Member", "<init>", "(Ljava/lang/String;)V"⟩ : MethodName)) rfl hO24 (mvT hZ24 (hw _ (List.mem_of_getElem? (i := 11) rfl))) (mvT hZ24 (hw _ (List.mem_of_getElem? (i := 12) rfl))) (mvT hZ24 (hw _ (List.mem_of_getElem? (i := 13) rfl))) (by decide) (backOf (W := 1) (own_init l Z a0 hw [] b13 a24 o_NO_ASSIGNMENT kc_o_NO_ASSIGNMENT h24 n0 Z33 F25 S_NO_ASSIGNMENT V_o_NO_ASSIGNMENT F28 F29 F30 F31 F32 g_b13) hZ24 (hw _ (List.mem_of_getElem? (i := 13) rfl)) (hw _ (List.mem_of_getElem? (i := 3) rfl)) (by decide) (by decide)) (g := (mkF m 82 #[.val (.long p0), .second, .val (.int p1), .val (.int p2), .val (.int p3), .val (.int (p1 &&& (7 : Int32))), .val (.int (p2 &&& (7 : Int32))), .val (.int (0 : Int32)), .val (.int (0 : Int32)), .val (.ref b3), .val (.ref b7), .val (.int (p2 &&& (7 : Int32))), .unset, .unset, .unset, .unset, .unset, .unset] [(.ref a24), (.ref b13), (.ref b13)])) rfl (by rw [hml]; rfl) (Steps.refl _) (a := b13) (argsL := [(.ref a24)]) (rest := [(.ref b13)]) (lenOf own_pd49 rfl) rfl (by show 2 * 0 + _ ≤ _; exact Nat.le_of_eq rfl) (hb hby at_82) (fun _ _ => ⟨rfl, e24, (by decide : 5 + 0 ≤ _), (by decide : 29 + 0 ≤ _)⟩)
      dsimp only [Pt.U, Pt.locs, Pt.cells, Pt.slots] at X34 l34 y34 z34 st34 hQ34
      subst l34 y34 z34
      obtain ⟨rfl, Nq34, Kq34, Fq34_0, Fq34_1, Fq34_2, Fq34_3⟩ := hQ34
      have N34 := Fr.app N0 Nq34
      have F35 : Old Z n0 T34.heap := F25.keep Kq34 (allS g_b13 all0)
      have F36 : Arv Z T34.heap b3 k3 .byte (p1 &&& (7 : Int32)) [] (.int (0 : Int32)) := F26.keep Kq34 (ninS ne14 nin0)
      have F37 : Arv Z T34.heap b7 k7 .byte (p2 &&& (7 : Int32)) [] (.int (0 : Int32)) := F27.keep Kq34 (ninS ne15 nin0)
      have F38 : Exa Z T34.heap b13 "com/example/offst/offst/group/Member" := F28.keep Kq34
      have K34 : Keep h0 T34.heap [] := K33.trans Kq34 (allS (Or.inr sz_b13) all0)
      have Z34 : n0 ≤ T34.heap.size := Nat.le_trans Z33 Kq34.1
      have hk34 : _ ≤ T34.heap.size := Nat.le_trans hk24 Kq34.1
      refine own_go (fun t k => st34.trans k) ?_
      show OwnG p.tables e below _ (T34.setTop (mkF m 85 #[.val (.long p0), .second, .val (.int p1), .val (.int p2), .val (.int p3), .val (.int (p1 &&& (7 : Int32))), .val (.int (p2 &&& (7 : Int32))), .val (.int (0 : Int32)), .val (.int (0 : Int32)), .val (.ref b3), .val (.ref b7), .val (.int (p2 &&& (7 : Int32))), .unset, .unset, .unset, .unset, .unset, .unset] [(.ref b13)]))
      refine own_go (fun t k => XS.astore X34.here hx rfl (hb hby at_85) rfl rfl (l' := #[.val (.long p0), .second, .val (.int p1), .val (.int p2), .val (.int p3), .val (.int (p1 &&& (7 : Int32))), .val (.int (p2 &&& (7 : Int32))), .val (.int (0 : Int32)), .val (.int (0 : Int32)), .val (.ref b3), .val (.ref b7), .val (.int (p2 &&& (7 : Int32))), .val (.ref b13), .unset, .unset, .unset, .unset, .unset]) rfl k) ?_
      show OwnG p.tables e below _ (T34.setTop (mkF m 87 #[.val (.long p0), .second, .val (.int p1), .val (.int p2), .val (.int p3), .val (.int (p1 &&& (7 : Int32))), .val (.int (p2 &&& (7 : Int32))), .val (.int (0 : Int32)), .val (.int (0 : Int32)), .val (.ref b3), .val (.ref b7), .val (.int (p2 &&& (7 : Int32))), .val (.ref b13), .unset, .unset, .unset, .unset, .unset] []))
      refine own_go (fun t k => XS.lconst X34.here hx rfl (hb hby at_87) k) ?_
      show OwnG p.tables e below _ (T34.setTop (mkF m 88 #[.val (.long p0), .second, .val (.int p1), .val (.int p2), .val (.int p3), .val (.int (p1 &&& (7 : Int32))), .val (.int (p2 &&& (7 : Int32))), .val (.int (0 : Int32)), .val (.int (0 : Int32)), .val (.ref b3), .val (.ref b7), .val (.int (p2 &&& (7 : Int32))), .val (.ref b13), .unset, .unset, .unset, .unset, .unset] [(.long (0 : Int64))]))
      refine own_go (fun t k => XS.lstore X34.here hx rfl (hb hby at_88) rfl (l' := #[.val (.long p0), .second, .val (.int p1), .val (.int p2), .val (.int p3), .val (.int (p1 &&& (7 : Int32))), .val (.int (p2 &&& (7 : Int32))), .val (.int (0 : Int32)), .val (.int (0 : Int32)), .val (.ref b3), .val (.ref b7), .val (.int (p2 &&& (7 : Int32))), .val (.ref b13), .val (.long (0 : Int64)), .second, .unset, .unset, .unset]) rfl k) ?_
      show OwnG p.tables e below _ (T34.setTop (mkF m 90 #[.val (.long p0), .second, .val (.int p1), .val (.int p2), .val (.int p3), .val (.int (p1 &&& (7 : Int32))), .val (.int (p2 &&& (7 : Int32))), .val (.int (0 : Int32)), .val (.int (0 : Int32)), .val (.ref b3), .val (.ref b7), .val (.int (p2 &&& (7 : Int32))), .val (.ref b13), .val (.long (0 : Int64)), .second, .unset, .unset, .unset] []))
      refine own_go (fun t k => XS.iload X34.here hx rfl (hb hby at_90) rfl  k) ?_
      show OwnG p.tables e below _ (T34.setTop (mkF m 92 #[.val (.long p0), .second, .val (.int p1), .val (.int p2), .val (.int p3), .val (.int (p1 &&& (7 : Int32))), .val (.int (p2 &&& (7 : Int32))), .val (.int (0 : Int32)), .val (.int (0 : Int32)), .val (.ref b3), .val (.ref b7), .val (.int (p2 &&& (7 : Int32))), .val (.ref b13), .val (.long (0 : Int64)), .second, .unset, .unset, .unset] [(.int (0 : Int32))]))
      refine own_go (fun t k => XS.ifYes X34.here hx rfl (pc0 := 92) (pc' := 105) rfl (hb hby at_92) rfl ((if0 _ _).trans (teq (by decide : (0 : Int32) = (0 : Int32))).1) (by decide) (by decide) k) ?_
      show OwnG p.tables e below _ (T34.setTop (mkF m 105 #[.val (.long p0), .second, .val (.int p1), .val (.int p2), .val (.int p3), .val (.int (p1 &&& (7 : Int32))), .val (.int (p2 &&& (7 : Int32))), .val (.int (0 : Int32)), .val (.int (0 : Int32)), .val (.ref b3), .val (.ref b7), .val (.int (p2 &&& (7 : Int32))), .val (.ref b13), .val (.long (0 : Int64)), .second, .unset, .unset, .unset] []))
      refine own_go (fun t k => XS.aload X34.here hx rfl (hb hby at_105) rfl rfl k) ?_
      show OwnG p.tables e below _ (T34.setTop (mkF m 107 #[.val (.long p0), .second, .val (.int p1), .val (.int p2), .val (.int p3), .val (.int (p1 &&& (7 : Int32))), .val (.int (p2 &&& (7 : Int32))), .val (.int (0 : Int32)), .val (.int (0 : Int32)), .val (.ref b3), .val (.ref b7), .val (.int (p2 &&& (7 : Int32))), .val (.ref b13), .val (.long (0 : Int64)), .second, .unset, .unset, .unset] [(.ref b13)]))
      obtain ⟨cq39, kq39, q39a, q39b, q39c⟩ := isOf hZ24 rfl Fq34_0
      obtain ⟨_, _, ⟨T39, L39, k39, n39⟩, -, X39, ⟨Lc39, hQ39, l39, y39, z39⟩, st39⟩ := X34.virtualBack hx (y := (⟨"com/example/offst/offst/group/Member", "assignment", "()[B"⟩ : MethodName)) (z := (⟨"com/example/offst/offst/group/Member", "assignment", "()[B"⟩ : MethodName)) hO24 (mvT hZ24 (hw _ (List.mem_of_getElem? (i := 23) rfl))) (mvT hZ24 (hw _ (List.mem_of_getElem? (i := 24) rfl))) (notFace_of_selects (args := #[]) (mvT hZ24 (hw _ (List.mem_of_getElem? (i := 26) rfl)))) (mvT hZ24 (hw _ (List.mem_of_getElem? (i := 26) rfl))) (mvT hZ24 (hw _ (List.mem_of_getElem? (i := 25) rfl))) (by decide) (backOf (W := 0) (own_assignment l Z a0 hw [] b13 o_NO_ASSIGNMENT T34.heap n0 Z34 Fq34_1) hZ24 (hw _ (List.mem_of_getElem? (i := 27) rfl)) (hw _ (List.mem_of_getElem? (i := 3) rfl)) (by decide) (by decide)) q39a q39c (g := (mkF m 107 #[.val (.long p0), .second, .val (.int p1), .val (.int p2), .val (.int p3), .val (.int (p1 &&& (7 : Int32))), .val (.int (p2 &&& (7 : Int32))), .val (.int (0 : Int32)), .val (.int (0 : Int32)), .val (.ref b3), .val (.ref b7), .val (.int (p2 &&& (7 : Int32))), .val (.ref b13), .val (.long (0 : Int64)), .second, .unset, .unset, .unset] [(.ref b13)])) rfl (by rw [hml]; rfl) (Steps.refl _) (argsL := []) (rest := []) (lenOf own_pd50 rfl) rfl (by show 2 * 0 + _ ≤ _; exact Nat.le_of_eq rfl) (hb hby at_107) (fun _ _ => ⟨rfl, rfl, (by decide : 5 + 0 ≤ _), (by decide : 29 + 0 ≤ _)⟩)
      dsimp only [Pt.U, Pt.locs, Pt.cells, Pt.slots] at X39 l39 y39 z39 st39 hQ39
      subst l39 y39 z39
      obtain ⟨rfl, Nq39, eq39⟩ := hQ39
      have N39 := Fr.app N34 Nq39
      have e39 : T39.heap = T34.heap := eq39
      refine own_go (fun t k => st39.trans k) ?_
      show OwnG p.tables e below _ (T39.setTop (mkF m 110 #[.val (.long p0), .second, .val (.int p1), .val (.int p2), .val (.int p3), .val (.int (p1 &&& (7 : Int32))), .val (.int (p2 &&& (7 : Int32))), .val (.int (0 : Int32)), .val (.int (0 : Int32)), .val (.ref b3), .val (.ref b7), .val (.int (p2 &&& (7 : Int32))), .val (.ref b13), .val (.long (0 : Int64)), .second, .unset, .unset, .unset] [(.ref o_NO_ASSIGNMENT)]))
      have vv40 := (V_o_NO_ASSIGNMENT.ext F35.2)
      obtain ⟨cl40, Ar40, qk40, Sz40, Nn40, Hs40, Gs40⟩ := vv40
      have st40 : ∀ t, Steps p.tables e below (T39.setTop (mkF m 111 #[.val (.long p0), .second, .val (.int p1), .val (.int p2), .val (.int p3), .val (.int (p1 &&& (7 : Int32))), .val (.int (p2 &&& (7 : Int32))), .val (.int (0 : Int32)), .val (.int (0 : Int32)), .val (.ref b3), .val (.ref b7), .val (.int (p2 &&& (7 : Int32))), .val (.ref b13), .val (.long (0 : Int64)), .second, .unset, .unset, .unset] [(.int (0 : Int32))])) t → Steps p.tables e below (T39.setTop (mkF m 110 #[.val (.long p0), .second, .val (.int p1), .val (.int p2), .val (.int p3), .val (.int (p1 &&& (7 : Int32))), .val (.int (p2 &&& (7 : Int32))), .val (.int (0 : Int32)), .val (.int (0 : Int32)), .val (.ref b3), .val (.ref b7), .val (.int (p2 &&& (7 : Int32))), .val (.ref b13), .val (.long (0 : Int64)), .second, .unset, .unset, .unset] [(.ref o_NO_ASSIGNMENT)])) t := fun t k => by
        refine X39.arraylength hx (by rw [e39]; exact Ar40.1) (State.isArrayOf_alike hZ24.alike Ar40.2.1) (g := (mkF m 110 #[.val (.long p0), .second, .val (.int p1), .val (.int p2), .val (.int p3), .val (.int (p1 &&& (7 : Int32))), .val (.int (p2 &&& (7 : Int32))), .val (.int (0 : Int32)), .val (.int (0 : Int32)), .val (.ref b3), .val (.ref b7), .val (.int (p2 &&& (7 : Int32))), .val (.ref b13), .val (.long (0 : Int64)), .second, .unset, .unset, .unset] [(.ref o_NO_ASSIGNMENT)])) rfl rfl (hb hby at_110) _ ?_
        rw [len_of Sz40 Nn40]
        exact k
      refine own_go (fun t k => st40 t k) ?_
      show OwnG p.tables e below _ (T39.setTop (mkF m 111 #[.val (.long p0), .second, .val (.int p1), .val (.int p2), .val (.int p3), .val (.int (p1 &&& (7 : Int32))), .val (.int (p2 &&& (7 : Int32))), .val (.int (0 : Int32)), .val (.int (0 : Int32)), .val (.ref b3), .val (.ref b7), .val (.int (p2 &&& (7 : Int32))), .val (.ref b13), .val (.long (0 : Int64)), .second, .unset, .unset, .unset] [(.int (0 : Int32))]))
      refine own_go (fun t k => XS.ifNo X39.here hx rfl (hb hby at_111) rfl ((if0 _ _).trans (teq (by decide : (0 : Int32) = (0 : Int32))).2) k) ?_
      show OwnG p.tables e below _ (T39.setTop (mkF m 114 #[.val (.long p0), .second, .val (.int p1), .val (.int p2), .val (.int p3), .val (.int (p1 &&& (7 : Int32))), .val (.int (p2 &&& (7 : Int32))), .val (.int (0 : Int32)), .val (.int (0 : Int32)), .val (.ref b3), .val (.ref b7), .val (.int (p2 &&& (7 : Int32))), .val (.ref b13), .val (.long (0 : Int64)), .second, .unset, .unset, .unset] []))
      refine own_go (fun t k => XS.aload X39.here hx rfl (hb hby at_114) rfl rfl k) ?_
      show OwnG p.tables e below _ (T39.setTop (mkF m 116 #[.val (.long p0), .second, .val (.int p1), .val (.int p2), .val (.int p3), .val (.int (p1 &&& (7 : Int32))), .val (.int (p2 &&& (7 : Int32))), .val (.int (0 : Int32)), .val (.int (0 : Int32)), .val (.ref b3), .val (.ref b7), .val (.int (p2 &&& (7 : Int32))), .val (.ref b13), .val (.long (0 : Int64)), .second, .unset, .unset, .unset] [(.ref b13)]))
      obtain ⟨cq41, kq41, q41a, q41b, q41c⟩ := isOf hZ24 e39 Fq34_0
      obtain ⟨_, _, ⟨T41, L41, k41, n41⟩, -, X41, ⟨Lc41, hQ41, l41, y41, z41⟩, st41⟩ := X39.virtualBack hx (y := (⟨"com/example/offst/offst/group/Member", "heldBytes", "()J"⟩ : MethodName)) (z := (⟨"com/example/offst/offst/group/Member", "heldBytes", "()J"⟩ : MethodName)) hO24 (mvT hZ24 (hw _ (List.mem_of_getElem? (i := 28) rfl))) (mvT hZ24 (hw _ (List.mem_of_getElem? (i := 29) rfl))) (notFace_of_selects (args := #[]) (mvT hZ24 (hw _ (List.mem_of_getElem? (i := 31) rfl)))) (mvT hZ24 (hw _ (List.mem_of_getElem? (i := 31) rfl))) (mvT hZ24 (hw _ (List.mem_of_getElem? (i := 30) rfl))) (by decide) (backOf (W := 0) (own_held l Z a0 hw [] b13 (0 : Int64) T34.heap n0 Z34 Fq34_2) hZ24 (hw _ (List.mem_of_getElem? (i := 32) rfl)) (hw _ (List.mem_of_getElem? (i := 3) rfl)) (by decide) (by decide)) q41a q41c (g := (mkF m 116 #[.val (.long p0), .second, .val (.int p1), .val (.int p2), .val (.int p3), .val (.int (p1 &&& (7 : Int32))), .val (.int (p2 &&& (7 : Int32))), .val (.int (0 : Int32)), .val (.int (0 : Int32)), .val (.ref b3), .val (.ref b7), .val (.int (p2 &&& (7 : Int32))), .val (.ref b13), .val (.long (0 : Int64)), .second, .unset, .unset, .unset] [(.ref b13)])) rfl (by rw [hml]; rfl) (Steps.refl _) (argsL := []) (rest := []) (lenOf own_pd51 rfl) rfl (by show 2 * 0 + _ ≤ _; exact Nat.le_of_eq rfl) (hb hby at_116) (fun _ _ => ⟨rfl, e39, (by decide : 5 + 0 ≤ _), (by decide : 29 + 0 ≤ _)⟩)
      dsimp only [Pt.U, Pt.locs, Pt.cells, Pt.slots] at X41 l41 y41 z41 st41 hQ41
      subst l41 y41 z41
      obtain ⟨rfl, Nq41, eq41⟩ := hQ41
      have N41 := Fr.app N39 Nq41
      have e41 : T41.heap = T34.heap := eq41
      refine own_go (fun t k => st41.trans k) ?_
      show OwnG p.tables e below _ (T41.setTop (mkF m 119 #[.val (.long p0), .second, .val (.int p1), .val (.int p2), .val (.int p3), .val (.int (p1 &&& (7 : Int32))), .val (.int (p2 &&& (7 : Int32))), .val (.int (0 : Int32)), .val (.int (0 : Int32)), .val (.ref b3), .val (.ref b7), .val (.int (p2 &&& (7 : Int32))), .val (.ref b13), .val (.long (0 : Int64)), .second, .unset, .unset, .unset] [(.long (0 : Int64))]))
      refine own_go (fun t k => XS.lload X41.here hx rfl (hb hby at_119) rfl  k) ?_
      show OwnG p.tables e below _ (T41.setTop (mkF m 121 #[.val (.long p0), .second, .val (.int p1), .val (.int p2), .val (.int p3), .val (.int (p1 &&& (7 : Int32))), .val (.int (p2 &&& (7 : Int32))), .val (.int (0 : Int32)), .val (.int (0 : Int32)), .val (.ref b3), .val (.ref b7), .val (.int (p2 &&& (7 : Int32))), .val (.ref b13), .val (.long (0 : Int64)), .second, .unset, .unset, .unset] [(.long (0 : Int64)), (.long (0 : Int64))]))
      refine own_go (fun t k => XS.lcmp X41.here hx rfl (hb hby at_121) rfl k) ?_
      show OwnG p.tables e below _ (T41.setTop (mkF m 122 #[.val (.long p0), .second, .val (.int p1), .val (.int p2), .val (.int p3), .val (.int (p1 &&& (7 : Int32))), .val (.int (p2 &&& (7 : Int32))), .val (.int (0 : Int32)), .val (.int (0 : Int32)), .val (.ref b3), .val (.ref b7), .val (.int (p2 &&& (7 : Int32))), .val (.ref b13), .val (.long (0 : Int64)), .second, .unset, .unset, .unset] [(.int (lcmpW (0 : Int64) (0 : Int64)))]))
      refine own_go (fun t k => XS.ifNo X41.here hx rfl (hb hby at_122) rfl ((if0 _ _).trans (teq ((lw_eq _ _).mpr (rfl : (0 : Int64) = (0 : Int64)))).2) k) ?_
      show OwnG p.tables e below _ (T41.setTop (mkF m 125 #[.val (.long p0), .second, .val (.int p1), .val (.int p2), .val (.int p3), .val (.int (p1 &&& (7 : Int32))), .val (.int (p2 &&& (7 : Int32))), .val (.int (0 : Int32)), .val (.int (0 : Int32)), .val (.ref b3), .val (.ref b7), .val (.int (p2 &&& (7 : Int32))), .val (.ref b13), .val (.long (0 : Int64)), .second, .unset, .unset, .unset] []))
      refine own_go (fun t k => XS.iconst X41.here hx rfl (hb hby at_125) k) ?_
      show OwnG p.tables e below _ (T41.setTop (mkF m 126 #[.val (.long p0), .second, .val (.int p1), .val (.int p2), .val (.int p3), .val (.int (p1 &&& (7 : Int32))), .val (.int (p2 &&& (7 : Int32))), .val (.int (0 : Int32)), .val (.int (0 : Int32)), .val (.ref b3), .val (.ref b7), .val (.int (p2 &&& (7 : Int32))), .val (.ref b13), .val (.long (0 : Int64)), .second, .unset, .unset, .unset] [(.int (1 : Int32))]))
      refine own_go (fun t k => XS.goto X41.here hx rfl (pc0 := 126) (pc' := 130) rfl (hb hby at_126) (by decide) (by decide) k) ?_
      show OwnG p.tables e below _ (T41.setTop (mkF m 130 #[.val (.long p0), .second, .val (.int p1), .val (.int p2), .val (.int p3), .val (.int (p1 &&& (7 : Int32))), .val (.int (p2 &&& (7 : Int32))), .val (.int (0 : Int32)), .val (.int (0 : Int32)), .val (.ref b3), .val (.ref b7), .val (.int (p2 &&& (7 : Int32))), .val (.ref b13), .val (.long (0 : Int64)), .second, .unset, .unset, .unset] [(.int (1 : Int32))]))
      refine own_go (fun t k => XS.istore X41.here hx rfl (hb hby at_130) rfl (l' := #[.val (.long p0), .second, .val (.int p1), .val (.int p2), .val (.int p3), .val (.int (p1 &&& (7 : Int32))), .val (.int (p2 &&& (7 : Int32))), .val (.int (0 : Int32)), .val (.int (0 : Int32)), .val (.ref b3), .val (.ref b7), .val (.int (p2 &&& (7 : Int32))), .val (.ref b13), .val (.long (0 : Int64)), .second, .val (.int (1 : Int32)), .unset, .unset]) rfl k) ?_
      show OwnG p.tables e below _ (T41.setTop (mkF m 132 #[.val (.long p0), .second, .val (.int p1), .val (.int p2), .val (.int p3), .val (.int (p1 &&& (7 : Int32))), .val (.int (p2 &&& (7 : Int32))), .val (.int (0 : Int32)), .val (.int (0 : Int32)), .val (.ref b3), .val (.ref b7), .val (.int (p2 &&& (7 : Int32))), .val (.ref b13), .val (.long (0 : Int64)), .second, .val (.int (1 : Int32)), .unset, .unset] []))
      refine own_go (fun t k => XS.aload X41.here hx rfl (hb hby at_132) rfl rfl k) ?_
      show OwnG p.tables e below _ (T41.setTop (mkF m 134 #[.val (.long p0), .second, .val (.int p1), .val (.int p2), .val (.int p3), .val (.int (p1 &&& (7 : Int32))), .val (.int (p2 &&& (7 : Int32))), .val (.int (0 : Int32)), .val (.int (0 : Int32)), .val (.ref b3), .val (.ref b7), .val (.int (p2 &&& (7 : Int32))), .val (.ref b13), .val (.long (0 : Int64)), .second, .val (.int (1 : Int32)), .unset, .unset] [(.ref b13)]))
      refine own_go (fun t k => XS.aload X41.here hx rfl (hb hby at_134) rfl rfl k) ?_
      show OwnG p.tables e below _ (T41.setTop (mkF m 136 #[.val (.long p0), .second, .val (.int p1), .val (.int p2), .val (.int p3), .val (.int (p1 &&& (7 : Int32))), .val (.int (p2 &&& (7 : Int32))), .val (.int (0 : Int32)), .val (.int (0 : Int32)), .val (.ref b3), .val (.ref b7), .val (.int (p2 &&& (7 : Int32))), .val (.ref b13), .val (.long (0 : Int64)), .second, .val (.int (1 : Int32)), .unset, .unset] [(.ref b3), (.ref b13)]))
      obtain ⟨cq42, kq42, q42a, q42b, q42c⟩ := isOf hZ24 e41 Fq34_0
      obtain ⟨_, _, ⟨T42, L42, k42, n42⟩, -, X42, ⟨Lc42, hQ42, l42, y42, z42⟩, st42⟩ := X41.virtualBack hx (y := (⟨"com/example/offst/offst/group/Member", "assign", "([B)V"⟩ : MethodName)) (z := (⟨"com/example/offst/offst/group/Member", "assign", "([B)V"⟩ : MethodName)) hO24 (mvT hZ24 (hw _ (List.mem_of_getElem? (i := 35) rfl))) (mvT hZ24 (hw _ (List.mem_of_getElem? (i := 36) rfl))) (notFace_of_selects (args := #[]) (mvT hZ24 (hw _ (List.mem_of_getElem? (i := 38) rfl)))) (mvT hZ24 (hw _ (List.mem_of_getElem? (i := 38) rfl))) (mvT hZ24 (hw _ (List.mem_of_getElem? (i := 37) rfl))) (by decide) (backOf (W := 0) (own_assign l Z a0 hw [] b13 b3 o_NO_ASSIGNMENT k3 kc_o_NO_ASSIGNMENT (p1 &&& (7 : Int32)) (0 : Int32) (0 : Int64) T34.heap n0 Z34 Fq34_0 Fq34_1 Fq34_2 F36 (V_o_NO_ASSIGNMENT.ext F35.2) g_b13) hZ24 (hw _ (List.mem_of_getElem? (i := 39) rfl)) (hw _ (List.mem_of_getElem? (i := 3) rfl)) (by decide) (by decide)) q42a q42c (g := (mkF m 136 #[.val (.long p0), .second, .val (.int p1), .val (.int p2), .val (.int p3), .val (.int (p1 &&& (7 : Int32))), .val (.int (p2 &&& (7 : Int32))), .val (.int (0 : Int32)), .val (.int (0 : Int32)), .val (.ref b3), .val (.ref b7), .val (.int (p2 &&& (7 : Int32))), .val (.ref b13), .val (.long (0 : Int64)), .second, .val (.int (1 : Int32)), .unset, .unset] [(.ref b3), (.ref b13)])) rfl (by rw [hml]; rfl) (Steps.refl _) (argsL := [(.ref b3)]) (rest := []) (lenOf own_pd52 rfl) rfl (by show 2 * 0 + _ ≤ _; exact Nat.le_of_eq rfl) (hb hby at_136) (fun _ _ => ⟨rfl, e41, (by decide : 5 + 0 ≤ _), (by decide : 29 + 0 ≤ _)⟩)
      dsimp only [Pt.U, Pt.locs, Pt.cells, Pt.slots] at X42 l42 y42 z42 st42 hQ42
      subst l42 y42 z42
      obtain ⟨rfl, Nq42, Kq42, Fq42_0, Fq42_1, Fq42_2⟩ := hQ42
      have N42 := Fr.app N41 Nq42
      have F43 : Old Z n0 T42.heap := F35.keep Kq42 (allS g_b13 all0)
      have F44 : Arv Z T42.heap b3 k3 .byte (p1 &&& (7 : Int32)) [] (.int (0 : Int32)) := F36.keep Kq42 (ninS ne14 nin0)
      have F45 : Arv Z T42.heap b7 k7 .byte (p2 &&& (7 : Int32)) [] (.int (0 : Int32)) := F37.keep Kq42 (ninS ne15 nin0)
      have F46 : Exa Z T42.heap b13 "com/example/offst/offst/group/Member" := Fq34_0.keep Kq42
      have K42 : Keep h0 T42.heap [] := K34.trans Kq42 (allS (Or.inr sz_b13) all0)
      have Z42 : n0 ≤ T42.heap.size := Nat.le_trans Z34 Kq42.1
      have hk42 : _ ≤ T42.heap.size := Nat.le_trans hk34 Kq42.1
      refine own_go (fun t k => st42.trans k) ?_
      show OwnG p.tables e below _ (T42.setTop (mkF m 139 #[.val (.long p0), .second, .val (.int p1), .val (.int p2), .val (.int p3), .val (.int (p1 &&& (7 : Int32))), .val (.int (p2 &&& (7 : Int32))), .val (.int (0 : Int32)), .val (.int (0 : Int32)), .val (.ref b3), .val (.ref b7), .val (.int (p2 &&& (7 : Int32))), .val (.ref b13), .val (.long (0 : Int64)), .second, .val (.int (1 : Int32)), .unset, .unset] []))
      have F47 : Fld Z T42.heap b13 "com/example/offst/offst/group/Member" "heldBytes" "J" (.long ((0 : Int64) + ((p1 &&& (7 : Int32)).toInt64))) := by rw [show ((0 : Int64) + ((p1 &&& (7 : Int32)).toInt64)) = _ from own_first (0 : Int64) (p1 &&& (7 : Int32))]; exact Fq42_2
      refine own_go (fun t k => XS.aload X42.here hx rfl (hb hby at_139) rfl rfl k) ?_
      show OwnG p.tables e below _ (T42.setTop (mkF m 141 #[.val (.long p0), .second, .val (.int p1), .val (.int p2), .val (.int p3), .val (.int (p1 &&& (7 : Int32))), .val (.int (p2 &&& (7 : Int32))), .val (.int (0 : Int32)), .val (.int (0 : Int32)), .val (.ref b3), .val (.ref b7), .val (.int (p2 &&& (7 : Int32))), .val (.ref b13), .val (.long (0 : Int64)), .second, .val (.int (1 : Int32)), .unset, .unset] [(.ref b13)]))
      obtain ⟨cq48, kq48, q48a, q48b, q48c⟩ := isOf hZ24 rfl Fq42_0
      obtain ⟨_, _, ⟨T48, L48, k48, n48⟩, -, X48, ⟨Lc48, hQ48, l48, y48, z48⟩, st48⟩ := X42.virtualBack hx (y := (⟨"com/example/offst/offst/group/Member", "heldBytes", "()J"⟩ : MethodName)) (z := (⟨"com/example/offst/offst/group/Member", "heldBytes", "()J"⟩ : MethodName)) hO24 (mvT hZ24 (hw _ (List.mem_of_getElem? (i := 28) rfl))) (mvT hZ24 (hw _ (List.mem_of_getElem? (i := 29) rfl))) (notFace_of_selects (args := #[]) (mvT hZ24 (hw _ (List.mem_of_getElem? (i := 31) rfl)))) (mvT hZ24 (hw _ (List.mem_of_getElem? (i := 31) rfl))) (mvT hZ24 (hw _ (List.mem_of_getElem? (i := 30) rfl))) (by decide) (backOf (W := 0) (own_held l Z a0 hw [] b13 ((0 : Int64) + ((p1 &&& (7 : Int32)).toInt64)) T42.heap n0 Z42 F47) hZ24 (hw _ (List.mem_of_getElem? (i := 32) rfl)) (hw _ (List.mem_of_getElem? (i := 3) rfl)) (by decide) (by decide)) q48a q48c (g := (mkF m 141 #[.val (.long p0), .second, .val (.int p1), .val (.int p2), .val (.int p3), .val (.int (p1 &&& (7 : Int32))), .val (.int (p2 &&& (7 : Int32))), .val (.int (0 : Int32)), .val (.int (0 : Int32)), .val (.ref b3), .val (.ref b7), .val (.int (p2 &&& (7 : Int32))), .val (.ref b13), .val (.long (0 : Int64)), .second, .val (.int (1 : Int32)), .unset, .unset] [(.ref b13)])) rfl (by rw [hml]; rfl) (Steps.refl _) (argsL := []) (rest := []) (lenOf own_pd51 rfl) rfl (by show 2 * 0 + _ ≤ _; exact Nat.le_of_eq rfl) (hb hby at_141) (fun _ _ => ⟨rfl, rfl, (by decide : 5 + 0 ≤ _), (by decide : 29 + 0 ≤ _)⟩)
      dsimp only [Pt.U, Pt.locs, Pt.cells, Pt.slots] at X48 l48 y48 z48 st48 hQ48
      subst l48 y48 z48
      obtain ⟨rfl, Nq48, eq48⟩ := hQ48
      have N48 := Fr.app N42 Nq48
      have e48 : T48.heap = T42.heap := eq48
      refine own_go (fun t k => st48.trans k) ?_
      show OwnG p.tables e below _ (T48.setTop (mkF m 144 #[.val (.long p0), .second, .val (.int p1), .val (.int p2), .val (.int p3), .val (.int (p1 &&& (7 : Int32))), .val (.int (p2 &&& (7 : Int32))), .val (.int (0 : Int32)), .val (.int (0 : Int32)), .val (.ref b3), .val (.ref b7), .val (.int (p2 &&& (7 : Int32))), .val (.ref b13), .val (.long (0 : Int64)), .second, .val (.int (1 : Int32)), .unset, .unset] [(.long ((0 : Int64) + ((p1 &&& (7 : Int32)).toInt64)))]))
      refine own_go (fun t k => XS.lload X48.here hx rfl (hb hby at_144) rfl  k) ?_
      show OwnG p.tables e below _ (T48.setTop (mkF m 146 #[.val (.long p0), .second, .val (.int p1), .val (.int p2), .val (.int p3), .val (.int (p1 &&& (7 : Int32))), .val (.int (p2 &&& (7 : Int32))), .val (.int (0 : Int32)), .val (.int (0 : Int32)), .val (.ref b3), .val (.ref b7), .val (.int (p2 &&& (7 : Int32))), .val (.ref b13), .val (.long (0 : Int64)), .second, .val (.int (1 : Int32)), .unset, .unset] [(.long (0 : Int64)), (.long ((0 : Int64) + ((p1 &&& (7 : Int32)).toInt64)))]))
      refine own_go (fun t k => XS.iload X48.here hx rfl (hb hby at_146) rfl  k) ?_
      show OwnG p.tables e below _ (T48.setTop (mkF m 148 #[.val (.long p0), .second, .val (.int p1), .val (.int p2), .val (.int p3), .val (.int (p1 &&& (7 : Int32))), .val (.int (p2 &&& (7 : Int32))), .val (.int (0 : Int32)), .val (.int (0 : Int32)), .val (.ref b3), .val (.ref b7), .val (.int (p2 &&& (7 : Int32))), .val (.ref b13), .val (.long (0 : Int64)), .second, .val (.int (1 : Int32)), .unset, .unset] [(.int (p1 &&& (7 : Int32))), (.long (0 : Int64)), (.long ((0 : Int64) + ((p1 &&& (7 : Int32)).toInt64)))]))
      refine own_go (fun t k => XS.i2l X48.here hx rfl (hb hby at_148) rfl k) ?_
      show OwnG p.tables e below _ (T48.setTop (mkF m 149 #[.val (.long p0), .second, .val (.int p1), .val (.int p2), .val (.int p3), .val (.int (p1 &&& (7 : Int32))), .val (.int (p2 &&& (7 : Int32))), .val (.int (0 : Int32)), .val (.int (0 : Int32)), .val (.ref b3), .val (.ref b7), .val (.int (p2 &&& (7 : Int32))), .val (.ref b13), .val (.long (0 : Int64)), .second, .val (.int (1 : Int32)), .unset, .unset] [(.long ((p1 &&& (7 : Int32)).toInt64)), (.long (0 : Int64)), (.long ((0 : Int64) + ((p1 &&& (7 : Int32)).toInt64)))]))
      refine own_go (fun t k => XS.ladd X48.here hx rfl (hb hby at_149) rfl k) ?_
      show OwnG p.tables e below _ (T48.setTop (mkF m 150 #[.val (.long p0), .second, .val (.int p1), .val (.int p2), .val (.int p3), .val (.int (p1 &&& (7 : Int32))), .val (.int (p2 &&& (7 : Int32))), .val (.int (0 : Int32)), .val (.int (0 : Int32)), .val (.ref b3), .val (.ref b7), .val (.int (p2 &&& (7 : Int32))), .val (.ref b13), .val (.long (0 : Int64)), .second, .val (.int (1 : Int32)), .unset, .unset] [(.long ((0 : Int64) + ((p1 &&& (7 : Int32)).toInt64))), (.long ((0 : Int64) + ((p1 &&& (7 : Int32)).toInt64)))]))
      refine own_go (fun t k => XS.lcmp X48.here hx rfl (hb hby at_150) rfl k) ?_
      show OwnG p.tables e below _ (T48.setTop (mkF m 151 #[.val (.long p0), .second, .val (.int p1), .val (.int p2), .val (.int p3), .val (.int (p1 &&& (7 : Int32))), .val (.int (p2 &&& (7 : Int32))), .val (.int (0 : Int32)), .val (.int (0 : Int32)), .val (.ref b3), .val (.ref b7), .val (.int (p2 &&& (7 : Int32))), .val (.ref b13), .val (.long (0 : Int64)), .second, .val (.int (1 : Int32)), .unset, .unset] [(.int (lcmpW ((0 : Int64) + ((p1 &&& (7 : Int32)).toInt64)) ((0 : Int64) + ((p1 &&& (7 : Int32)).toInt64))))]))
      refine own_go (fun t k => XS.ifNo X48.here hx rfl (hb hby at_151) rfl ((if0 _ _).trans (teq ((lw_eq _ _).mpr (rfl : ((0 : Int64) + ((p1 &&& (7 : Int32)).toInt64)) = ((0 : Int64) + ((p1 &&& (7 : Int32)).toInt64))))).2) k) ?_
      show OwnG p.tables e below _ (T48.setTop (mkF m 154 #[.val (.long p0), .second, .val (.int p1), .val (.int p2), .val (.int p3), .val (.int (p1 &&& (7 : Int32))), .val (.int (p2 &&& (7 : Int32))), .val (.int (0 : Int32)), .val (.int (0 : Int32)), .val (.ref b3), .val (.ref b7), .val (.int (p2 &&& (7 : Int32))), .val (.ref b13), .val (.long (0 : Int64)), .second, .val (.int (1 : Int32)), .unset, .unset] []))
      refine own_go (fun t k => XS.aload X48.here hx rfl (hb hby at_154) rfl rfl k) ?_
      show OwnG p.tables e below _ (T48.setTop (mkF m 156 #[.val (.long p0), .second, .val (.int p1), .val (.int p2), .val (.int p3), .val (.int (p1 &&& (7 : Int32))), .val (.int (p2 &&& (7 : Int32))), .val (.int (0 : Int32)), .val (.int (0 : Int32)), .val (.ref b3), .val (.ref b7), .val (.int (p2 &&& (7 : Int32))), .val (.ref b13), .val (.long (0 : Int64)), .second, .val (.int (1 : Int32)), .unset, .unset] [(.ref b13)]))
      obtain ⟨cq49, kq49, q49a, q49b, q49c⟩ := isOf hZ24 e48 Fq42_0
      obtain ⟨_, _, ⟨T49, L49, k49, n49⟩, -, X49, ⟨Lc49, hQ49, l49, y49, z49⟩, st49⟩ := X48.virtualBack hx (y := (⟨"com/example/offst/offst/group/Member", "assignment", "()[B"⟩ : MethodName)) (z := (⟨"com/example/offst/offst/group/Member", "assignment", "()[B"⟩ : MethodName)) hO24 (mvT hZ24 (hw _ (List.mem_of_getElem? (i := 23) rfl))) (mvT hZ24 (hw _ (List.mem_of_getElem? (i := 24) rfl))) (notFace_of_selects (args := #[]) (mvT hZ24 (hw _ (List.mem_of_getElem? (i := 26) rfl)))) (mvT hZ24 (hw _ (List.mem_of_getElem? (i := 26) rfl))) (mvT hZ24 (hw _ (List.mem_of_getElem? (i := 25) rfl))) (by decide) (backOf (W := 0) (own_assignment l Z a0 hw [] b13 b3 T42.heap n0 Z42 Fq42_1) hZ24 (hw _ (List.mem_of_getElem? (i := 27) rfl)) (hw _ (List.mem_of_getElem? (i := 3) rfl)) (by decide) (by decide)) q49a q49c (g := (mkF m 156 #[.val (.long p0), .second, .val (.int p1), .val (.int p2), .val (.int p3), .val (.int (p1 &&& (7 : Int32))), .val (.int (p2 &&& (7 : Int32))), .val (.int (0 : Int32)), .val (.int (0 : Int32)), .val (.ref b3), .val (.ref b7), .val (.int (p2 &&& (7 : Int32))), .val (.ref b13), .val (.long (0 : Int64)), .second, .val (.int (1 : Int32)), .unset, .unset] [(.ref b13)])) rfl (by rw [hml]; rfl) (Steps.refl _) (argsL := []) (rest := []) (lenOf own_pd50 rfl) rfl (by show 2 * 0 + _ ≤ _; exact Nat.le_of_eq rfl) (hb hby at_156) (fun _ _ => ⟨rfl, e48, (by decide : 5 + 0 ≤ _), (by decide : 29 + 0 ≤ _)⟩)
      dsimp only [Pt.U, Pt.locs, Pt.cells, Pt.slots] at X49 l49 y49 z49 st49 hQ49
      subst l49 y49 z49
      obtain ⟨rfl, Nq49, eq49⟩ := hQ49
      have N49 := Fr.app N48 Nq49
      have e49 : T49.heap = T42.heap := eq49
      refine own_go (fun t k => st49.trans k) ?_
      show OwnG p.tables e below _ (T49.setTop (mkF m 159 #[.val (.long p0), .second, .val (.int p1), .val (.int p2), .val (.int p3), .val (.int (p1 &&& (7 : Int32))), .val (.int (p2 &&& (7 : Int32))), .val (.int (0 : Int32)), .val (.int (0 : Int32)), .val (.ref b3), .val (.ref b7), .val (.int (p2 &&& (7 : Int32))), .val (.ref b13), .val (.long (0 : Int64)), .second, .val (.int (1 : Int32)), .unset, .unset] [(.ref b3)]))
      refine own_go (fun t k => XS.aload X49.here hx rfl (hb hby at_159) rfl rfl k) ?_
      show OwnG p.tables e below _ (T49.setTop (mkF m 161 #[.val (.long p0), .second, .val (.int p1), .val (.int p2), .val (.int p3), .val (.int (p1 &&& (7 : Int32))), .val (.int (p2 &&& (7 : Int32))), .val (.int (0 : Int32)), .val (.int (0 : Int32)), .val (.ref b3), .val (.ref b7), .val (.int (p2 &&& (7 : Int32))), .val (.ref b13), .val (.long (0 : Int64)), .second, .val (.int (1 : Int32)), .unset, .unset] [(.ref b3), (.ref b3)]))
      refine own_go (fun t k => Jvm.RoadKit.acmp (g := (mkF m 161 #[.val (.long p0), .second, .val (.int p1), .val (.int p2), .val (.int p3), .val (.int (p1 &&& (7 : Int32))), .val (.int (p2 &&& (7 : Int32))), .val (.int (0 : Int32)), .val (.int (0 : Int32)), .val (.ref b3), .val (.ref b7), .val (.int (p2 &&& (7 : Int32))), .val (.ref b13), .val (.long (0 : Int64)), .second, .val (.int (1 : Int32)), .unset, .unset] [(.ref b3), (.ref b3)])) X49 hx rfl rfl rfl (pc0 := 161) (pc' := 164) (same := true) rfl (hb hby at_161) rfl (decide_eq_true rfl) (by decide) (by decide) k) ?_
      show OwnG p.tables e below _ (T49.setTop (mkF m 164 #[.val (.long p0), .second, .val (.int p1), .val (.int p2), .val (.int p3), .val (.int (p1 &&& (7 : Int32))), .val (.int (p2 &&& (7 : Int32))), .val (.int (0 : Int32)), .val (.int (0 : Int32)), .val (.ref b3), .val (.ref b7), .val (.int (p2 &&& (7 : Int32))), .val (.ref b13), .val (.long (0 : Int64)), .second, .val (.int (1 : Int32)), .unset, .unset] []))
      refine own_go (fun t k => XS.iconst X49.here hx rfl (hb hby at_164) k) ?_
      show OwnG p.tables e below _ (T49.setTop (mkF m 165 #[.val (.long p0), .second, .val (.int p1), .val (.int p2), .val (.int p3), .val (.int (p1 &&& (7 : Int32))), .val (.int (p2 &&& (7 : Int32))), .val (.int (0 : Int32)), .val (.int (0 : Int32)), .val (.ref b3), .val (.ref b7), .val (.int (p2 &&& (7 : Int32))), .val (.ref b13), .val (.long (0 : Int64)), .second, .val (.int (1 : Int32)), .unset, .unset] [(.int (1 : Int32))]))
      refine own_go (fun t k => XS.goto X49.here hx rfl (pc0 := 165) (pc' := 169) rfl (hb hby at_165) (by decide) (by decide) k) ?_
      show OwnG p.tables e below _ (T49.setTop (mkF m 169 #[.val (.long p0), .second, .val (.int p1), .val (.int p2), .val (.int p3), .val (.int (p1 &&& (7 : Int32))), .val (.int (p2 &&& (7 : Int32))), .val (.int (0 : Int32)), .val (.int (0 : Int32)), .val (.ref b3), .val (.ref b7), .val (.int (p2 &&& (7 : Int32))), .val (.ref b13), .val (.long (0 : Int64)), .second, .val (.int (1 : Int32)), .unset, .unset] [(.int (1 : Int32))]))
      refine own_go (fun t k => XS.istore X49.here hx rfl (hb hby at_169) rfl (l' := #[.val (.long p0), .second, .val (.int p1), .val (.int p2), .val (.int p3), .val (.int (p1 &&& (7 : Int32))), .val (.int (p2 &&& (7 : Int32))), .val (.int (0 : Int32)), .val (.int (0 : Int32)), .val (.ref b3), .val (.ref b7), .val (.int (p2 &&& (7 : Int32))), .val (.ref b13), .val (.long (0 : Int64)), .second, .val (.int (1 : Int32)), .val (.int (1 : Int32)), .unset]) rfl k) ?_
      show OwnG p.tables e below _ (T49.setTop (mkF m 171 #[.val (.long p0), .second, .val (.int p1), .val (.int p2), .val (.int p3), .val (.int (p1 &&& (7 : Int32))), .val (.int (p2 &&& (7 : Int32))), .val (.int (0 : Int32)), .val (.int (0 : Int32)), .val (.ref b3), .val (.ref b7), .val (.int (p2 &&& (7 : Int32))), .val (.ref b13), .val (.long (0 : Int64)), .second, .val (.int (1 : Int32)), .val (.int (1 : Int32)), .unset] []))
      refine own_go (fun t k => XS.aload X49.here hx rfl (hb hby at_171) rfl rfl k) ?_
      show OwnG p.tables e below _ (T49.setTop (mkF m 173 #[.val (.long p0), .second, .val (.int p1), .val (.int p2), .val (.int p3), .val (.int (p1 &&& (7 : Int32))), .val (.int (p2 &&& (7 : Int32))), .val (.int (0 : Int32)), .val (.int (0 : Int32)), .val (.ref b3), .val (.ref b7), .val (.int (p2 &&& (7 : Int32))), .val (.ref b13), .val (.long (0 : Int64)), .second, .val (.int (1 : Int32)), .val (.int (1 : Int32)), .unset] [(.ref b13)]))
      refine own_go (fun t k => XS.aload X49.here hx rfl (hb hby at_173) rfl rfl k) ?_
      show OwnG p.tables e below _ (T49.setTop (mkF m 175 #[.val (.long p0), .second, .val (.int p1), .val (.int p2), .val (.int p3), .val (.int (p1 &&& (7 : Int32))), .val (.int (p2 &&& (7 : Int32))), .val (.int (0 : Int32)), .val (.int (0 : Int32)), .val (.ref b3), .val (.ref b7), .val (.int (p2 &&& (7 : Int32))), .val (.ref b13), .val (.long (0 : Int64)), .second, .val (.int (1 : Int32)), .val (.int (1 : Int32)), .unset] [(.ref b7), (.ref b13)]))
      obtain ⟨cq50, kq50, q50a, q50b, q50c⟩ := isOf hZ24 e49 Fq42_0
      obtain ⟨_, _, ⟨T50, L50, k50, n50⟩, -, X50, ⟨Lc50, hQ50, l50, y50, z50⟩, st50⟩ := X49.virtualBack hx (y := (⟨"com/example/offst/offst/group/Member", "assign", "([B)V"⟩ : MethodName)) (z := (⟨"com/example/offst/offst/group/Member", "assign", "([B)V"⟩ : MethodName)) hO24 (mvT hZ24 (hw _ (List.mem_of_getElem? (i := 35) rfl))) (mvT hZ24 (hw _ (List.mem_of_getElem? (i := 36) rfl))) (notFace_of_selects (args := #[]) (mvT hZ24 (hw _ (List.mem_of_getElem? (i := 38) rfl)))) (mvT hZ24 (hw _ (List.mem_of_getElem? (i := 38) rfl))) (mvT hZ24 (hw _ (List.mem_of_getElem? (i := 37) rfl))) (by decide) (backOf (W := 0) (own_assign l Z a0 hw [] b13 b7 b3 k7 k3 (p2 &&& (7 : Int32)) (p1 &&& (7 : Int32)) ((0 : Int64) + ((p1 &&& (7 : Int32)).toInt64)) T42.heap n0 Z42 Fq42_0 Fq42_1 F47 F45 F44 g_b13) hZ24 (hw _ (List.mem_of_getElem? (i := 39) rfl)) (hw _ (List.mem_of_getElem? (i := 3) rfl)) (by decide) (by decide)) q50a q50c (g := (mkF m 175 #[.val (.long p0), .second, .val (.int p1), .val (.int p2), .val (.int p3), .val (.int (p1 &&& (7 : Int32))), .val (.int (p2 &&& (7 : Int32))), .val (.int (0 : Int32)), .val (.int (0 : Int32)), .val (.ref b3), .val (.ref b7), .val (.int (p2 &&& (7 : Int32))), .val (.ref b13), .val (.long (0 : Int64)), .second, .val (.int (1 : Int32)), .val (.int (1 : Int32)), .unset] [(.ref b7), (.ref b13)])) rfl (by rw [hml]; rfl) (Steps.refl _) (argsL := [(.ref b7)]) (rest := []) (lenOf own_pd52 rfl) rfl (by show 2 * 0 + _ ≤ _; exact Nat.le_of_eq rfl) (hb hby at_175) (fun _ _ => ⟨rfl, e49, (by decide : 5 + 0 ≤ _), (by decide : 29 + 0 ≤ _)⟩)
      dsimp only [Pt.U, Pt.locs, Pt.cells, Pt.slots] at X50 l50 y50 z50 st50 hQ50
      subst l50 y50 z50
      obtain ⟨rfl, Nq50, Kq50, Fq50_0, Fq50_1, Fq50_2⟩ := hQ50
      have N50 := Fr.app N49 Nq50
      have F51 : Old Z n0 T50.heap := F43.keep Kq50 (allS g_b13 all0)
      have F52 : Arv Z T50.heap b3 k3 .byte (p1 &&& (7 : Int32)) [] (.int (0 : Int32)) := F44.keep Kq50 (ninS ne14 nin0)
      have F53 : Arv Z T50.heap b7 k7 .byte (p2 &&& (7 : Int32)) [] (.int (0 : Int32)) := F45.keep Kq50 (ninS ne15 nin0)
      have F54 : Exa Z T50.heap b13 "com/example/offst/offst/group/Member" := Fq42_0.keep Kq50
      have K50 : Keep h0 T50.heap [] := K42.trans Kq50 (allS (Or.inr sz_b13) all0)
      have Z50 : n0 ≤ T50.heap.size := Nat.le_trans Z42 Kq50.1
      have hk50 : _ ≤ T50.heap.size := Nat.le_trans hk42 Kq50.1
      refine own_go (fun t k => st50.trans k) ?_
      show OwnG p.tables e below _ (T50.setTop (mkF m 178 #[.val (.long p0), .second, .val (.int p1), .val (.int p2), .val (.int p3), .val (.int (p1 &&& (7 : Int32))), .val (.int (p2 &&& (7 : Int32))), .val (.int (0 : Int32)), .val (.int (0 : Int32)), .val (.ref b3), .val (.ref b7), .val (.int (p2 &&& (7 : Int32))), .val (.ref b13), .val (.long (0 : Int64)), .second, .val (.int (1 : Int32)), .val (.int (1 : Int32)), .unset] []))
      have F55 : Fld Z T50.heap b13 "com/example/offst/offst/group/Member" "heldBytes" "J" (.long ((0 : Int64) + ((p2 &&& (7 : Int32)).toInt64))) := by rw [show ((0 : Int64) + ((p2 &&& (7 : Int32)).toInt64)) = _ from own_second (0 : Int64) p1 p2]; exact Fq50_2
      refine own_go (fun t k => XS.aload X50.here hx rfl (hb hby at_178) rfl rfl k) ?_
      show OwnG p.tables e below _ (T50.setTop (mkF m 180 #[.val (.long p0), .second, .val (.int p1), .val (.int p2), .val (.int p3), .val (.int (p1 &&& (7 : Int32))), .val (.int (p2 &&& (7 : Int32))), .val (.int (0 : Int32)), .val (.int (0 : Int32)), .val (.ref b3), .val (.ref b7), .val (.int (p2 &&& (7 : Int32))), .val (.ref b13), .val (.long (0 : Int64)), .second, .val (.int (1 : Int32)), .val (.int (1 : Int32)), .unset] [(.ref b13)]))
      obtain ⟨cq56, kq56, q56a, q56b, q56c⟩ := isOf hZ24 rfl Fq50_0
      obtain ⟨_, _, ⟨T56, L56, k56, n56⟩, -, X56, ⟨Lc56, hQ56, l56, y56, z56⟩, st56⟩ := X50.virtualBack hx (y := (⟨"com/example/offst/offst/group/Member", "heldBytes", "()J"⟩ : MethodName)) (z := (⟨"com/example/offst/offst/group/Member", "heldBytes", "()J"⟩ : MethodName)) hO24 (mvT hZ24 (hw _ (List.mem_of_getElem? (i := 28) rfl))) (mvT hZ24 (hw _ (List.mem_of_getElem? (i := 29) rfl))) (notFace_of_selects (args := #[]) (mvT hZ24 (hw _ (List.mem_of_getElem? (i := 31) rfl)))) (mvT hZ24 (hw _ (List.mem_of_getElem? (i := 31) rfl))) (mvT hZ24 (hw _ (List.mem_of_getElem? (i := 30) rfl))) (by decide) (backOf (W := 0) (own_held l Z a0 hw [] b13 ((0 : Int64) + ((p2 &&& (7 : Int32)).toInt64)) T50.heap n0 Z50 F55) hZ24 (hw _ (List.mem_of_getElem? (i := 32) rfl)) (hw _ (List.mem_of_getElem? (i := 3) rfl)) (by decide) (by decide)) q56a q56c (g := (mkF m 180 #[.val (.long p0), .second, .val (.int p1), .val (.int p2), .val (.int p3), .val (.int (p1 &&& (7 : Int32))), .val (.int (p2 &&& (7 : Int32))), .val (.int (0 : Int32)), .val (.int (0 : Int32)), .val (.ref b3), .val (.ref b7), .val (.int (p2 &&& (7 : Int32))), .val (.ref b13), .val (.long (0 : Int64)), .second, .val (.int (1 : Int32)), .val (.int (1 : Int32)), .unset] [(.ref b13)])) rfl (by rw [hml]; rfl) (Steps.refl _) (argsL := []) (rest := []) (lenOf own_pd51 rfl) rfl (by show 2 * 0 + _ ≤ _; exact Nat.le_of_eq rfl) (hb hby at_180) (fun _ _ => ⟨rfl, rfl, (by decide : 5 + 0 ≤ _), (by decide : 29 + 0 ≤ _)⟩)
      dsimp only [Pt.U, Pt.locs, Pt.cells, Pt.slots] at X56 l56 y56 z56 st56 hQ56
      subst l56 y56 z56
      obtain ⟨rfl, Nq56, eq56⟩ := hQ56
      have N56 := Fr.app N50 Nq56
      have e56 : T56.heap = T50.heap := eq56
      refine own_go (fun t k => st56.trans k) ?_
      show OwnG p.tables e below _ (T56.setTop (mkF m 183 #[.val (.long p0), .second, .val (.int p1), .val (.int p2), .val (.int p3), .val (.int (p1 &&& (7 : Int32))), .val (.int (p2 &&& (7 : Int32))), .val (.int (0 : Int32)), .val (.int (0 : Int32)), .val (.ref b3), .val (.ref b7), .val (.int (p2 &&& (7 : Int32))), .val (.ref b13), .val (.long (0 : Int64)), .second, .val (.int (1 : Int32)), .val (.int (1 : Int32)), .unset] [(.long ((0 : Int64) + ((p2 &&& (7 : Int32)).toInt64)))]))
      refine own_go (fun t k => XS.lload X56.here hx rfl (hb hby at_183) rfl  k) ?_
      show OwnG p.tables e below _ (T56.setTop (mkF m 185 #[.val (.long p0), .second, .val (.int p1), .val (.int p2), .val (.int p3), .val (.int (p1 &&& (7 : Int32))), .val (.int (p2 &&& (7 : Int32))), .val (.int (0 : Int32)), .val (.int (0 : Int32)), .val (.ref b3), .val (.ref b7), .val (.int (p2 &&& (7 : Int32))), .val (.ref b13), .val (.long (0 : Int64)), .second, .val (.int (1 : Int32)), .val (.int (1 : Int32)), .unset] [(.long (0 : Int64)), (.long ((0 : Int64) + ((p2 &&& (7 : Int32)).toInt64)))]))
      refine own_go (fun t k => XS.iload X56.here hx rfl (hb hby at_185) rfl  k) ?_
      show OwnG p.tables e below _ (T56.setTop (mkF m 187 #[.val (.long p0), .second, .val (.int p1), .val (.int p2), .val (.int p3), .val (.int (p1 &&& (7 : Int32))), .val (.int (p2 &&& (7 : Int32))), .val (.int (0 : Int32)), .val (.int (0 : Int32)), .val (.ref b3), .val (.ref b7), .val (.int (p2 &&& (7 : Int32))), .val (.ref b13), .val (.long (0 : Int64)), .second, .val (.int (1 : Int32)), .val (.int (1 : Int32)), .unset] [(.int (p2 &&& (7 : Int32))), (.long (0 : Int64)), (.long ((0 : Int64) + ((p2 &&& (7 : Int32)).toInt64)))]))
      refine own_go (fun t k => XS.i2l X56.here hx rfl (hb hby at_187) rfl k) ?_
      show OwnG p.tables e below _ (T56.setTop (mkF m 188 #[.val (.long p0), .second, .val (.int p1), .val (.int p2), .val (.int p3), .val (.int (p1 &&& (7 : Int32))), .val (.int (p2 &&& (7 : Int32))), .val (.int (0 : Int32)), .val (.int (0 : Int32)), .val (.ref b3), .val (.ref b7), .val (.int (p2 &&& (7 : Int32))), .val (.ref b13), .val (.long (0 : Int64)), .second, .val (.int (1 : Int32)), .val (.int (1 : Int32)), .unset] [(.long ((p2 &&& (7 : Int32)).toInt64)), (.long (0 : Int64)), (.long ((0 : Int64) + ((p2 &&& (7 : Int32)).toInt64)))]))
      refine own_go (fun t k => XS.ladd X56.here hx rfl (hb hby at_188) rfl k) ?_
      show OwnG p.tables e below _ (T56.setTop (mkF m 189 #[.val (.long p0), .second, .val (.int p1), .val (.int p2), .val (.int p3), .val (.int (p1 &&& (7 : Int32))), .val (.int (p2 &&& (7 : Int32))), .val (.int (0 : Int32)), .val (.int (0 : Int32)), .val (.ref b3), .val (.ref b7), .val (.int (p2 &&& (7 : Int32))), .val (.ref b13), .val (.long (0 : Int64)), .second, .val (.int (1 : Int32)), .val (.int (1 : Int32)), .unset] [(.long ((0 : Int64) + ((p2 &&& (7 : Int32)).toInt64))), (.long ((0 : Int64) + ((p2 &&& (7 : Int32)).toInt64)))]))
      refine own_go (fun t k => XS.lcmp X56.here hx rfl (hb hby at_189) rfl k) ?_
      show OwnG p.tables e below _ (T56.setTop (mkF m 190 #[.val (.long p0), .second, .val (.int p1), .val (.int p2), .val (.int p3), .val (.int (p1 &&& (7 : Int32))), .val (.int (p2 &&& (7 : Int32))), .val (.int (0 : Int32)), .val (.int (0 : Int32)), .val (.ref b3), .val (.ref b7), .val (.int (p2 &&& (7 : Int32))), .val (.ref b13), .val (.long (0 : Int64)), .second, .val (.int (1 : Int32)), .val (.int (1 : Int32)), .unset] [(.int (lcmpW ((0 : Int64) + ((p2 &&& (7 : Int32)).toInt64)) ((0 : Int64) + ((p2 &&& (7 : Int32)).toInt64))))]))
      refine own_go (fun t k => XS.ifNo X56.here hx rfl (hb hby at_190) rfl ((if0 _ _).trans (teq ((lw_eq _ _).mpr (rfl : ((0 : Int64) + ((p2 &&& (7 : Int32)).toInt64)) = ((0 : Int64) + ((p2 &&& (7 : Int32)).toInt64))))).2) k) ?_
      show OwnG p.tables e below _ (T56.setTop (mkF m 193 #[.val (.long p0), .second, .val (.int p1), .val (.int p2), .val (.int p3), .val (.int (p1 &&& (7 : Int32))), .val (.int (p2 &&& (7 : Int32))), .val (.int (0 : Int32)), .val (.int (0 : Int32)), .val (.ref b3), .val (.ref b7), .val (.int (p2 &&& (7 : Int32))), .val (.ref b13), .val (.long (0 : Int64)), .second, .val (.int (1 : Int32)), .val (.int (1 : Int32)), .unset] []))
      refine own_go (fun t k => XS.aload X56.here hx rfl (hb hby at_193) rfl rfl k) ?_
      show OwnG p.tables e below _ (T56.setTop (mkF m 195 #[.val (.long p0), .second, .val (.int p1), .val (.int p2), .val (.int p3), .val (.int (p1 &&& (7 : Int32))), .val (.int (p2 &&& (7 : Int32))), .val (.int (0 : Int32)), .val (.int (0 : Int32)), .val (.ref b3), .val (.ref b7), .val (.int (p2 &&& (7 : Int32))), .val (.ref b13), .val (.long (0 : Int64)), .second, .val (.int (1 : Int32)), .val (.int (1 : Int32)), .unset] [(.ref b13)]))
      obtain ⟨cq57, kq57, q57a, q57b, q57c⟩ := isOf hZ24 e56 Fq50_0
      obtain ⟨_, _, ⟨T57, L57, k57, n57⟩, -, X57, ⟨Lc57, hQ57, l57, y57, z57⟩, st57⟩ := X56.virtualBack hx (y := (⟨"com/example/offst/offst/group/Member", "assignment", "()[B"⟩ : MethodName)) (z := (⟨"com/example/offst/offst/group/Member", "assignment", "()[B"⟩ : MethodName)) hO24 (mvT hZ24 (hw _ (List.mem_of_getElem? (i := 23) rfl))) (mvT hZ24 (hw _ (List.mem_of_getElem? (i := 24) rfl))) (notFace_of_selects (args := #[]) (mvT hZ24 (hw _ (List.mem_of_getElem? (i := 26) rfl)))) (mvT hZ24 (hw _ (List.mem_of_getElem? (i := 26) rfl))) (mvT hZ24 (hw _ (List.mem_of_getElem? (i := 25) rfl))) (by decide) (backOf (W := 0) (own_assignment l Z a0 hw [] b13 b7 T50.heap n0 Z50 Fq50_1) hZ24 (hw _ (List.mem_of_getElem? (i := 27) rfl)) (hw _ (List.mem_of_getElem? (i := 3) rfl)) (by decide) (by decide)) q57a q57c (g := (mkF m 195 #[.val (.long p0), .second, .val (.int p1), .val (.int p2), .val (.int p3), .val (.int (p1 &&& (7 : Int32))), .val (.int (p2 &&& (7 : Int32))), .val (.int (0 : Int32)), .val (.int (0 : Int32)), .val (.ref b3), .val (.ref b7), .val (.int (p2 &&& (7 : Int32))), .val (.ref b13), .val (.long (0 : Int64)), .second, .val (.int (1 : Int32)), .val (.int (1 : Int32)), .unset] [(.ref b13)])) rfl (by rw [hml]; rfl) (Steps.refl _) (argsL := []) (rest := []) (lenOf own_pd50 rfl) rfl (by show 2 * 0 + _ ≤ _; exact Nat.le_of_eq rfl) (hb hby at_195) (fun _ _ => ⟨rfl, e56, (by decide : 5 + 0 ≤ _), (by decide : 29 + 0 ≤ _)⟩)
      dsimp only [Pt.U, Pt.locs, Pt.cells, Pt.slots] at X57 l57 y57 z57 st57 hQ57
      subst l57 y57 z57
      obtain ⟨rfl, Nq57, eq57⟩ := hQ57
      have N57 := Fr.app N56 Nq57
      have e57 : T57.heap = T50.heap := eq57
      refine own_go (fun t k => st57.trans k) ?_
      show OwnG p.tables e below _ (T57.setTop (mkF m 198 #[.val (.long p0), .second, .val (.int p1), .val (.int p2), .val (.int p3), .val (.int (p1 &&& (7 : Int32))), .val (.int (p2 &&& (7 : Int32))), .val (.int (0 : Int32)), .val (.int (0 : Int32)), .val (.ref b3), .val (.ref b7), .val (.int (p2 &&& (7 : Int32))), .val (.ref b13), .val (.long (0 : Int64)), .second, .val (.int (1 : Int32)), .val (.int (1 : Int32)), .unset] [(.ref b7)]))
      refine own_go (fun t k => XS.aload X57.here hx rfl (hb hby at_198) rfl rfl k) ?_
      show OwnG p.tables e below _ (T57.setTop (mkF m 200 #[.val (.long p0), .second, .val (.int p1), .val (.int p2), .val (.int p3), .val (.int (p1 &&& (7 : Int32))), .val (.int (p2 &&& (7 : Int32))), .val (.int (0 : Int32)), .val (.int (0 : Int32)), .val (.ref b3), .val (.ref b7), .val (.int (p2 &&& (7 : Int32))), .val (.ref b13), .val (.long (0 : Int64)), .second, .val (.int (1 : Int32)), .val (.int (1 : Int32)), .unset] [(.ref b7), (.ref b7)]))
      refine own_go (fun t k => Jvm.RoadKit.acmp (g := (mkF m 200 #[.val (.long p0), .second, .val (.int p1), .val (.int p2), .val (.int p3), .val (.int (p1 &&& (7 : Int32))), .val (.int (p2 &&& (7 : Int32))), .val (.int (0 : Int32)), .val (.int (0 : Int32)), .val (.ref b3), .val (.ref b7), .val (.int (p2 &&& (7 : Int32))), .val (.ref b13), .val (.long (0 : Int64)), .second, .val (.int (1 : Int32)), .val (.int (1 : Int32)), .unset] [(.ref b7), (.ref b7)])) X57 hx rfl rfl rfl (pc0 := 200) (pc' := 203) (same := true) rfl (hb hby at_200) rfl (decide_eq_true rfl) (by decide) (by decide) k) ?_
      show OwnG p.tables e below _ (T57.setTop (mkF m 203 #[.val (.long p0), .second, .val (.int p1), .val (.int p2), .val (.int p3), .val (.int (p1 &&& (7 : Int32))), .val (.int (p2 &&& (7 : Int32))), .val (.int (0 : Int32)), .val (.int (0 : Int32)), .val (.ref b3), .val (.ref b7), .val (.int (p2 &&& (7 : Int32))), .val (.ref b13), .val (.long (0 : Int64)), .second, .val (.int (1 : Int32)), .val (.int (1 : Int32)), .unset] []))
      refine own_go (fun t k => XS.iconst X57.here hx rfl (hb hby at_203) k) ?_
      show OwnG p.tables e below _ (T57.setTop (mkF m 204 #[.val (.long p0), .second, .val (.int p1), .val (.int p2), .val (.int p3), .val (.int (p1 &&& (7 : Int32))), .val (.int (p2 &&& (7 : Int32))), .val (.int (0 : Int32)), .val (.int (0 : Int32)), .val (.ref b3), .val (.ref b7), .val (.int (p2 &&& (7 : Int32))), .val (.ref b13), .val (.long (0 : Int64)), .second, .val (.int (1 : Int32)), .val (.int (1 : Int32)), .unset] [(.int (1 : Int32))]))
      refine own_go (fun t k => XS.goto X57.here hx rfl (pc0 := 204) (pc' := 208) rfl (hb hby at_204) (by decide) (by decide) k) ?_
      show OwnG p.tables e below _ (T57.setTop (mkF m 208 #[.val (.long p0), .second, .val (.int p1), .val (.int p2), .val (.int p3), .val (.int (p1 &&& (7 : Int32))), .val (.int (p2 &&& (7 : Int32))), .val (.int (0 : Int32)), .val (.int (0 : Int32)), .val (.ref b3), .val (.ref b7), .val (.int (p2 &&& (7 : Int32))), .val (.ref b13), .val (.long (0 : Int64)), .second, .val (.int (1 : Int32)), .val (.int (1 : Int32)), .unset] [(.int (1 : Int32))]))
      refine own_go (fun t k => XS.istore X57.here hx rfl (hb hby at_208) rfl (l' := #[.val (.long p0), .second, .val (.int p1), .val (.int p2), .val (.int p3), .val (.int (p1 &&& (7 : Int32))), .val (.int (p2 &&& (7 : Int32))), .val (.int (0 : Int32)), .val (.int (0 : Int32)), .val (.ref b3), .val (.ref b7), .val (.int (p2 &&& (7 : Int32))), .val (.ref b13), .val (.long (0 : Int64)), .second, .val (.int (1 : Int32)), .val (.int (1 : Int32)), .val (.int (1 : Int32))]) rfl k) ?_
      show OwnG p.tables e below _ (T57.setTop (mkF m 210 #[.val (.long p0), .second, .val (.int p1), .val (.int p2), .val (.int p3), .val (.int (p1 &&& (7 : Int32))), .val (.int (p2 &&& (7 : Int32))), .val (.int (0 : Int32)), .val (.int (0 : Int32)), .val (.ref b3), .val (.ref b7), .val (.int (p2 &&& (7 : Int32))), .val (.ref b13), .val (.long (0 : Int64)), .second, .val (.int (1 : Int32)), .val (.int (1 : Int32)), .val (.int (1 : Int32))] []))
      refine own_go (fun t k => XS.iload X57.here hx rfl (hb hby at_210) rfl  k) ?_
      show OwnG p.tables e below _ (T57.setTop (mkF m 212 #[.val (.long p0), .second, .val (.int p1), .val (.int p2), .val (.int p3), .val (.int (p1 &&& (7 : Int32))), .val (.int (p2 &&& (7 : Int32))), .val (.int (0 : Int32)), .val (.int (0 : Int32)), .val (.ref b3), .val (.ref b7), .val (.int (p2 &&& (7 : Int32))), .val (.ref b13), .val (.long (0 : Int64)), .second, .val (.int (1 : Int32)), .val (.int (1 : Int32)), .val (.int (1 : Int32))] [(.int (1 : Int32))]))
      refine own_go (fun t k => XS.ifNo X57.here hx rfl (hb hby at_212) rfl ((if0 _ _).trans (feq (by decide : ¬ ((1 : Int32) = (0 : Int32)))).1) k) ?_
      show OwnG p.tables e below _ (T57.setTop (mkF m 215 #[.val (.long p0), .second, .val (.int p1), .val (.int p2), .val (.int p3), .val (.int (p1 &&& (7 : Int32))), .val (.int (p2 &&& (7 : Int32))), .val (.int (0 : Int32)), .val (.int (0 : Int32)), .val (.ref b3), .val (.ref b7), .val (.int (p2 &&& (7 : Int32))), .val (.ref b13), .val (.long (0 : Int64)), .second, .val (.int (1 : Int32)), .val (.int (1 : Int32)), .val (.int (1 : Int32))] []))
      refine own_go (fun t k => XS.iload X57.here hx rfl (hb hby at_215) rfl  k) ?_
      show OwnG p.tables e below _ (T57.setTop (mkF m 217 #[.val (.long p0), .second, .val (.int p1), .val (.int p2), .val (.int p3), .val (.int (p1 &&& (7 : Int32))), .val (.int (p2 &&& (7 : Int32))), .val (.int (0 : Int32)), .val (.int (0 : Int32)), .val (.ref b3), .val (.ref b7), .val (.int (p2 &&& (7 : Int32))), .val (.ref b13), .val (.long (0 : Int64)), .second, .val (.int (1 : Int32)), .val (.int (1 : Int32)), .val (.int (1 : Int32))] [(.int (1 : Int32))]))
      refine own_go (fun t k => XS.ifNo X57.here hx rfl (hb hby at_217) rfl ((if0 _ _).trans (feq (by decide : ¬ ((1 : Int32) = (0 : Int32)))).1) k) ?_
      show OwnG p.tables e below _ (T57.setTop (mkF m 220 #[.val (.long p0), .second, .val (.int p1), .val (.int p2), .val (.int p3), .val (.int (p1 &&& (7 : Int32))), .val (.int (p2 &&& (7 : Int32))), .val (.int (0 : Int32)), .val (.int (0 : Int32)), .val (.ref b3), .val (.ref b7), .val (.int (p2 &&& (7 : Int32))), .val (.ref b13), .val (.long (0 : Int64)), .second, .val (.int (1 : Int32)), .val (.int (1 : Int32)), .val (.int (1 : Int32))] []))
      refine own_go (fun t k => XS.iload X57.here hx rfl (hb hby at_220) rfl  k) ?_
      show OwnG p.tables e below _ (T57.setTop (mkF m 222 #[.val (.long p0), .second, .val (.int p1), .val (.int p2), .val (.int p3), .val (.int (p1 &&& (7 : Int32))), .val (.int (p2 &&& (7 : Int32))), .val (.int (0 : Int32)), .val (.int (0 : Int32)), .val (.ref b3), .val (.ref b7), .val (.int (p2 &&& (7 : Int32))), .val (.ref b13), .val (.long (0 : Int64)), .second, .val (.int (1 : Int32)), .val (.int (1 : Int32)), .val (.int (1 : Int32))] [(.int (1 : Int32))]))
      refine own_go (fun t k => XS.ifNo X57.here hx rfl (hb hby at_222) rfl ((if0 _ _).trans (feq (by decide : ¬ ((1 : Int32) = (0 : Int32)))).1) k) ?_
      show OwnG p.tables e below _ (T57.setTop (mkF m 225 #[.val (.long p0), .second, .val (.int p1), .val (.int p2), .val (.int p3), .val (.int (p1 &&& (7 : Int32))), .val (.int (p2 &&& (7 : Int32))), .val (.int (0 : Int32)), .val (.int (0 : Int32)), .val (.ref b3), .val (.ref b7), .val (.int (p2 &&& (7 : Int32))), .val (.ref b13), .val (.long (0 : Int64)), .second, .val (.int (1 : Int32)), .val (.int (1 : Int32)), .val (.int (1 : Int32))] []))
      refine own_go (fun t k => XS.iconst X57.here hx rfl (hb hby at_225) k) ?_
      show OwnG p.tables e below _ (T57.setTop (mkF m 226 #[.val (.long p0), .second, .val (.int p1), .val (.int p2), .val (.int p3), .val (.int (p1 &&& (7 : Int32))), .val (.int (p2 &&& (7 : Int32))), .val (.int (0 : Int32)), .val (.int (0 : Int32)), .val (.ref b3), .val (.ref b7), .val (.int (p2 &&& (7 : Int32))), .val (.ref b13), .val (.long (0 : Int64)), .second, .val (.int (1 : Int32)), .val (.int (1 : Int32)), .val (.int (1 : Int32))] [(.int (1 : Int32))]))
      refine own_go (fun t k => XS.goto X57.here hx rfl (pc0 := 226) (pc' := 230) rfl (hb hby at_226) (by decide) (by decide) k) ?_
      show OwnG p.tables e below _ (T57.setTop (mkF m 230 #[.val (.long p0), .second, .val (.int p1), .val (.int p2), .val (.int p3), .val (.int (p1 &&& (7 : Int32))), .val (.int (p2 &&& (7 : Int32))), .val (.int (0 : Int32)), .val (.int (0 : Int32)), .val (.ref b3), .val (.ref b7), .val (.int (p2 &&& (7 : Int32))), .val (.ref b13), .val (.long (0 : Int64)), .second, .val (.int (1 : Int32)), .val (.int (1 : Int32)), .val (.int (1 : Int32))] [(.int (1 : Int32))]))
      obtain ⟨fs, hr, hrun, hended, ⟨-, hW2, hW3, hsame⟩⟩ := Jvm.Stand.leaveW (s := s) (vm₁ := T24.vm) X57 S24 (show _ ≤ T57.heap.size from by rw [e57]; exact hk50) (v := some (.int (1 : Int32))) (fun h => by rw [Bd.returns] at h; cases h)
      refine ⟨_, _, retN X57 hx (t := .boolean) Bd.returns (by simp) (hb hby at_230) hr, hrun, hended, _, _, rfl, ?_, ⟨_, rfl⟩, hW2, hW3, hsame.mono (by decide) (by decide)⟩
      show Q_own_law Z p0 p1 p2 p3 o_NO_ASSIGNMENT kc_o_NO_ASSIGNMENT h0 n0 _ T57.heap _
      rw [e57]
      exact ⟨rfl, N57⟩
    · refine own_go (fun t k => XS.ifNo X0.here hx rfl (hb hby at_30) rfl ((if0 _ _).trans (feq hc2).1) k) ?_
      show OwnG p.tables e below _ (s₁.setTop (mkF m 33 #[.val (.long p0), .second, .val (.int p1), .val (.int p2), .val (.int p3), .val (.int (p1 &&& (7 : Int32))), .val (.int (p2 &&& (7 : Int32))), .val (.int (0 : Int32)), .unset, .unset, .unset, .unset, .unset, .unset, .unset, .unset, .unset, .unset] []))
      refine own_go (fun t k => XS.iconst X0.here hx rfl (hb hby at_33) k) ?_
      show OwnG p.tables e below _ (s₁.setTop (mkF m 34 #[.val (.long p0), .second, .val (.int p1), .val (.int p2), .val (.int p3), .val (.int (p1 &&& (7 : Int32))), .val (.int (p2 &&& (7 : Int32))), .val (.int (0 : Int32)), .unset, .unset, .unset, .unset, .unset, .unset, .unset, .unset, .unset, .unset] [(.int (1 : Int32))]))
      refine own_go (fun t k => XS.goto X0.here hx rfl (pc0 := 34) (pc' := 38) rfl (hb hby at_34) (by decide) (by decide) k) ?_
      show OwnG p.tables e below _ (s₁.setTop (mkF m 38 #[.val (.long p0), .second, .val (.int p1), .val (.int p2), .val (.int p3), .val (.int (p1 &&& (7 : Int32))), .val (.int (p2 &&& (7 : Int32))), .val (.int (0 : Int32)), .unset, .unset, .unset, .unset, .unset, .unset, .unset, .unset, .unset, .unset] [(.int (1 : Int32))]))
      refine own_go (fun t k => XS.istore X0.here hx rfl (hb hby at_38) rfl (l' := #[.val (.long p0), .second, .val (.int p1), .val (.int p2), .val (.int p3), .val (.int (p1 &&& (7 : Int32))), .val (.int (p2 &&& (7 : Int32))), .val (.int (0 : Int32)), .val (.int (1 : Int32)), .unset, .unset, .unset, .unset, .unset, .unset, .unset, .unset, .unset]) rfl k) ?_
      show OwnG p.tables e below _ (s₁.setTop (mkF m 40 #[.val (.long p0), .second, .val (.int p1), .val (.int p2), .val (.int p3), .val (.int (p1 &&& (7 : Int32))), .val (.int (p2 &&& (7 : Int32))), .val (.int (0 : Int32)), .val (.int (1 : Int32)), .unset, .unset, .unset, .unset, .unset, .unset, .unset, .unset, .unset] []))
      refine own_go (fun t k => XS.iload X0.here hx rfl (hb hby at_40) rfl  k) ?_
      show OwnG p.tables e below _ (s₁.setTop (mkF m 42 #[.val (.long p0), .second, .val (.int p1), .val (.int p2), .val (.int p3), .val (.int (p1 &&& (7 : Int32))), .val (.int (p2 &&& (7 : Int32))), .val (.int (0 : Int32)), .val (.int (1 : Int32)), .unset, .unset, .unset, .unset, .unset, .unset, .unset, .unset, .unset] [(.int (p1 &&& (7 : Int32)))]))
      obtain ⟨T58, h58, k58, X58, e58, E58, A58, st58⟩ := newP X0 hx hZ (hw _ (List.mem_of_getElem? (i := 0) rfl)) e0 (g := (mkF m 42 #[.val (.long p0), .second, .val (.int p1), .val (.int p2), .val (.int p3), .val (.int (p1 &&& (7 : Int32))), .val (.int (p2 &&& (7 : Int32))), .val (.int (0 : Int32)), .val (.int (1 : Int32)), .unset, .unset, .unset, .unset, .unset, .unset, .unset, .unset, .unset] [(.int (p1 &&& (7 : Int32)))])) rfl (hb hby at_42) rfl (own_m7 p1).1 (cap := 7) (own_m7 p1).2 (by decide) (by decide) (by decide)
      obtain ⟨b58, g58⟩ : ∃ z, z = h0.size := ⟨_, rfl⟩
      rw [← g58] at A58 st58
      have g_b58 : n0 ≤ b58 := Nat.le_trans Z0 (Nat.le_of_eq g58.symm)
      have sz_b58 : h0.size ≤ b58 := Nat.le_trans K0.1 (Nat.le_of_eq g58.symm)
      have F59 : Old Z n0 h58 := O0.ext E58
      have K60 : Keep h0 h58 [] := K0.ext E58
      have Z60 : n0 ≤ h58.size := Nat.le_trans Z0 E58.1
      have F61 : Arv Z h58 b58 k58 .byte (p1 &&& (7 : Int32)) [] (.int (0 : Int32)) := Arv.new A58 (own_m7 p1).1
      refine own_go (fun t k => st58 t k) ?_
      show OwnG p.tables e below _ (T58.setTop (mkF m 44 #[.val (.long p0), .second, .val (.int p1), .val (.int p2), .val (.int p3), .val (.int (p1 &&& (7 : Int32))), .val (.int (p2 &&& (7 : Int32))), .val (.int (0 : Int32)), .val (.int (1 : Int32)), .unset, .unset, .unset, .unset, .unset, .unset, .unset, .unset, .unset] [(.ref b58)]))
      refine own_go (fun t k => XS.astore X58.here hx rfl (hb hby at_44) rfl rfl (l' := #[.val (.long p0), .second, .val (.int p1), .val (.int p2), .val (.int p3), .val (.int (p1 &&& (7 : Int32))), .val (.int (p2 &&& (7 : Int32))), .val (.int (0 : Int32)), .val (.int (1 : Int32)), .val (.ref b58), .unset, .unset, .unset, .unset, .unset, .unset, .unset, .unset]) rfl k) ?_
      show OwnG p.tables e below _ (T58.setTop (mkF m 46 #[.val (.long p0), .second, .val (.int p1), .val (.int p2), .val (.int p3), .val (.int (p1 &&& (7 : Int32))), .val (.int (p2 &&& (7 : Int32))), .val (.int (0 : Int32)), .val (.int (1 : Int32)), .val (.ref b58), .unset, .unset, .unset, .unset, .unset, .unset, .unset, .unset] []))
      refine own_go (fun t k => XS.iload X58.here hx rfl (hb hby at_46) rfl  k) ?_
      show OwnG p.tables e below _ (T58.setTop (mkF m 48 #[.val (.long p0), .second, .val (.int p1), .val (.int p2), .val (.int p3), .val (.int (p1 &&& (7 : Int32))), .val (.int (p2 &&& (7 : Int32))), .val (.int (0 : Int32)), .val (.int (1 : Int32)), .val (.ref b58), .unset, .unset, .unset, .unset, .unset, .unset, .unset, .unset] [(.int (1 : Int32))]))
      refine own_go (fun t k => XS.ifNo X58.here hx rfl (hb hby at_48) rfl ((if0 _ _).trans (feq (by decide : ¬ ((1 : Int32) = (0 : Int32)))).1) k) ?_
      show OwnG p.tables e below _ (T58.setTop (mkF m 51 #[.val (.long p0), .second, .val (.int p1), .val (.int p2), .val (.int p3), .val (.int (p1 &&& (7 : Int32))), .val (.int (p2 &&& (7 : Int32))), .val (.int (0 : Int32)), .val (.int (1 : Int32)), .val (.ref b58), .unset, .unset, .unset, .unset, .unset, .unset, .unset, .unset] []))
      refine own_go (fun t k => XS.aload X58.here hx rfl (hb hby at_51) rfl rfl k) ?_
      show OwnG p.tables e below _ (T58.setTop (mkF m 53 #[.val (.long p0), .second, .val (.int p1), .val (.int p2), .val (.int p3), .val (.int (p1 &&& (7 : Int32))), .val (.int (p2 &&& (7 : Int32))), .val (.int (0 : Int32)), .val (.int (1 : Int32)), .val (.ref b58), .unset, .unset, .unset, .unset, .unset, .unset, .unset, .unset] [(.ref b58)]))
      refine own_go (fun t k => XS.goto X58.here hx rfl (pc0 := 53) (pc' := 60) rfl (hb hby at_53) (by decide) (by decide) k) ?_
      show OwnG p.tables e below _ (T58.setTop (mkF m 60 #[.val (.long p0), .second, .val (.int p1), .val (.int p2), .val (.int p3), .val (.int (p1 &&& (7 : Int32))), .val (.int (p2 &&& (7 : Int32))), .val (.int (0 : Int32)), .val (.int (1 : Int32)), .val (.ref b58), .unset, .unset, .unset, .unset, .unset, .unset, .unset, .unset] [(.ref b58)]))
      refine own_go (fun t k => XS.astore X58.here hx rfl (hb hby at_60) rfl rfl (l' := #[.val (.long p0), .second, .val (.int p1), .val (.int p2), .val (.int p3), .val (.int (p1 &&& (7 : Int32))), .val (.int (p2 &&& (7 : Int32))), .val (.int (0 : Int32)), .val (.int (1 : Int32)), .val (.ref b58), .val (.ref b58), .unset, .unset, .unset, .unset, .unset, .unset, .unset]) rfl k) ?_
      show OwnG p.tables e below _ (T58.setTop (mkF m 62 #[.val (.long p0), .second, .val (.int p1), .val (.int p2), .val (.int p3), .val (.int (p1 &&& (7 : Int32))), .val (.int (p2 &&& (7 : Int32))), .val (.int (0 : Int32)), .val (.int (1 : Int32)), .val (.ref b58), .val (.ref b58), .unset, .unset, .unset, .unset, .unset, .unset, .unset] []))
      refine own_go (fun t k => XS.iload X58.here hx rfl (hb hby at_62) rfl  k) ?_
      show OwnG p.tables e below _ (T58.setTop (mkF m 64 #[.val (.long p0), .second, .val (.int p1), .val (.int p2), .val (.int p3), .val (.int (p1 &&& (7 : Int32))), .val (.int (p2 &&& (7 : Int32))), .val (.int (0 : Int32)), .val (.int (1 : Int32)), .val (.ref b58), .val (.ref b58), .unset, .unset, .unset, .unset, .unset, .unset, .unset] [(.int (1 : Int32))]))
      refine own_go (fun t k => XS.ifNo X58.here hx rfl (hb hby at_64) rfl ((if0 _ _).trans (feq (by decide : ¬ ((1 : Int32) = (0 : Int32)))).1) k) ?_
      show OwnG p.tables e below _ (T58.setTop (mkF m 67 #[.val (.long p0), .second, .val (.int p1), .val (.int p2), .val (.int p3), .val (.int (p1 &&& (7 : Int32))), .val (.int (p2 &&& (7 : Int32))), .val (.int (0 : Int32)), .val (.int (1 : Int32)), .val (.ref b58), .val (.ref b58), .unset, .unset, .unset, .unset, .unset, .unset, .unset] []))
      refine own_go (fun t k => XS.iload X58.here hx rfl (hb hby at_67) rfl  k) ?_
      show OwnG p.tables e below _ (T58.setTop (mkF m 69 #[.val (.long p0), .second, .val (.int p1), .val (.int p2), .val (.int p3), .val (.int (p1 &&& (7 : Int32))), .val (.int (p2 &&& (7 : Int32))), .val (.int (0 : Int32)), .val (.int (1 : Int32)), .val (.ref b58), .val (.ref b58), .unset, .unset, .unset, .unset, .unset, .unset, .unset] [(.int (p1 &&& (7 : Int32)))]))
      refine own_go (fun t k => XS.goto X58.here hx rfl (pc0 := 69) (pc' := 74) rfl (hb hby at_69) (by decide) (by decide) k) ?_
      show OwnG p.tables e below _ (T58.setTop (mkF m 74 #[.val (.long p0), .second, .val (.int p1), .val (.int p2), .val (.int p3), .val (.int (p1 &&& (7 : Int32))), .val (.int (p2 &&& (7 : Int32))), .val (.int (0 : Int32)), .val (.int (1 : Int32)), .val (.ref b58), .val (.ref b58), .unset, .unset, .unset, .unset, .unset, .unset, .unset] [(.int (p1 &&& (7 : Int32)))]))
      refine own_go (fun t k => XS.istore X58.here hx rfl (hb hby at_74) rfl (l' := #[.val (.long p0), .second, .val (.int p1), .val (.int p2), .val (.int p3), .val (.int (p1 &&& (7 : Int32))), .val (.int (p2 &&& (7 : Int32))), .val (.int (0 : Int32)), .val (.int (1 : Int32)), .val (.ref b58), .val (.ref b58), .val (.int (p1 &&& (7 : Int32))), .unset, .unset, .unset, .unset, .unset, .unset]) rfl k) ?_
      show OwnG p.tables e below _ (T58.setTop (mkF m 76 #[.val (.long p0), .second, .val (.int p1), .val (.int p2), .val (.int p3), .val (.int (p1 &&& (7 : Int32))), .val (.int (p2 &&& (7 : Int32))), .val (.int (0 : Int32)), .val (.int (1 : Int32)), .val (.ref b58), .val (.ref b58), .val (.int (p1 &&& (7 : Int32))), .unset, .unset, .unset, .unset, .unset, .unset] []))
      obtain ⟨T62, h62, X62, e62, E62, A62, D62, -, st62⟩ := newO X58 hx hZ hown (hw _ (List.mem_of_getElem? (i := 1) rfl)) (hw _ (List.mem_of_getElem? (i := 2) rfl)) (hw _ (List.mem_of_getElem? (i := 3) rfl)) e58 (g := (mkF m 76 #[.val (.long p0), .second, .val (.int p1), .val (.int p2), .val (.int p3), .val (.int (p1 &&& (7 : Int32))), .val (.int (p2 &&& (7 : Int32))), .val (.int (0 : Int32)), .val (.int (1 : Int32)), .val (.ref b58), .val (.ref b58), .val (.int (p1 &&& (7 : Int32))), .unset, .unset, .unset, .unset, .unset, .unset] [])) rfl (hb hby at_76) (by decide) (by decide)
      obtain ⟨b62, g62⟩ : ∃ z, z = h58.size := ⟨_, rfl⟩
      rw [← g62] at A62 D62 st62
      have ne63 : b58 ≠ b62 := Nat.ne_of_lt (Nat.lt_of_lt_of_le F61.lt (Nat.le_of_eq g62.symm))
      have g_b62 : n0 ≤ b62 := Nat.le_trans Z60 (Nat.le_of_eq g62.symm)
      have sz_b62 : h0.size ≤ b62 := Nat.le_trans K60.1 (Nat.le_of_eq g62.symm)
      have F64 : Old Z n0 h62 := F59.ext E62
      have F65 : Arv Z h62 b58 k58 .byte (p1 &&& (7 : Int32)) [] (.int (0 : Int32)) := F61.ext E62
      have K66 : Keep h0 h62 [] := K60.ext E62
      have Z66 : n0 ≤ h62.size := Nat.le_trans Z60 E62.1
      have F67 : Fld Z h62 b62 "com/example/offst/offst/group/Member" "assignment" "[B" .null := D62 (Or.inl (hw _ (List.mem_of_getElem? (i := 20) rfl))) (ty := (.array .byte)) (by decide)
      have F68 : Fld Z h62 b62 "com/example/offst/offst/group/Member" "id" "Ljava/lang/String;" .null := D62 (Or.inr (hw _ (List.mem_of_getElem? (i := 22) rfl))) (ty := (.object "java/lang/String")) (by decide)
      have F69 : Fld Z h62 b62 "com/example/offst/offst/group/Member" "heldBytes" "J" (.long (0 : Int64)) := D62 (Or.inl (hw _ (List.mem_of_getElem? (i := 34) rfl))) (ty := .long) (by decide)
      have F70 : Fld Z h62 b62 "com/example/offst/offst/group/Member" "joinedWith" "Lcom/example/offst/offst/protocol/JoinGroupRequest;" .null := D62 (Or.inl (hw _ (List.mem_of_getElem? (i := 46) rfl))) (ty := (.object "com/example/offst/offst/protocol/JoinGroupRequest")) (by decide)
      refine own_go (fun t k => st62 t k) ?_
      show OwnG p.tables e below _ (T62.setTop (mkF m 79 #[.val (.long p0), .second, .val (.int p1), .val (.int p2), .val (.int p3), .val (.int (p1 &&& (7 : Int32))), .val (.int (p2 &&& (7 : Int32))), .val (.int (0 : Int32)), .val (.int (1 : Int32)), .val (.ref b58), .val (.ref b58), .val (.int (p1 &&& (7 : Int32))), .unset, .unset, .unset, .unset, .unset, .unset] [(.ref b62)]))
      refine own_go (fun t k => XS.dup X62.here hx rfl (hb hby at_79) rfl rfl k) ?_
      show OwnG p.tables e below _ (T62.setTop (mkF m 80 #[.val (.long p0), .second, .val (.int p1), .val (.int p2), .val (.int p3), .val (.int (p1 &&& (7 : Int32))), .val (.int (p2 &&& (7 : Int32))), .val (.int (0 : Int32)), .val (.int (1 : Int32)), .val (.ref b58), .val (.ref b58), .val (.int (p1 &&& (7 : Int32))), .unset, .unset, .unset, .unset, .unset, .unset] [(.ref b62), (.ref b62)]))
      obtain ⟨a71, T71, h71, kk71, X71, e71, E71, S71, hk71, hZ71, hO71, st71⟩ := ldcS (s := s) (vm0 := s.vm) X62 hx hZ hown (hw _ (List.mem_of_getElem? (i := 4) rfl)) (own_sa Z a0 hw) e62 hS0 (Nat.zero_le _) (g := (mkF m 80 #[.val (.long p0), .second, .val (.int p1), .val (.int p2), .val (.int p3), .val (.int (p1 &&& (7 : Int32))), .val (.int (p2 &&& (7 : Int32))), .val (.int (0 : Int32)), .val (.int (1 : Int32)), .val (.ref b58), .val (.ref b58), .val (.int (p1 &&& (7 : Int32))), .unset, .unset, .unset, .unset, .unset, .unset] [(.ref b62), (.ref b62)])) rfl (hb hby at_80) (n := 4) (by decide) (by decide) (by decide) (by decide)
      have F72 : Old Z n0 h71 := F64.ext E71
      have F73 : Arv Z h71 b58 k58 .byte (p1 &&& (7 : Int32)) [] (.int (0 : Int32)) := F65.ext E71
      have F74 : Exa Z h71 b62 "com/example/offst/offst/group/Member" := A62.ext E71
      have F75 : Fld Z h71 b62 "com/example/offst/offst/group/Member" "assignment" "[B" .null := F67.ext E71
      have F76 : Fld Z h71 b62 "com/example/offst/offst/group/Member" "id" "Ljava/lang/String;" .null := F68.ext E71
      have F77 : Fld Z h71 b62 "com/example/offst/offst/group/Member" "heldBytes" "J" (.long (0 : Int64)) := F69.ext E71
      have F78 : Fld Z h71 b62 "com/example/offst/offst/group/Member" "joinedWith" "Lcom/example/offst/offst/protocol/JoinGroupRequest;" .null := F70.ext E71
      have K79 : Keep h0 h71 [] := K66.ext E71
      have Z79 : n0 ≤ h71.size := Nat.le_trans Z66 E71.1
      refine own_go (fun t k => st71 t k) ?_
      show OwnG p.tables e below _ (T71.setTop (mkF m 82 #[.val (.long p0), .second, .val (.int p1), .val (.int p2), .val (.int p3), .val (.int (p1 &&& (7 : Int32))), .val (.int (p2 &&& (7 : Int32))), .val (.int (0 : Int32)), .val (.int (1 : Int32)), .val (.ref b58), .val (.ref b58), .val (.int (p1 &&& (7 : Int32))), .unset, .unset, .unset, .unset, .unset, .unset] [(.ref a71), (.ref b62), (.ref b62)]))
      obtain ⟨_, _, ⟨T80, L80, k80, n80⟩, -, X80, ⟨Lc80, hQ80, l80, y80, z80⟩, st80⟩ := X71.specialBack hx (y := (⟨"com/example/offst/offst/group/Member", "<init>", "(Ljava/lang/String;)V"⟩ : MethodName)) rfl hO71 (mvT hZ71 (hw _ (List.mem_of_getElem? (i := 11) rfl))) (mvT hZ71 (hw _ (List.mem_of_getElem? (i := 12) rfl))) (mvT hZ71 (hw _ (List.mem_of_getElem? (i := 13) rfl))) (by decide) (backOf (W := 1) (own_init l Z a0 hw [] b62 a71 o_NO_ASSIGNMENT kc_o_NO_ASSIGNMENT h71 n0 Z79 F72 S_NO_ASSIGNMENT V_o_NO_ASSIGNMENT F74 F75 F76 F77 F78 g_b62) hZ71 (hw _ (List.mem_of_getElem? (i := 13) rfl)) (hw _ (List.mem_of_getElem? (i := 3) rfl)) (by decide) (by decide)) (g := (mkF m 82 #[.val (.long p0), .second, .val (.int p1), .val (.int p2), .val (.int p3), .val (.int (p1 &&& (7 : Int32))), .val (.int (p2 &&& (7 : Int32))), .val (.int (0 : Int32)), .val (.int (1 : Int32)), .val (.ref b58), .val (.ref b58), .val (.int (p1 &&& (7 : Int32))), .unset, .unset, .unset, .unset, .unset, .unset] [(.ref a71), (.ref b62), (.ref b62)])) rfl (by rw [hml]; rfl) (Steps.refl _) (a := b62) (argsL := [(.ref a71)]) (rest := [(.ref b62)]) (lenOf own_pd49 rfl) rfl (by show 2 * 0 + _ ≤ _; exact Nat.le_of_eq rfl) (hb hby at_82) (fun _ _ => ⟨rfl, e71, (by decide : 4 + 0 ≤ _), (by decide : 22 + 0 ≤ _)⟩)
      dsimp only [Pt.U, Pt.locs, Pt.cells, Pt.slots] at X80 l80 y80 z80 st80 hQ80
      subst l80 y80 z80
      obtain ⟨rfl, Nq80, Kq80, Fq80_0, Fq80_1, Fq80_2, Fq80_3⟩ := hQ80
      have N80 := Fr.app N0 Nq80
      have F81 : Old Z n0 T80.heap := F72.keep Kq80 (allS g_b62 all0)
      have F82 : Arv Z T80.heap b58 k58 .byte (p1 &&& (7 : Int32)) [] (.int (0 : Int32)) := F73.keep Kq80 (ninS ne63 nin0)
      have F83 : Exa Z T80.heap b62 "com/example/offst/offst/group/Member" := F74.keep Kq80
      have K80 : Keep h0 T80.heap [] := K79.trans Kq80 (allS (Or.inr sz_b62) all0)
      have Z80 : n0 ≤ T80.heap.size := Nat.le_trans Z79 Kq80.1
      have hk80 : _ ≤ T80.heap.size := Nat.le_trans hk71 Kq80.1
      refine own_go (fun t k => st80.trans k) ?_
      show OwnG p.tables e below _ (T80.setTop (mkF m 85 #[.val (.long p0), .second, .val (.int p1), .val (.int p2), .val (.int p3), .val (.int (p1 &&& (7 : Int32))), .val (.int (p2 &&& (7 : Int32))), .val (.int (0 : Int32)), .val (.int (1 : Int32)), .val (.ref b58), .val (.ref b58), .val (.int (p1 &&& (7 : Int32))), .unset, .unset, .unset, .unset, .unset, .unset] [(.ref b62)]))
      refine own_go (fun t k => XS.astore X80.here hx rfl (hb hby at_85) rfl rfl (l' := #[.val (.long p0), .second, .val (.int p1), .val (.int p2), .val (.int p3), .val (.int (p1 &&& (7 : Int32))), .val (.int (p2 &&& (7 : Int32))), .val (.int (0 : Int32)), .val (.int (1 : Int32)), .val (.ref b58), .val (.ref b58), .val (.int (p1 &&& (7 : Int32))), .val (.ref b62), .unset, .unset, .unset, .unset, .unset]) rfl k) ?_
      show OwnG p.tables e below _ (T80.setTop (mkF m 87 #[.val (.long p0), .second, .val (.int p1), .val (.int p2), .val (.int p3), .val (.int (p1 &&& (7 : Int32))), .val (.int (p2 &&& (7 : Int32))), .val (.int (0 : Int32)), .val (.int (1 : Int32)), .val (.ref b58), .val (.ref b58), .val (.int (p1 &&& (7 : Int32))), .val (.ref b62), .unset, .unset, .unset, .unset, .unset] []))
      refine own_go (fun t k => XS.lconst X80.here hx rfl (hb hby at_87) k) ?_
      show OwnG p.tables e below _ (T80.setTop (mkF m 88 #[.val (.long p0), .second, .val (.int p1), .val (.int p2), .val (.int p3), .val (.int (p1 &&& (7 : Int32))), .val (.int (p2 &&& (7 : Int32))), .val (.int (0 : Int32)), .val (.int (1 : Int32)), .val (.ref b58), .val (.ref b58), .val (.int (p1 &&& (7 : Int32))), .val (.ref b62), .unset, .unset, .unset, .unset, .unset] [(.long (0 : Int64))]))
      refine own_go (fun t k => XS.lstore X80.here hx rfl (hb hby at_88) rfl (l' := #[.val (.long p0), .second, .val (.int p1), .val (.int p2), .val (.int p3), .val (.int (p1 &&& (7 : Int32))), .val (.int (p2 &&& (7 : Int32))), .val (.int (0 : Int32)), .val (.int (1 : Int32)), .val (.ref b58), .val (.ref b58), .val (.int (p1 &&& (7 : Int32))), .val (.ref b62), .val (.long (0 : Int64)), .second, .unset, .unset, .unset]) rfl k) ?_
      show OwnG p.tables e below _ (T80.setTop (mkF m 90 #[.val (.long p0), .second, .val (.int p1), .val (.int p2), .val (.int p3), .val (.int (p1 &&& (7 : Int32))), .val (.int (p2 &&& (7 : Int32))), .val (.int (0 : Int32)), .val (.int (1 : Int32)), .val (.ref b58), .val (.ref b58), .val (.int (p1 &&& (7 : Int32))), .val (.ref b62), .val (.long (0 : Int64)), .second, .unset, .unset, .unset] []))
      refine own_go (fun t k => XS.iload X80.here hx rfl (hb hby at_90) rfl  k) ?_
      show OwnG p.tables e below _ (T80.setTop (mkF m 92 #[.val (.long p0), .second, .val (.int p1), .val (.int p2), .val (.int p3), .val (.int (p1 &&& (7 : Int32))), .val (.int (p2 &&& (7 : Int32))), .val (.int (0 : Int32)), .val (.int (1 : Int32)), .val (.ref b58), .val (.ref b58), .val (.int (p1 &&& (7 : Int32))), .val (.ref b62), .val (.long (0 : Int64)), .second, .unset, .unset, .unset] [(.int (0 : Int32))]))
      refine own_go (fun t k => XS.ifYes X80.here hx rfl (pc0 := 92) (pc' := 105) rfl (hb hby at_92) rfl ((if0 _ _).trans (teq (by decide : (0 : Int32) = (0 : Int32))).1) (by decide) (by decide) k) ?_
      show OwnG p.tables e below _ (T80.setTop (mkF m 105 #[.val (.long p0), .second, .val (.int p1), .val (.int p2), .val (.int p3), .val (.int (p1 &&& (7 : Int32))), .val (.int (p2 &&& (7 : Int32))), .val (.int (0 : Int32)), .val (.int (1 : Int32)), .val (.ref b58), .val (.ref b58), .val (.int (p1 &&& (7 : Int32))), .val (.ref b62), .val (.long (0 : Int64)), .second, .unset, .unset, .unset] []))
      refine own_go (fun t k => XS.aload X80.here hx rfl (hb hby at_105) rfl rfl k) ?_
      show OwnG p.tables e below _ (T80.setTop (mkF m 107 #[.val (.long p0), .second, .val (.int p1), .val (.int p2), .val (.int p3), .val (.int (p1 &&& (7 : Int32))), .val (.int (p2 &&& (7 : Int32))), .val (.int (0 : Int32)), .val (.int (1 : Int32)), .val (.ref b58), .val (.ref b58), .val (.int (p1 &&& (7 : Int32))), .val (.ref b62), .val (.long (0 : Int64)), .second, .unset, .unset, .unset] [(.ref b62)]))
      obtain ⟨cq84, kq84, q84a, q84b, q84c⟩ := isOf hZ71 rfl Fq80_0
      obtain ⟨_, _, ⟨T84, L84, k84, n84⟩, -, X84, ⟨Lc84, hQ84, l84, y84, z84⟩, st84⟩ := X80.virtualBack hx (y := (⟨"com/example/offst/offst/group/Member", "assignment", "()[B"⟩ : MethodName)) (z := (⟨"com/example/offst/offst/group/Member", "assignment", "()[B"⟩ : MethodName)) hO71 (mvT hZ71 (hw _ (List.mem_of_getElem? (i := 23) rfl))) (mvT hZ71 (hw _ (List.mem_of_getElem? (i := 24) rfl))) (notFace_of_selects (args := #[]) (mvT hZ71 (hw _ (List.mem_of_getElem? (i := 26) rfl)))) (mvT hZ71 (hw _ (List.mem_of_getElem? (i := 26) rfl))) (mvT hZ71 (hw _ (List.mem_of_getElem? (i := 25) rfl))) (by decide) (backOf (W := 0) (own_assignment l Z a0 hw [] b62 o_NO_ASSIGNMENT T80.heap n0 Z80 Fq80_1) hZ71 (hw _ (List.mem_of_getElem? (i := 27) rfl)) (hw _ (List.mem_of_getElem? (i := 3) rfl)) (by decide) (by decide)) q84a q84c (g := (mkF m 107 #[.val (.long p0), .second, .val (.int p1), .val (.int p2), .val (.int p3), .val (.int (p1 &&& (7 : Int32))), .val (.int (p2 &&& (7 : Int32))), .val (.int (0 : Int32)), .val (.int (1 : Int32)), .val (.ref b58), .val (.ref b58), .val (.int (p1 &&& (7 : Int32))), .val (.ref b62), .val (.long (0 : Int64)), .second, .unset, .unset, .unset] [(.ref b62)])) rfl (by rw [hml]; rfl) (Steps.refl _) (argsL := []) (rest := []) (lenOf own_pd50 rfl) rfl (by show 2 * 0 + _ ≤ _; exact Nat.le_of_eq rfl) (hb hby at_107) (fun _ _ => ⟨rfl, rfl, (by decide : 4 + 0 ≤ _), (by decide : 22 + 0 ≤ _)⟩)
      dsimp only [Pt.U, Pt.locs, Pt.cells, Pt.slots] at X84 l84 y84 z84 st84 hQ84
      subst l84 y84 z84
      obtain ⟨rfl, Nq84, eq84⟩ := hQ84
      have N84 := Fr.app N80 Nq84
      have e84 : T84.heap = T80.heap := eq84
      refine own_go (fun t k => st84.trans k) ?_
      show OwnG p.tables e below _ (T84.setTop (mkF m 110 #[.val (.long p0), .second, .val (.int p1), .val (.int p2), .val (.int p3), .val (.int (p1 &&& (7 : Int32))), .val (.int (p2 &&& (7 : Int32))), .val (.int (0 : Int32)), .val (.int (1 : Int32)), .val (.ref b58), .val (.ref b58), .val (.int (p1 &&& (7 : Int32))), .val (.ref b62), .val (.long (0 : Int64)), .second, .unset, .unset, .unset] [(.ref o_NO_ASSIGNMENT)]))
      have vv85 := (V_o_NO_ASSIGNMENT.ext F81.2)
      obtain ⟨cl85, Ar85, qk85, Sz85, Nn85, Hs85, Gs85⟩ := vv85
      have st85 : ∀ t, Steps p.tables e below (T84.setTop (mkF m 111 #[.val (.long p0), .second, .val (.int p1), .val (.int p2), .val (.int p3), .val (.int (p1 &&& (7 : Int32))), .val (.int (p2 &&& (7 : Int32))), .val (.int (0 : Int32)), .val (.int (1 : Int32)), .val (.ref b58), .val (.ref b58), .val (.int (p1 &&& (7 : Int32))), .val (.ref b62), .val (.long (0 : Int64)), .second, .unset, .unset, .unset] [(.int (0 : Int32))])) t → Steps p.tables e below (T84.setTop (mkF m 110 #[.val (.long p0), .second, .val (.int p1), .val (.int p2), .val (.int p3), .val (.int (p1 &&& (7 : Int32))), .val (.int (p2 &&& (7 : Int32))), .val (.int (0 : Int32)), .val (.int (1 : Int32)), .val (.ref b58), .val (.ref b58), .val (.int (p1 &&& (7 : Int32))), .val (.ref b62), .val (.long (0 : Int64)), .second, .unset, .unset, .unset] [(.ref o_NO_ASSIGNMENT)])) t := fun t k => by
        refine X84.arraylength hx (by rw [e84]; exact Ar85.1) (State.isArrayOf_alike hZ71.alike Ar85.2.1) (g := (mkF m 110 #[.val (.long p0), .second, .val (.int p1), .val (.int p2), .val (.int p3), .val (.int (p1 &&& (7 : Int32))), .val (.int (p2 &&& (7 : Int32))), .val (.int (0 : Int32)), .val (.int (1 : Int32)), .val (.ref b58), .val (.ref b58), .val (.int (p1 &&& (7 : Int32))), .val (.ref b62), .val (.long (0 : Int64)), .second, .unset, .unset, .unset] [(.ref o_NO_ASSIGNMENT)])) rfl rfl (hb hby at_110) _ ?_
        rw [len_of Sz85 Nn85]
        exact k
      refine own_go (fun t k => st85 t k) ?_
      show OwnG p.tables e below _ (T84.setTop (mkF m 111 #[.val (.long p0), .second, .val (.int p1), .val (.int p2), .val (.int p3), .val (.int (p1 &&& (7 : Int32))), .val (.int (p2 &&& (7 : Int32))), .val (.int (0 : Int32)), .val (.int (1 : Int32)), .val (.ref b58), .val (.ref b58), .val (.int (p1 &&& (7 : Int32))), .val (.ref b62), .val (.long (0 : Int64)), .second, .unset, .unset, .unset] [(.int (0 : Int32))]))
      refine own_go (fun t k => XS.ifNo X84.here hx rfl (hb hby at_111) rfl ((if0 _ _).trans (teq (by decide : (0 : Int32) = (0 : Int32))).2) k) ?_
      show OwnG p.tables e below _ (T84.setTop (mkF m 114 #[.val (.long p0), .second, .val (.int p1), .val (.int p2), .val (.int p3), .val (.int (p1 &&& (7 : Int32))), .val (.int (p2 &&& (7 : Int32))), .val (.int (0 : Int32)), .val (.int (1 : Int32)), .val (.ref b58), .val (.ref b58), .val (.int (p1 &&& (7 : Int32))), .val (.ref b62), .val (.long (0 : Int64)), .second, .unset, .unset, .unset] []))
      refine own_go (fun t k => XS.aload X84.here hx rfl (hb hby at_114) rfl rfl k) ?_
      show OwnG p.tables e below _ (T84.setTop (mkF m 116 #[.val (.long p0), .second, .val (.int p1), .val (.int p2), .val (.int p3), .val (.int (p1 &&& (7 : Int32))), .val (.int (p2 &&& (7 : Int32))), .val (.int (0 : Int32)), .val (.int (1 : Int32)), .val (.ref b58), .val (.ref b58), .val (.int (p1 &&& (7 : Int32))), .val (.ref b62), .val (.long (0 : Int64)), .second, .unset, .unset, .unset] [(.ref b62)]))
      obtain ⟨cq86, kq86, q86a, q86b, q86c⟩ := isOf hZ71 e84 Fq80_0
      obtain ⟨_, _, ⟨T86, L86, k86, n86⟩, -, X86, ⟨Lc86, hQ86, l86, y86, z86⟩, st86⟩ := X84.virtualBack hx (y := (⟨"com/example/offst/offst/group/Member", "heldBytes", "()J"⟩ : MethodName)) (z := (⟨"com/example/offst/offst/group/Member", "heldBytes", "()J"⟩ : MethodName)) hO71 (mvT hZ71 (hw _ (List.mem_of_getElem? (i := 28) rfl))) (mvT hZ71 (hw _ (List.mem_of_getElem? (i := 29) rfl))) (notFace_of_selects (args := #[]) (mvT hZ71 (hw _ (List.mem_of_getElem? (i := 31) rfl)))) (mvT hZ71 (hw _ (List.mem_of_getElem? (i := 31) rfl))) (mvT hZ71 (hw _ (List.mem_of_getElem? (i := 30) rfl))) (by decide) (backOf (W := 0) (own_held l Z a0 hw [] b62 (0 : Int64) T80.heap n0 Z80 Fq80_2) hZ71 (hw _ (List.mem_of_getElem? (i := 32) rfl)) (hw _ (List.mem_of_getElem? (i := 3) rfl)) (by decide) (by decide)) q86a q86c (g := (mkF m 116 #[.val (.long p0), .second, .val (.int p1), .val (.int p2), .val (.int p3), .val (.int (p1 &&& (7 : Int32))), .val (.int (p2 &&& (7 : Int32))), .val (.int (0 : Int32)), .val (.int (1 : Int32)), .val (.ref b58), .val (.ref b58), .val (.int (p1 &&& (7 : Int32))), .val (.ref b62), .val (.long (0 : Int64)), .second, .unset, .unset, .unset] [(.ref b62)])) rfl (by rw [hml]; rfl) (Steps.refl _) (argsL := []) (rest := []) (lenOf own_pd51 rfl) rfl (by show 2 * 0 + _ ≤ _; exact Nat.le_of_eq rfl) (hb hby at_116) (fun _ _ => ⟨rfl, e84, (by decide : 4 + 0 ≤ _), (by decide : 22 + 0 ≤ _)⟩)
      dsimp only [Pt.U, Pt.locs, Pt.cells, Pt.slots] at X86 l86 y86 z86 st86 hQ86
      subst l86 y86 z86
      obtain ⟨rfl, Nq86, eq86⟩ := hQ86
      have N86 := Fr.app N84 Nq86
      have e86 : T86.heap = T80.heap := eq86
      refine own_go (fun t k => st86.trans k) ?_
      show OwnG p.tables e below _ (T86.setTop (mkF m 119 #[.val (.long p0), .second, .val (.int p1), .val (.int p2), .val (.int p3), .val (.int (p1 &&& (7 : Int32))), .val (.int (p2 &&& (7 : Int32))), .val (.int (0 : Int32)), .val (.int (1 : Int32)), .val (.ref b58), .val (.ref b58), .val (.int (p1 &&& (7 : Int32))), .val (.ref b62), .val (.long (0 : Int64)), .second, .unset, .unset, .unset] [(.long (0 : Int64))]))
      refine own_go (fun t k => XS.lload X86.here hx rfl (hb hby at_119) rfl  k) ?_
      show OwnG p.tables e below _ (T86.setTop (mkF m 121 #[.val (.long p0), .second, .val (.int p1), .val (.int p2), .val (.int p3), .val (.int (p1 &&& (7 : Int32))), .val (.int (p2 &&& (7 : Int32))), .val (.int (0 : Int32)), .val (.int (1 : Int32)), .val (.ref b58), .val (.ref b58), .val (.int (p1 &&& (7 : Int32))), .val (.ref b62), .val (.long (0 : Int64)), .second, .unset, .unset, .unset] [(.long (0 : Int64)), (.long (0 : Int64))]))
      refine own_go (fun t k => XS.lcmp X86.here hx rfl (hb hby at_121) rfl k) ?_
      show OwnG p.tables e below _ (T86.setTop (mkF m 122 #[.val (.long p0), .second, .val (.int p1), .val (.int p2), .val (.int p3), .val (.int (p1 &&& (7 : Int32))), .val (.int (p2 &&& (7 : Int32))), .val (.int (0 : Int32)), .val (.int (1 : Int32)), .val (.ref b58), .val (.ref b58), .val (.int (p1 &&& (7 : Int32))), .val (.ref b62), .val (.long (0 : Int64)), .second, .unset, .unset, .unset] [(.int (lcmpW (0 : Int64) (0 : Int64)))]))
      refine own_go (fun t k => XS.ifNo X86.here hx rfl (hb hby at_122) rfl ((if0 _ _).trans (teq ((lw_eq _ _).mpr (rfl : (0 : Int64) = (0 : Int64)))).2) k) ?_
      show OwnG p.tables e below _ (T86.setTop (mkF m 125 #[.val (.long p0), .second, .val (.int p1), .val (.int p2), .val (.int p3), .val (.int (p1 &&& (7 : Int32))), .val (.int (p2 &&& (7 : Int32))), .val (.int (0 : Int32)), .val (.int (1 : Int32)), .val (.ref b58), .val (.ref b58), .val (.int (p1 &&& (7 : Int32))), .val (.ref b62), .val (.long (0 : Int64)), .second, .unset, .unset, .unset] []))
      refine own_go (fun t k => XS.iconst X86.here hx rfl (hb hby at_125) k) ?_
      show OwnG p.tables e below _ (T86.setTop (mkF m 126 #[.val (.long p0), .second, .val (.int p1), .val (.int p2), .val (.int p3), .val (.int (p1 &&& (7 : Int32))), .val (.int (p2 &&& (7 : Int32))), .val (.int (0 : Int32)), .val (.int (1 : Int32)), .val (.ref b58), .val (.ref b58), .val (.int (p1 &&& (7 : Int32))), .val (.ref b62), .val (.long (0 : Int64)), .second, .unset, .unset, .unset] [(.int (1 : Int32))]))
      refine own_go (fun t k => XS.goto X86.here hx rfl (pc0 := 126) (pc' := 130) rfl (hb hby at_126) (by decide) (by decide) k) ?_
      show OwnG p.tables e below _ (T86.setTop (mkF m 130 #[.val (.long p0), .second, .val (.int p1), .val (.int p2), .val (.int p3), .val (.int (p1 &&& (7 : Int32))), .val (.int (p2 &&& (7 : Int32))), .val (.int (0 : Int32)), .val (.int (1 : Int32)), .val (.ref b58), .val (.ref b58), .val (.int (p1 &&& (7 : Int32))), .val (.ref b62), .val (.long (0 : Int64)), .second, .unset, .unset, .unset] [(.int (1 : Int32))]))
      refine own_go (fun t k => XS.istore X86.here hx rfl (hb hby at_130) rfl (l' := #[.val (.long p0), .second, .val (.int p1), .val (.int p2), .val (.int p3), .val (.int (p1 &&& (7 : Int32))), .val (.int (p2 &&& (7 : Int32))), .val (.int (0 : Int32)), .val (.int (1 : Int32)), .val (.ref b58), .val (.ref b58), .val (.int (p1 &&& (7 : Int32))), .val (.ref b62), .val (.long (0 : Int64)), .second, .val (.int (1 : Int32)), .unset, .unset]) rfl k) ?_
      show OwnG p.tables e below _ (T86.setTop (mkF m 132 #[.val (.long p0), .second, .val (.int p1), .val (.int p2), .val (.int p3), .val (.int (p1 &&& (7 : Int32))), .val (.int (p2 &&& (7 : Int32))), .val (.int (0 : Int32)), .val (.int (1 : Int32)), .val (.ref b58), .val (.ref b58), .val (.int (p1 &&& (7 : Int32))), .val (.ref b62), .val (.long (0 : Int64)), .second, .val (.int (1 : Int32)), .unset, .unset] []))
      refine own_go (fun t k => XS.aload X86.here hx rfl (hb hby at_132) rfl rfl k) ?_
      show OwnG p.tables e below _ (T86.setTop (mkF m 134 #[.val (.long p0), .second, .val (.int p1), .val (.int p2), .val (.int p3), .val (.int (p1 &&& (7 : Int32))), .val (.int (p2 &&& (7 : Int32))), .val (.int (0 : Int32)), .val (.int (1 : Int32)), .val (.ref b58), .val (.ref b58), .val (.int (p1 &&& (7 : Int32))), .val (.ref b62), .val (.long (0 : Int64)), .second, .val (.int (1 : Int32)), .unset, .unset] [(.ref b62)]))
      refine own_go (fun t k => XS.aload X86.here hx rfl (hb hby at_134) rfl rfl k) ?_
      show OwnG p.tables e below _ (T86.setTop (mkF m 136 #[.val (.long p0), .second, .val (.int p1), .val (.int p2), .val (.int p3), .val (.int (p1 &&& (7 : Int32))), .val (.int (p2 &&& (7 : Int32))), .val (.int (0 : Int32)), .val (.int (1 : Int32)), .val (.ref b58), .val (.ref b58), .val (.int (p1 &&& (7 : Int32))), .val (.ref b62), .val (.long (0 : Int64)), .second, .val (.int (1 : Int32)), .unset, .unset] [(.ref b58), (.ref b62)]))
      obtain ⟨cq87, kq87, q87a, q87b, q87c⟩ := isOf hZ71 e86 Fq80_0
      obtain ⟨_, _, ⟨T87, L87, k87, n87⟩, -, X87, ⟨Lc87, hQ87, l87, y87, z87⟩, st87⟩ := X86.virtualBack hx (y := (⟨"com/example/offst/offst/group/Member", "assign", "([B)V"⟩ : MethodName)) (z := (⟨"com/example/offst/offst/group/Member", "assign", "([B)V"⟩ : MethodName)) hO71 (mvT hZ71 (hw _ (List.mem_of_getElem? (i := 35) rfl))) (mvT hZ71 (hw _ (List.mem_of_getElem? (i := 36) rfl))) (notFace_of_selects (args := #[]) (mvT hZ71 (hw _ (List.mem_of_getElem? (i := 38) rfl)))) (mvT hZ71 (hw _ (List.mem_of_getElem? (i := 38) rfl))) (mvT hZ71 (hw _ (List.mem_of_getElem? (i := 37) rfl))) (by decide) (backOf (W := 0) (own_assign l Z a0 hw [] b62 b58 o_NO_ASSIGNMENT k58 kc_o_NO_ASSIGNMENT (p1 &&& (7 : Int32)) (0 : Int32) (0 : Int64) T80.heap n0 Z80 Fq80_0 Fq80_1 Fq80_2 F82 (V_o_NO_ASSIGNMENT.ext F81.2) g_b62) hZ71 (hw _ (List.mem_of_getElem? (i := 39) rfl)) (hw _ (List.mem_of_getElem? (i := 3) rfl)) (by decide) (by decide)) q87a q87c (g := (mkF m 136 #[.val (.long p0), .second, .val (.int p1), .val (.int p2), .val (.int p3), .val (.int (p1 &&& (7 : Int32))), .val (.int (p2 &&& (7 : Int32))), .val (.int (0 : Int32)), .val (.int (1 : Int32)), .val (.ref b58), .val (.ref b58), .val (.int (p1 &&& (7 : Int32))), .val (.ref b62), .val (.long (0 : Int64)), .second, .val (.int (1 : Int32)), .unset, .unset] [(.ref b58), (.ref b62)])) rfl (by rw [hml]; rfl) (Steps.refl _) (argsL := [(.ref b58)]) (rest := []) (lenOf own_pd52 rfl) rfl (by show 2 * 0 + _ ≤ _; exact Nat.le_of_eq rfl) (hb hby at_136) (fun _ _ => ⟨rfl, e86, (by decide : 4 + 0 ≤ _), (by decide : 22 + 0 ≤ _)⟩)
      dsimp only [Pt.U, Pt.locs, Pt.cells, Pt.slots] at X87 l87 y87 z87 st87 hQ87
      subst l87 y87 z87
      obtain ⟨rfl, Nq87, Kq87, Fq87_0, Fq87_1, Fq87_2⟩ := hQ87
      have N87 := Fr.app N86 Nq87
      have F88 : Old Z n0 T87.heap := F81.keep Kq87 (allS g_b62 all0)
      have F89 : Arv Z T87.heap b58 k58 .byte (p1 &&& (7 : Int32)) [] (.int (0 : Int32)) := F82.keep Kq87 (ninS ne63 nin0)
      have F90 : Exa Z T87.heap b62 "com/example/offst/offst/group/Member" := Fq80_0.keep Kq87
      have K87 : Keep h0 T87.heap [] := K80.trans Kq87 (allS (Or.inr sz_b62) all0)
      have Z87 : n0 ≤ T87.heap.size := Nat.le_trans Z80 Kq87.1
      have hk87 : _ ≤ T87.heap.size := Nat.le_trans hk80 Kq87.1
      refine own_go (fun t k => st87.trans k) ?_
      show OwnG p.tables e below _ (T87.setTop (mkF m 139 #[.val (.long p0), .second, .val (.int p1), .val (.int p2), .val (.int p3), .val (.int (p1 &&& (7 : Int32))), .val (.int (p2 &&& (7 : Int32))), .val (.int (0 : Int32)), .val (.int (1 : Int32)), .val (.ref b58), .val (.ref b58), .val (.int (p1 &&& (7 : Int32))), .val (.ref b62), .val (.long (0 : Int64)), .second, .val (.int (1 : Int32)), .unset, .unset] []))
      have F91 : Fld Z T87.heap b62 "com/example/offst/offst/group/Member" "heldBytes" "J" (.long ((0 : Int64) + ((p1 &&& (7 : Int32)).toInt64))) := by rw [show ((0 : Int64) + ((p1 &&& (7 : Int32)).toInt64)) = _ from own_first (0 : Int64) (p1 &&& (7 : Int32))]; exact Fq87_2
      refine own_go (fun t k => XS.aload X87.here hx rfl (hb hby at_139) rfl rfl k) ?_
      show OwnG p.tables e below _ (T87.setTop (mkF m 141 #[.val (.long p0), .second, .val (.int p1), .val (.int p2), .val (.int p3), .val (.int (p1 &&& (7 : Int32))), .val (.int (p2 &&& (7 : Int32))), .val (.int (0 : Int32)), .val (.int (1 : Int32)), .val (.ref b58), .val (.ref b58), .val (.int (p1 &&& (7 : Int32))), .val (.ref b62), .val (.long (0 : Int64)), .second, .val (.int (1 : Int32)), .unset, .unset] [(.ref b62)]))
      obtain ⟨cq92, kq92, q92a, q92b, q92c⟩ := isOf hZ71 rfl Fq87_0
      obtain ⟨_, _, ⟨T92, L92, k92, n92⟩, -, X92, ⟨Lc92, hQ92, l92, y92, z92⟩, st92⟩ := X87.virtualBack hx (y := (⟨"com/example/offst/offst/group/Member", "heldBytes", "()J"⟩ : MethodName)) (z := (⟨"com/example/offst/offst/group/Member", "heldBytes", "()J"⟩ : MethodName)) hO71 (mvT hZ71 (hw _ (List.mem_of_getElem? (i := 28) rfl))) (mvT hZ71 (hw _ (List.mem_of_getElem? (i := 29) rfl))) (notFace_of_selects (args := #[]) (mvT hZ71 (hw _ (List.mem_of_getElem? (i := 31) rfl)))) (mvT hZ71 (hw _ (List.mem_of_getElem? (i := 31) rfl))) (mvT hZ71 (hw _ (List.mem_of_getElem? (i := 30) rfl))) (by decide) (backOf (W := 0) (own_held l Z a0 hw [] b62 ((0 : Int64) + ((p1 &&& (7 : Int32)).toInt64)) T87.heap n0 Z87 F91) hZ71 (hw _ (List.mem_of_getElem? (i := 32) rfl)) (hw _ (List.mem_of_getElem? (i := 3) rfl)) (by decide) (by decide)) q92a q92c (g := (mkF m 141 #[.val (.long p0), .second, .val (.int p1), .val (.int p2), .val (.int p3), .val (.int (p1 &&& (7 : Int32))), .val (.int (p2 &&& (7 : Int32))), .val (.int (0 : Int32)), .val (.int (1 : Int32)), .val (.ref b58), .val (.ref b58), .val (.int (p1 &&& (7 : Int32))), .val (.ref b62), .val (.long (0 : Int64)), .second, .val (.int (1 : Int32)), .unset, .unset] [(.ref b62)])) rfl (by rw [hml]; rfl) (Steps.refl _) (argsL := []) (rest := []) (lenOf own_pd51 rfl) rfl (by show 2 * 0 + _ ≤ _; exact Nat.le_of_eq rfl) (hb hby at_141) (fun _ _ => ⟨rfl, rfl, (by decide : 4 + 0 ≤ _), (by decide : 22 + 0 ≤ _)⟩)
      dsimp only [Pt.U, Pt.locs, Pt.cells, Pt.slots] at X92 l92 y92 z92 st92 hQ92
      subst l92 y92 z92
      obtain ⟨rfl, Nq92, eq92⟩ := hQ92
      have N92 := Fr.app N87 Nq92
      have e92 : T92.heap = T87.heap := eq92
      refine own_go (fun t k => st92.trans k) ?_
      show OwnG p.tables e below _ (T92.setTop (mkF m 144 #[.val (.long p0), .second, .val (.int p1), .val (.int p2), .val (.int p3), .val (.int (p1 &&& (7 : Int32))), .val (.int (p2 &&& (7 : Int32))), .val (.int (0 : Int32)), .val (.int (1 : Int32)), .val (.ref b58), .val (.ref b58), .val (.int (p1 &&& (7 : Int32))), .val (.ref b62), .val (.long (0 : Int64)), .second, .val (.int (1 : Int32)), .unset, .unset] [(.long ((0 : Int64) + ((p1 &&& (7 : Int32)).toInt64)))]))
      refine own_go (fun t k => XS.lload X92.here hx rfl (hb hby at_144) rfl  k) ?_
      show OwnG p.tables e below _ (T92.setTop (mkF m 146 #[.val (.long p0), .second, .val (.int p1), .val (.int p2), .val (.int p3), .val (.int (p1 &&& (7 : Int32))), .val (.int (p2 &&& (7 : Int32))), .val (.int (0 : Int32)), .val (.int (1 : Int32)), .val (.ref b58), .val (.ref b58), .val (.int (p1 &&& (7 : Int32))), .val (.ref b62), .val (.long (0 : Int64)), .second, .val (.int (1 : Int32)), .unset, .unset] [(.long (0 : Int64)), (.long ((0 : Int64) + ((p1 &&& (7 : Int32)).toInt64)))]))
      refine own_go (fun t k => XS.iload X92.here hx rfl (hb hby at_146) rfl  k) ?_
      show OwnG p.tables e below _ (T92.setTop (mkF m 148 #[.val (.long p0), .second, .val (.int p1), .val (.int p2), .val (.int p3), .val (.int (p1 &&& (7 : Int32))), .val (.int (p2 &&& (7 : Int32))), .val (.int (0 : Int32)), .val (.int (1 : Int32)), .val (.ref b58), .val (.ref b58), .val (.int (p1 &&& (7 : Int32))), .val (.ref b62), .val (.long (0 : Int64)), .second, .val (.int (1 : Int32)), .unset, .unset] [(.int (p1 &&& (7 : Int32))), (.long (0 : Int64)), (.long ((0 : Int64) + ((p1 &&& (7 : Int32)).toInt64)))]))
      refine own_go (fun t k => XS.i2l X92.here hx rfl (hb hby at_148) rfl k) ?_
      show OwnG p.tables e below _ (T92.setTop (mkF m 149 #[.val (.long p0), .second, .val (.int p1), .val (.int p2), .val (.int p3), .val (.int (p1 &&& (7 : Int32))), .val (.int (p2 &&& (7 : Int32))), .val (.int (0 : Int32)), .val (.int (1 : Int32)), .val (.ref b58), .val (.ref b58), .val (.int (p1 &&& (7 : Int32))), .val (.ref b62), .val (.long (0 : Int64)), .second, .val (.int (1 : Int32)), .unset, .unset] [(.long ((p1 &&& (7 : Int32)).toInt64)), (.long (0 : Int64)), (.long ((0 : Int64) + ((p1 &&& (7 : Int32)).toInt64)))]))
      refine own_go (fun t k => XS.ladd X92.here hx rfl (hb hby at_149) rfl k) ?_
      show OwnG p.tables e below _ (T92.setTop (mkF m 150 #[.val (.long p0), .second, .val (.int p1), .val (.int p2), .val (.int p3), .val (.int (p1 &&& (7 : Int32))), .val (.int (p2 &&& (7 : Int32))), .val (.int (0 : Int32)), .val (.int (1 : Int32)), .val (.ref b58), .val (.ref b58), .val (.int (p1 &&& (7 : Int32))), .val (.ref b62), .val (.long (0 : Int64)), .second, .val (.int (1 : Int32)), .unset, .unset] [(.long ((0 : Int64) + ((p1 &&& (7 : Int32)).toInt64))), (.long ((0 : Int64) + ((p1 &&& (7 : Int32)).toInt64)))]))
      refine own_go (fun t k => XS.lcmp X92.here hx rfl (hb hby at_150) rfl k) ?_
      show OwnG p.tables e below _ (T92.setTop (mkF m 151 #[.val (.long p0), .second, .val (.int p1), .val (.int p2), .val (.int p3), .val (.int (p1 &&& (7 : Int32))), .val (.int (p2 &&& (7 : Int32))), .val (.int (0 : Int32)), .val (.int (1 : Int32)), .val (.ref b58), .val (.ref b58), .val (.int (p1 &&& (7 : Int32))), .val (.ref b62), .val (.long (0 : Int64)), .second, .val (.int (1 : Int32)), .unset, .unset] [(.int (lcmpW ((0 : Int64) + ((p1 &&& (7 : Int32)).toInt64)) ((0 : Int64) + ((p1 &&& (7 : Int32)).toInt64))))]))
      refine own_go (fun t k => XS.ifNo X92.here hx rfl (hb hby at_151) rfl ((if0 _ _).trans (teq ((lw_eq _ _).mpr (rfl : ((0 : Int64) + ((p1 &&& (7 : Int32)).toInt64)) = ((0 : Int64) + ((p1 &&& (7 : Int32)).toInt64))))).2) k) ?_
      show OwnG p.tables e below _ (T92.setTop (mkF m 154 #[.val (.long p0), .second, .val (.int p1), .val (.int p2), .val (.int p3), .val (.int (p1 &&& (7 : Int32))), .val (.int (p2 &&& (7 : Int32))), .val (.int (0 : Int32)), .val (.int (1 : Int32)), .val (.ref b58), .val (.ref b58), .val (.int (p1 &&& (7 : Int32))), .val (.ref b62), .val (.long (0 : Int64)), .second, .val (.int (1 : Int32)), .unset, .unset] []))
      refine own_go (fun t k => XS.aload X92.here hx rfl (hb hby at_154) rfl rfl k) ?_
      show OwnG p.tables e below _ (T92.setTop (mkF m 156 #[.val (.long p0), .second, .val (.int p1), .val (.int p2), .val (.int p3), .val (.int (p1 &&& (7 : Int32))), .val (.int (p2 &&& (7 : Int32))), .val (.int (0 : Int32)), .val (.int (1 : Int32)), .val (.ref b58), .val (.ref b58), .val (.int (p1 &&& (7 : Int32))), .val (.ref b62), .val (.long (0 : Int64)), .second, .val (.int (1 : Int32)), .unset, .unset] [(.ref b62)]))
      obtain ⟨cq93, kq93, q93a, q93b, q93c⟩ := isOf hZ71 e92 Fq87_0
      obtain ⟨_, _, ⟨T93, L93, k93, n93⟩, -, X93, ⟨Lc93, hQ93, l93, y93, z93⟩, st93⟩ := X92.virtualBack hx (y := (⟨"com/example/offst/offst/group/Member", "assignment", "()[B"⟩ : MethodName)) (z := (⟨"com/example/offst/offst/group/Member", "assignment", "()[B"⟩ : MethodName)) hO71 (mvT hZ71 (hw _ (List.mem_of_getElem? (i := 23) rfl))) (mvT hZ71 (hw _ (List.mem_of_getElem? (i := 24) rfl))) (notFace_of_selects (args := #[]) (mvT hZ71 (hw _ (List.mem_of_getElem? (i := 26) rfl)))) (mvT hZ71 (hw _ (List.mem_of_getElem? (i := 26) rfl))) (mvT hZ71 (hw _ (List.mem_of_getElem? (i := 25) rfl))) (by decide) (backOf (W := 0) (own_assignment l Z a0 hw [] b62 b58 T87.heap n0 Z87 Fq87_1) hZ71 (hw _ (List.mem_of_getElem? (i := 27) rfl)) (hw _ (List.mem_of_getElem? (i := 3) rfl)) (by decide) (by decide)) q93a q93c (g := (mkF m 156 #[.val (.long p0), .second, .val (.int p1), .val (.int p2), .val (.int p3), .val (.int (p1 &&& (7 : Int32))), .val (.int (p2 &&& (7 : Int32))), .val (.int (0 : Int32)), .val (.int (1 : Int32)), .val (.ref b58), .val (.ref b58), .val (.int (p1 &&& (7 : Int32))), .val (.ref b62), .val (.long (0 : Int64)), .second, .val (.int (1 : Int32)), .unset, .unset] [(.ref b62)])) rfl (by rw [hml]; rfl) (Steps.refl _) (argsL := []) (rest := []) (lenOf own_pd50 rfl) rfl (by show 2 * 0 + _ ≤ _; exact Nat.le_of_eq rfl) (hb hby at_156) (fun _ _ => ⟨rfl, e92, (by decide : 4 + 0 ≤ _), (by decide : 22 + 0 ≤ _)⟩)
      dsimp only [Pt.U, Pt.locs, Pt.cells, Pt.slots] at X93 l93 y93 z93 st93 hQ93
      subst l93 y93 z93
      obtain ⟨rfl, Nq93, eq93⟩ := hQ93
      have N93 := Fr.app N92 Nq93
      have e93 : T93.heap = T87.heap := eq93
      refine own_go (fun t k => st93.trans k) ?_
      show OwnG p.tables e below _ (T93.setTop (mkF m 159 #[.val (.long p0), .second, .val (.int p1), .val (.int p2), .val (.int p3), .val (.int (p1 &&& (7 : Int32))), .val (.int (p2 &&& (7 : Int32))), .val (.int (0 : Int32)), .val (.int (1 : Int32)), .val (.ref b58), .val (.ref b58), .val (.int (p1 &&& (7 : Int32))), .val (.ref b62), .val (.long (0 : Int64)), .second, .val (.int (1 : Int32)), .unset, .unset] [(.ref b58)]))
      refine own_go (fun t k => XS.aload X93.here hx rfl (hb hby at_159) rfl rfl k) ?_
      show OwnG p.tables e below _ (T93.setTop (mkF m 161 #[.val (.long p0), .second, .val (.int p1), .val (.int p2), .val (.int p3), .val (.int (p1 &&& (7 : Int32))), .val (.int (p2 &&& (7 : Int32))), .val (.int (0 : Int32)), .val (.int (1 : Int32)), .val (.ref b58), .val (.ref b58), .val (.int (p1 &&& (7 : Int32))), .val (.ref b62), .val (.long (0 : Int64)), .second, .val (.int (1 : Int32)), .unset, .unset] [(.ref b58), (.ref b58)]))
      refine own_go (fun t k => Jvm.RoadKit.acmp (g := (mkF m 161 #[.val (.long p0), .second, .val (.int p1), .val (.int p2), .val (.int p3), .val (.int (p1 &&& (7 : Int32))), .val (.int (p2 &&& (7 : Int32))), .val (.int (0 : Int32)), .val (.int (1 : Int32)), .val (.ref b58), .val (.ref b58), .val (.int (p1 &&& (7 : Int32))), .val (.ref b62), .val (.long (0 : Int64)), .second, .val (.int (1 : Int32)), .unset, .unset] [(.ref b58), (.ref b58)])) X93 hx rfl rfl rfl (pc0 := 161) (pc' := 164) (same := true) rfl (hb hby at_161) rfl (decide_eq_true rfl) (by decide) (by decide) k) ?_
      show OwnG p.tables e below _ (T93.setTop (mkF m 164 #[.val (.long p0), .second, .val (.int p1), .val (.int p2), .val (.int p3), .val (.int (p1 &&& (7 : Int32))), .val (.int (p2 &&& (7 : Int32))), .val (.int (0 : Int32)), .val (.int (1 : Int32)), .val (.ref b58), .val (.ref b58), .val (.int (p1 &&& (7 : Int32))), .val (.ref b62), .val (.long (0 : Int64)), .second, .val (.int (1 : Int32)), .unset, .unset] []))
      refine own_go (fun t k => XS.iconst X93.here hx rfl (hb hby at_164) k) ?_
      show OwnG p.tables e below _ (T93.setTop (mkF m 165 #[.val (.long p0), .second, .val (.int p1), .val (.int p2), .val (.int p3), .val (.int (p1 &&& (7 : Int32))), .val (.int (p2 &&& (7 : Int32))), .val (.int (0 : Int32)), .val (.int (1 : Int32)), .val (.ref b58), .val (.ref b58), .val (.int (p1 &&& (7 : Int32))), .val (.ref b62), .val (.long (0 : Int64)), .second, .val (.int (1 : Int32)), .unset, .unset] [(.int (1 : Int32))]))
      refine own_go (fun t k => XS.goto X93.here hx rfl (pc0 := 165) (pc' := 169) rfl (hb hby at_165) (by decide) (by decide) k) ?_
      show OwnG p.tables e below _ (T93.setTop (mkF m 169 #[.val (.long p0), .second, .val (.int p1), .val (.int p2), .val (.int p3), .val (.int (p1 &&& (7 : Int32))), .val (.int (p2 &&& (7 : Int32))), .val (.int (0 : Int32)), .val (.int (1 : Int32)), .val (.ref b58), .val (.ref b58), .val (.int (p1 &&& (7 : Int32))), .val (.ref b62), .val (.long (0 : Int64)), .second, .val (.int (1 : Int32)), .unset, .unset] [(.int (1 : Int32))]))
      refine own_go (fun t k => XS.istore X93.here hx rfl (hb hby at_169) rfl (l' := #[.val (.long p0), .second, .val (.int p1), .val (.int p2), .val (.int p3), .val (.int (p1 &&& (7 : Int32))), .val (.int (p2 &&& (7 : Int32))), .val (.int (0 : Int32)), .val (.int (1 : Int32)), .val (.ref b58), .val (.ref b58), .val (.int (p1 &&& (7 : Int32))), .val (.ref b62), .val (.long (0 : Int64)), .second, .val (.int (1 : Int32)), .val (.int (1 : Int32)), .unset]) rfl k) ?_
      show OwnG p.tables e below _ (T93.setTop (mkF m 171 #[.val (.long p0), .second, .val (.int p1), .val (.int p2), .val (.int p3), .val (.int (p1 &&& (7 : Int32))), .val (.int (p2 &&& (7 : Int32))), .val (.int (0 : Int32)), .val (.int (1 : Int32)), .val (.ref b58), .val (.ref b58), .val (.int (p1 &&& (7 : Int32))), .val (.ref b62), .val (.long (0 : Int64)), .second, .val (.int (1 : Int32)), .val (.int (1 : Int32)), .unset] []))
      refine own_go (fun t k => XS.aload X93.here hx rfl (hb hby at_171) rfl rfl k) ?_
      show OwnG p.tables e below _ (T93.setTop (mkF m 173 #[.val (.long p0), .second, .val (.int p1), .val (.int p2), .val (.int p3), .val (.int (p1 &&& (7 : Int32))), .val (.int (p2 &&& (7 : Int32))), .val (.int (0 : Int32)), .val (.int (1 : Int32)), .val (.ref b58), .val (.ref b58), .val (.int (p1 &&& (7 : Int32))), .val (.ref b62), .val (.long (0 : Int64)), .second, .val (.int (1 : Int32)), .val (.int (1 : Int32)), .unset] [(.ref b62)]))
      refine own_go (fun t k => XS.aload X93.here hx rfl (hb hby at_173) rfl rfl k) ?_
      show OwnG p.tables e below _ (T93.setTop (mkF m 175 #[.val (.long p0), .second, .val (.int p1), .val (.int p2), .val (.int p3), .val (.int (p1 &&& (7 : Int32))), .val (.int (p2 &&& (7 : Int32))), .val (.int (0 : Int32)), .val (.int (1 : Int32)), .val (.ref b58), .val (.ref b58), .val (.int (p1 &&& (7 : Int32))), .val (.ref b62), .val (.long (0 : Int64)), .second, .val (.int (1 : Int32)), .val (.int (1 : Int32)), .unset] [(.ref b58), (.ref b62)]))
      obtain ⟨cq94, kq94, q94a, q94b, q94c⟩ := isOf hZ71 e93 Fq87_0
      obtain ⟨_, _, ⟨T94, L94, k94, n94⟩, -, X94, ⟨Lc94, hQ94, l94, y94, z94⟩, st94⟩ := X93.virtualBack hx (y := (⟨"com/example/offst/offst/group/Member", "assign", "([B)V"⟩ : MethodName)) (z := (⟨"com/example/offst/offst/group/Member", "assign", "([B)V"⟩ : MethodName)) hO71 (mvT hZ71 (hw _ (List.mem_of_getElem? (i := 35) rfl))) (mvT hZ71 (hw _ (List.mem_of_getElem? (i := 36) rfl))) (notFace_of_selects (args := #[]) (mvT hZ71 (hw _ (List.mem_of_getElem? (i := 38) rfl)))) (mvT hZ71 (hw _ (List.mem_of_getElem? (i := 38) rfl))) (mvT hZ71 (hw _ (List.mem_of_getElem? (i := 37) rfl))) (by decide) (backOf (W := 0) (own_assign l Z a0 hw [] b62 b58 b58 k58 k58 (p1 &&& (7 : Int32)) (p1 &&& (7 : Int32)) ((0 : Int64) + ((p1 &&& (7 : Int32)).toInt64)) T87.heap n0 Z87 Fq87_0 Fq87_1 F91 F89 F89 g_b62) hZ71 (hw _ (List.mem_of_getElem? (i := 39) rfl)) (hw _ (List.mem_of_getElem? (i := 3) rfl)) (by decide) (by decide)) q94a q94c (g := (mkF m 175 #[.val (.long p0), .second, .val (.int p1), .val (.int p2), .val (.int p3), .val (.int (p1 &&& (7 : Int32))), .val (.int (p2 &&& (7 : Int32))), .val (.int (0 : Int32)), .val (.int (1 : Int32)), .val (.ref b58), .val (.ref b58), .val (.int (p1 &&& (7 : Int32))), .val (.ref b62), .val (.long (0 : Int64)), .second, .val (.int (1 : Int32)), .val (.int (1 : Int32)), .unset] [(.ref b58), (.ref b62)])) rfl (by rw [hml]; rfl) (Steps.refl _) (argsL := [(.ref b58)]) (rest := []) (lenOf own_pd52 rfl) rfl (by show 2 * 0 + _ ≤ _; exact Nat.le_of_eq rfl) (hb hby at_175) (fun _ _ => ⟨rfl, e93, (by decide : 4 + 0 ≤ _), (by decide : 22 + 0 ≤ _)⟩)
      dsimp only [Pt.U, Pt.locs, Pt.cells, Pt.slots] at X94 l94 y94 z94 st94 hQ94
      subst l94 y94 z94
      obtain ⟨rfl, Nq94, Kq94, Fq94_0, Fq94_1, Fq94_2⟩ := hQ94
      have N94 := Fr.app N93 Nq94
      have F95 : Old Z n0 T94.heap := F88.keep Kq94 (allS g_b62 all0)
      have F96 : Arv Z T94.heap b58 k58 .byte (p1 &&& (7 : Int32)) [] (.int (0 : Int32)) := F89.keep Kq94 (ninS ne63 nin0)
      have F97 : Exa Z T94.heap b62 "com/example/offst/offst/group/Member" := Fq87_0.keep Kq94
      have K94 : Keep h0 T94.heap [] := K87.trans Kq94 (allS (Or.inr sz_b62) all0)
      have Z94 : n0 ≤ T94.heap.size := Nat.le_trans Z87 Kq94.1
      have hk94 : _ ≤ T94.heap.size := Nat.le_trans hk87 Kq94.1
      refine own_go (fun t k => st94.trans k) ?_
      show OwnG p.tables e below _ (T94.setTop (mkF m 178 #[.val (.long p0), .second, .val (.int p1), .val (.int p2), .val (.int p3), .val (.int (p1 &&& (7 : Int32))), .val (.int (p2 &&& (7 : Int32))), .val (.int (0 : Int32)), .val (.int (1 : Int32)), .val (.ref b58), .val (.ref b58), .val (.int (p1 &&& (7 : Int32))), .val (.ref b62), .val (.long (0 : Int64)), .second, .val (.int (1 : Int32)), .val (.int (1 : Int32)), .unset] []))
      have F98 : Fld Z T94.heap b62 "com/example/offst/offst/group/Member" "heldBytes" "J" (.long ((0 : Int64) + ((p1 &&& (7 : Int32)).toInt64))) := by rw [show ((0 : Int64) + ((p1 &&& (7 : Int32)).toInt64)) = _ from own_second (0 : Int64) p1 p1]; exact Fq94_2
      refine own_go (fun t k => XS.aload X94.here hx rfl (hb hby at_178) rfl rfl k) ?_
      show OwnG p.tables e below _ (T94.setTop (mkF m 180 #[.val (.long p0), .second, .val (.int p1), .val (.int p2), .val (.int p3), .val (.int (p1 &&& (7 : Int32))), .val (.int (p2 &&& (7 : Int32))), .val (.int (0 : Int32)), .val (.int (1 : Int32)), .val (.ref b58), .val (.ref b58), .val (.int (p1 &&& (7 : Int32))), .val (.ref b62), .val (.long (0 : Int64)), .second, .val (.int (1 : Int32)), .val (.int (1 : Int32)), .unset] [(.ref b62)]))
      obtain ⟨cq99, kq99, q99a, q99b, q99c⟩ := isOf hZ71 rfl Fq94_0
      obtain ⟨_, _, ⟨T99, L99, k99, n99⟩, -, X99, ⟨Lc99, hQ99, l99, y99, z99⟩, st99⟩ := X94.virtualBack hx (y := (⟨"com/example/offst/offst/group/Member", "heldBytes", "()J"⟩ : MethodName)) (z := (⟨"com/example/offst/offst/group/Member", "heldBytes", "()J"⟩ : MethodName)) hO71 (mvT hZ71 (hw _ (List.mem_of_getElem? (i := 28) rfl))) (mvT hZ71 (hw _ (List.mem_of_getElem? (i := 29) rfl))) (notFace_of_selects (args := #[]) (mvT hZ71 (hw _ (List.mem_of_getElem? (i := 31) rfl)))) (mvT hZ71 (hw _ (List.mem_of_getElem? (i := 31) rfl))) (mvT hZ71 (hw _ (List.mem_of_getElem? (i := 30) rfl))) (by decide) (backOf (W := 0) (own_held l Z a0 hw [] b62 ((0 : Int64) + ((p1 &&& (7 : Int32)).toInt64)) T94.heap n0 Z94 F98) hZ71 (hw _ (List.mem_of_getElem? (i := 32) rfl)) (hw _ (List.mem_of_getElem? (i := 3) rfl)) (by decide) (by decide)) q99a q99c (g := (mkF m 180 #[.val (.long p0), .second, .val (.int p1), .val (.int p2), .val (.int p3), .val (.int (p1 &&& (7 : Int32))), .val (.int (p2 &&& (7 : Int32))), .val (.int (0 : Int32)), .val (.int (1 : Int32)), .val (.ref b58), .val (.ref b58), .val (.int (p1 &&& (7 : Int32))), .val (.ref b62), .val (.long (0 : Int64)), .second, .val (.int (1 : Int32)), .val (.int (1 : Int32)), .unset] [(.ref b62)])) rfl (by rw [hml]; rfl) (Steps.refl _) (argsL := []) (rest := []) (lenOf own_pd51 rfl) rfl (by show 2 * 0 + _ ≤ _; exact Nat.le_of_eq rfl) (hb hby at_180) (fun _ _ => ⟨rfl, rfl, (by decide : 4 + 0 ≤ _), (by decide : 22 + 0 ≤ _)⟩)
      dsimp only [Pt.U, Pt.locs, Pt.cells, Pt.slots] at X99 l99 y99 z99 st99 hQ99
      subst l99 y99 z99
      obtain ⟨rfl, Nq99, eq99⟩ := hQ99
      have N99 := Fr.app N94 Nq99
      have e99 : T99.heap = T94.heap := eq99
      refine own_go (fun t k => st99.trans k) ?_
      show OwnG p.tables e below _ (T99.setTop (mkF m 183 #[.val (.long p0), .second, .val (.int p1), .val (.int p2), .val (.int p3), .val (.int (p1 &&& (7 : Int32))), .val (.int (p2 &&& (7 : Int32))), .val (.int (0 : Int32)), .val (.int (1 : Int32)), .val (.ref b58), .val (.ref b58), .val (.int (p1 &&& (7 : Int32))), .val (.ref b62), .val (.long (0 : Int64)), .second, .val (.int (1 : Int32)), .val (.int (1 : Int32)), .unset] [(.long ((0 : Int64) + ((p1 &&& (7 : Int32)).toInt64)))]))
      refine own_go (fun t k => XS.lload X99.here hx rfl (hb hby at_183) rfl  k) ?_
      show OwnG p.tables e below _ (T99.setTop (mkF m 185 #[.val (.long p0), .second, .val (.int p1), .val (.int p2), .val (.int p3), .val (.int (p1 &&& (7 : Int32))), .val (.int (p2 &&& (7 : Int32))), .val (.int (0 : Int32)), .val (.int (1 : Int32)), .val (.ref b58), .val (.ref b58), .val (.int (p1 &&& (7 : Int32))), .val (.ref b62), .val (.long (0 : Int64)), .second, .val (.int (1 : Int32)), .val (.int (1 : Int32)), .unset] [(.long (0 : Int64)), (.long ((0 : Int64) + ((p1 &&& (7 : Int32)).toInt64)))]))
      refine own_go (fun t k => XS.iload X99.here hx rfl (hb hby at_185) rfl  k) ?_
      show OwnG p.tables e below _ (T99.setTop (mkF m 187 #[.val (.long p0), .second, .val (.int p1), .val (.int p2), .val (.int p3), .val (.int (p1 &&& (7 : Int32))), .val (.int (p2 &&& (7 : Int32))), .val (.int (0 : Int32)), .val (.int (1 : Int32)), .val (.ref b58), .val (.ref b58), .val (.int (p1 &&& (7 : Int32))), .val (.ref b62), .val (.long (0 : Int64)), .second, .val (.int (1 : Int32)), .val (.int (1 : Int32)), .unset] [(.int (p1 &&& (7 : Int32))), (.long (0 : Int64)), (.long ((0 : Int64) + ((p1 &&& (7 : Int32)).toInt64)))]))
      refine own_go (fun t k => XS.i2l X99.here hx rfl (hb hby at_187) rfl k) ?_
      show OwnG p.tables e below _ (T99.setTop (mkF m 188 #[.val (.long p0), .second, .val (.int p1), .val (.int p2), .val (.int p3), .val (.int (p1 &&& (7 : Int32))), .val (.int (p2 &&& (7 : Int32))), .val (.int (0 : Int32)), .val (.int (1 : Int32)), .val (.ref b58), .val (.ref b58), .val (.int (p1 &&& (7 : Int32))), .val (.ref b62), .val (.long (0 : Int64)), .second, .val (.int (1 : Int32)), .val (.int (1 : Int32)), .unset] [(.long ((p1 &&& (7 : Int32)).toInt64)), (.long (0 : Int64)), (.long ((0 : Int64) + ((p1 &&& (7 : Int32)).toInt64)))]))
      refine own_go (fun t k => XS.ladd X99.here hx rfl (hb hby at_188) rfl k) ?_
      show OwnG p.tables e below _ (T99.setTop (mkF m 189 #[.val (.long p0), .second, .val (.int p1), .val (.int p2), .val (.int p3), .val (.int (p1 &&& (7 : Int32))), .val (.int (p2 &&& (7 : Int32))), .val (.int (0 : Int32)), .val (.int (1 : Int32)), .val (.ref b58), .val (.ref b58), .val (.int (p1 &&& (7 : Int32))), .val (.ref b62), .val (.long (0 : Int64)), .second, .val (.int (1 : Int32)), .val (.int (1 : Int32)), .unset] [(.long ((0 : Int64) + ((p1 &&& (7 : Int32)).toInt64))), (.long ((0 : Int64) + ((p1 &&& (7 : Int32)).toInt64)))]))
      refine own_go (fun t k => XS.lcmp X99.here hx rfl (hb hby at_189) rfl k) ?_
      show OwnG p.tables e below _ (T99.setTop (mkF m 190 #[.val (.long p0), .second, .val (.int p1), .val (.int p2), .val (.int p3), .val (.int (p1 &&& (7 : Int32))), .val (.int (p2 &&& (7 : Int32))), .val (.int (0 : Int32)), .val (.int (1 : Int32)), .val (.ref b58), .val (.ref b58), .val (.int (p1 &&& (7 : Int32))), .val (.ref b62), .val (.long (0 : Int64)), .second, .val (.int (1 : Int32)), .val (.int (1 : Int32)), .unset] [(.int (lcmpW ((0 : Int64) + ((p1 &&& (7 : Int32)).toInt64)) ((0 : Int64) + ((p1 &&& (7 : Int32)).toInt64))))]))
      refine own_go (fun t k => XS.ifNo X99.here hx rfl (hb hby at_190) rfl ((if0 _ _).trans (teq ((lw_eq _ _).mpr (rfl : ((0 : Int64) + ((p1 &&& (7 : Int32)).toInt64)) = ((0 : Int64) + ((p1 &&& (7 : Int32)).toInt64))))).2) k) ?_
      show OwnG p.tables e below _ (T99.setTop (mkF m 193 #[.val (.long p0), .second, .val (.int p1), .val (.int p2), .val (.int p3), .val (.int (p1 &&& (7 : Int32))), .val (.int (p2 &&& (7 : Int32))), .val (.int (0 : Int32)), .val (.int (1 : Int32)), .val (.ref b58), .val (.ref b58), .val (.int (p1 &&& (7 : Int32))), .val (.ref b62), .val (.long (0 : Int64)), .second, .val (.int (1 : Int32)), .val (.int (1 : Int32)), .unset] []))
      refine own_go (fun t k => XS.aload X99.here hx rfl (hb hby at_193) rfl rfl k) ?_
      show OwnG p.tables e below _ (T99.setTop (mkF m 195 #[.val (.long p0), .second, .val (.int p1), .val (.int p2), .val (.int p3), .val (.int (p1 &&& (7 : Int32))), .val (.int (p2 &&& (7 : Int32))), .val (.int (0 : Int32)), .val (.int (1 : Int32)), .val (.ref b58), .val (.ref b58), .val (.int (p1 &&& (7 : Int32))), .val (.ref b62), .val (.long (0 : Int64)), .second, .val (.int (1 : Int32)), .val (.int (1 : Int32)), .unset] [(.ref b62)]))
      obtain ⟨cq100, kq100, q100a, q100b, q100c⟩ := isOf hZ71 e99 Fq94_0
      obtain ⟨_, _, ⟨T100, L100, k100, n100⟩, -, X100, ⟨Lc100, hQ100, l100, y100, z100⟩, st100⟩ := X99.virtualBack hx (y := (⟨"com/example/offst/offst/group/Member", "assignment", "()[B"⟩ : MethodName)) (z := (⟨"com/example/offst/offst/group/Member", "assignment", "()[B"⟩ : MethodName)) hO71 (mvT hZ71 (hw _ (List.mem_of_getElem? (i := 23) rfl))) (mvT hZ71 (hw _ (List.mem_of_getElem? (i := 24) rfl))) (notFace_of_selects (args := #[]) (mvT hZ71 (hw _ (List.mem_of_getElem? (i := 26) rfl)))) (mvT hZ71 (hw _ (List.mem_of_getElem? (i := 26) rfl))) (mvT hZ71 (hw _ (List.mem_of_getElem? (i := 25) rfl))) (by decide) (backOf (W := 0) (own_assignment l Z a0 hw [] b62 b58 T94.heap n0 Z94 Fq94_1) hZ71 (hw _ (List.mem_of_getElem? (i := 27) rfl)) (hw _ (List.mem_of_getElem? (i := 3) rfl)) (by decide) (by decide)) q100a q100c (g := (mkF m 195 #[.val (.long p0), .second, .val (.int p1), .val (.int p2), .val (.int p3), .val (.int (p1 &&& (7 : Int32))), .val (.int (p2 &&& (7 : Int32))), .val (.int (0 : Int32)), .val (.int (1 : Int32)), .val (.ref b58), .val (.ref b58), .val (.int (p1 &&& (7 : Int32))), .val (.ref b62), .val (.long (0 : Int64)), .second, .val (.int (1 : Int32)), .val (.int (1 : Int32)), .unset] [(.ref b62)])) rfl (by rw [hml]; rfl) (Steps.refl _) (argsL := []) (rest := []) (lenOf own_pd50 rfl) rfl (by show 2 * 0 + _ ≤ _; exact Nat.le_of_eq rfl) (hb hby at_195) (fun _ _ => ⟨rfl, e99, (by decide : 4 + 0 ≤ _), (by decide : 22 + 0 ≤ _)⟩)
      dsimp only [Pt.U, Pt.locs, Pt.cells, Pt.slots] at X100 l100 y100 z100 st100 hQ100
      subst l100 y100 z100
      obtain ⟨rfl, Nq100, eq100⟩ := hQ100
      have N100 := Fr.app N99 Nq100
      have e100 : T100.heap = T94.heap := eq100
      refine own_go (fun t k => st100.trans k) ?_
      show OwnG p.tables e below _ (T100.setTop (mkF m 198 #[.val (.long p0), .second, .val (.int p1), .val (.int p2), .val (.int p3), .val (.int (p1 &&& (7 : Int32))), .val (.int (p2 &&& (7 : Int32))), .val (.int (0 : Int32)), .val (.int (1 : Int32)), .val (.ref b58), .val (.ref b58), .val (.int (p1 &&& (7 : Int32))), .val (.ref b62), .val (.long (0 : Int64)), .second, .val (.int (1 : Int32)), .val (.int (1 : Int32)), .unset] [(.ref b58)]))
      refine own_go (fun t k => XS.aload X100.here hx rfl (hb hby at_198) rfl rfl k) ?_
      show OwnG p.tables e below _ (T100.setTop (mkF m 200 #[.val (.long p0), .second, .val (.int p1), .val (.int p2), .val (.int p3), .val (.int (p1 &&& (7 : Int32))), .val (.int (p2 &&& (7 : Int32))), .val (.int (0 : Int32)), .val (.int (1 : Int32)), .val (.ref b58), .val (.ref b58), .val (.int (p1 &&& (7 : Int32))), .val (.ref b62), .val (.long (0 : Int64)), .second, .val (.int (1 : Int32)), .val (.int (1 : Int32)), .unset] [(.ref b58), (.ref b58)]))
      refine own_go (fun t k => Jvm.RoadKit.acmp (g := (mkF m 200 #[.val (.long p0), .second, .val (.int p1), .val (.int p2), .val (.int p3), .val (.int (p1 &&& (7 : Int32))), .val (.int (p2 &&& (7 : Int32))), .val (.int (0 : Int32)), .val (.int (1 : Int32)), .val (.ref b58), .val (.ref b58), .val (.int (p1 &&& (7 : Int32))), .val (.ref b62), .val (.long (0 : Int64)), .second, .val (.int (1 : Int32)), .val (.int (1 : Int32)), .unset] [(.ref b58), (.ref b58)])) X100 hx rfl rfl rfl (pc0 := 200) (pc' := 203) (same := true) rfl (hb hby at_200) rfl (decide_eq_true rfl) (by decide) (by decide) k) ?_
      show OwnG p.tables e below _ (T100.setTop (mkF m 203 #[.val (.long p0), .second, .val (.int p1), .val (.int p2), .val (.int p3), .val (.int (p1 &&& (7 : Int32))), .val (.int (p2 &&& (7 : Int32))), .val (.int (0 : Int32)), .val (.int (1 : Int32)), .val (.ref b58), .val (.ref b58), .val (.int (p1 &&& (7 : Int32))), .val (.ref b62), .val (.long (0 : Int64)), .second, .val (.int (1 : Int32)), .val (.int (1 : Int32)), .unset] []))
      refine own_go (fun t k => XS.iconst X100.here hx rfl (hb hby at_203) k) ?_
      show OwnG p.tables e below _ (T100.setTop (mkF m 204 #[.val (.long p0), .second, .val (.int p1), .val (.int p2), .val (.int p3), .val (.int (p1 &&& (7 : Int32))), .val (.int (p2 &&& (7 : Int32))), .val (.int (0 : Int32)), .val (.int (1 : Int32)), .val (.ref b58), .val (.ref b58), .val (.int (p1 &&& (7 : Int32))), .val (.ref b62), .val (.long (0 : Int64)), .second, .val (.int (1 : Int32)), .val (.int (1 : Int32)), .unset] [(.int (1 : Int32))]))
      refine own_go (fun t k => XS.goto X100.here hx rfl (pc0 := 204) (pc' := 208) rfl (hb hby at_204) (by decide) (by decide) k) ?_
      show OwnG p.tables e below _ (T100.setTop (mkF m 208 #[.val (.long p0), .second, .val (.int p1), .val (.int p2), .val (.int p3), .val (.int (p1 &&& (7 : Int32))), .val (.int (p2 &&& (7 : Int32))), .val (.int (0 : Int32)), .val (.int (1 : Int32)), .val (.ref b58), .val (.ref b58), .val (.int (p1 &&& (7 : Int32))), .val (.ref b62), .val (.long (0 : Int64)), .second, .val (.int (1 : Int32)), .val (.int (1 : Int32)), .unset] [(.int (1 : Int32))]))
      refine own_go (fun t k => XS.istore X100.here hx rfl (hb hby at_208) rfl (l' := #[.val (.long p0), .second, .val (.int p1), .val (.int p2), .val (.int p3), .val (.int (p1 &&& (7 : Int32))), .val (.int (p2 &&& (7 : Int32))), .val (.int (0 : Int32)), .val (.int (1 : Int32)), .val (.ref b58), .val (.ref b58), .val (.int (p1 &&& (7 : Int32))), .val (.ref b62), .val (.long (0 : Int64)), .second, .val (.int (1 : Int32)), .val (.int (1 : Int32)), .val (.int (1 : Int32))]) rfl k) ?_
      show OwnG p.tables e below _ (T100.setTop (mkF m 210 #[.val (.long p0), .second, .val (.int p1), .val (.int p2), .val (.int p3), .val (.int (p1 &&& (7 : Int32))), .val (.int (p2 &&& (7 : Int32))), .val (.int (0 : Int32)), .val (.int (1 : Int32)), .val (.ref b58), .val (.ref b58), .val (.int (p1 &&& (7 : Int32))), .val (.ref b62), .val (.long (0 : Int64)), .second, .val (.int (1 : Int32)), .val (.int (1 : Int32)), .val (.int (1 : Int32))] []))
      refine own_go (fun t k => XS.iload X100.here hx rfl (hb hby at_210) rfl  k) ?_
      show OwnG p.tables e below _ (T100.setTop (mkF m 212 #[.val (.long p0), .second, .val (.int p1), .val (.int p2), .val (.int p3), .val (.int (p1 &&& (7 : Int32))), .val (.int (p2 &&& (7 : Int32))), .val (.int (0 : Int32)), .val (.int (1 : Int32)), .val (.ref b58), .val (.ref b58), .val (.int (p1 &&& (7 : Int32))), .val (.ref b62), .val (.long (0 : Int64)), .second, .val (.int (1 : Int32)), .val (.int (1 : Int32)), .val (.int (1 : Int32))] [(.int (1 : Int32))]))
      refine own_go (fun t k => XS.ifNo X100.here hx rfl (hb hby at_212) rfl ((if0 _ _).trans (feq (by decide : ¬ ((1 : Int32) = (0 : Int32)))).1) k) ?_
      show OwnG p.tables e below _ (T100.setTop (mkF m 215 #[.val (.long p0), .second, .val (.int p1), .val (.int p2), .val (.int p3), .val (.int (p1 &&& (7 : Int32))), .val (.int (p2 &&& (7 : Int32))), .val (.int (0 : Int32)), .val (.int (1 : Int32)), .val (.ref b58), .val (.ref b58), .val (.int (p1 &&& (7 : Int32))), .val (.ref b62), .val (.long (0 : Int64)), .second, .val (.int (1 : Int32)), .val (.int (1 : Int32)), .val (.int (1 : Int32))] []))
      refine own_go (fun t k => XS.iload X100.here hx rfl (hb hby at_215) rfl  k) ?_
      show OwnG p.tables e below _ (T100.setTop (mkF m 217 #[.val (.long p0), .second, .val (.int p1), .val (.int p2), .val (.int p3), .val (.int (p1 &&& (7 : Int32))), .val (.int (p2 &&& (7 : Int32))), .val (.int (0 : Int32)), .val (.int (1 : Int32)), .val (.ref b58), .val (.ref b58), .val (.int (p1 &&& (7 : Int32))), .val (.ref b62), .val (.long (0 : Int64)), .second, .val (.int (1 : Int32)), .val (.int (1 : Int32)), .val (.int (1 : Int32))] [(.int (1 : Int32))]))
      refine own_go (fun t k => XS.ifNo X100.here hx rfl (hb hby at_217) rfl ((if0 _ _).trans (feq (by decide : ¬ ((1 : Int32) = (0 : Int32)))).1) k) ?_
      show OwnG p.tables e below _ (T100.setTop (mkF m 220 #[.val (.long p0), .second, .val (.int p1), .val (.int p2), .val (.int p3), .val (.int (p1 &&& (7 : Int32))), .val (.int (p2 &&& (7 : Int32))), .val (.int (0 : Int32)), .val (.int (1 : Int32)), .val (.ref b58), .val (.ref b58), .val (.int (p1 &&& (7 : Int32))), .val (.ref b62), .val (.long (0 : Int64)), .second, .val (.int (1 : Int32)), .val (.int (1 : Int32)), .val (.int (1 : Int32))] []))
      refine own_go (fun t k => XS.iload X100.here hx rfl (hb hby at_220) rfl  k) ?_
      show OwnG p.tables e below _ (T100.setTop (mkF m 222 #[.val (.long p0), .second, .val (.int p1), .val (.int p2), .val (.int p3), .val (.int (p1 &&& (7 : Int32))), .val (.int (p2 &&& (7 : Int32))), .val (.int (0 : Int32)), .val (.int (1 : Int32)), .val (.ref b58), .val (.ref b58), .val (.int (p1 &&& (7 : Int32))), .val (.ref b62), .val (.long (0 : Int64)), .second, .val (.int (1 : Int32)), .val (.int (1 : Int32)), .val (.int (1 : Int32))] [(.int (1 : Int32))]))
      refine own_go (fun t k => XS.ifNo X100.here hx rfl (hb hby at_222) rfl ((if0 _ _).trans (feq (by decide : ¬ ((1 : Int32) = (0 : Int32)))).1) k) ?_
      show OwnG p.tables e below _ (T100.setTop (mkF m 225 #[.val (.long p0), .second, .val (.int p1), .val (.int p2), .val (.int p3), .val (.int (p1 &&& (7 : Int32))), .val (.int (p2 &&& (7 : Int32))), .val (.int (0 : Int32)), .val (.int (1 : Int32)), .val (.ref b58), .val (.ref b58), .val (.int (p1 &&& (7 : Int32))), .val (.ref b62), .val (.long (0 : Int64)), .second, .val (.int (1 : Int32)), .val (.int (1 : Int32)), .val (.int (1 : Int32))] []))
      refine own_go (fun t k => XS.iconst X100.here hx rfl (hb hby at_225) k) ?_
      show OwnG p.tables e below _ (T100.setTop (mkF m 226 #[.val (.long p0), .second, .val (.int p1), .val (.int p2), .val (.int p3), .val (.int (p1 &&& (7 : Int32))), .val (.int (p2 &&& (7 : Int32))), .val (.int (0 : Int32)), .val (.int (1 : Int32)), .val (.ref b58), .val (.ref b58), .val (.int (p1 &&& (7 : Int32))), .val (.ref b62), .val (.long (0 : Int64)), .second, .val (.int (1 : Int32)), .val (.int (1 : Int32)), .val (.int (1 : Int32))] [(.int (1 : Int32))]))
      refine own_go (fun t k => XS.goto X100.here hx rfl (pc0 := 226) (pc' := 230) rfl (hb hby at_226) (by decide) (by decide) k) ?_
      show OwnG p.tables e below _ (T100.setTop (mkF m 230 #[.val (.long p0), .second, .val (.int p1), .val (.int p2), .val (.int p3), .val (.int (p1 &&& (7 : Int32))), .val (.int (p2 &&& (7 : Int32))), .val (.int (0 : Int32)), .val (.int (1 : Int32)), .val (.ref b58), .val (.ref b58), .val (.int (p1 &&& (7 : Int32))), .val (.ref b62), .val (.long (0 : Int64)), .second, .val (.int (1 : Int32)), .val (.int (1 : Int32)), .val (.int (1 : Int32))] [(.int (1 : Int32))]))
      obtain ⟨fs, hr, hrun, hended, ⟨-, hW2, hW3, hsame⟩⟩ := Jvm.Stand.leaveW (s := s) (vm₁ := T71.vm) X100 S71 (show _ ≤ T100.heap.size from by rw [e100]; exact hk94) (v := some (.int (1 : Int32))) (fun h => by rw [Bd.returns] at h; cases h)
      refine ⟨_, _, retN X100 hx (t := .boolean) Bd.returns (by simp) (hb hby at_230) hr, hrun, hended, _, _, rfl, ?_, ⟨_, rfl⟩, hW2, hW3, hsame.mono (by decide) (by decide)⟩
      show Q_own_law Z p0 p1 p2 p3 o_NO_ASSIGNMENT kc_o_NO_ASSIGNMENT h0 n0 _ T100.heap _
      rw [e100]
      exact ⟨rfl, N100⟩
  · refine own_go (fun t k => XS.ifNo X0.here hx rfl (hb hby at_16) rfl ((if0 _ _).trans (feq hc1).1) k) ?_
    show OwnG p.tables e below _ (s₁.setTop (mkF m 19 #[.val (.long p0), .second, .val (.int p1), .val (.int p2), .val (.int p3), .val (.int (p1 &&& (7 : Int32))), .val (.int (p2 &&& (7 : Int32))), .unset, .unset, .unset, .unset, .unset, .unset, .unset, .unset, .unset, .unset, .unset] []))
    refine own_go (fun t k => XS.iconst X0.here hx rfl (hb hby at_19) k) ?_
    show OwnG p.tables e below _ (s₁.setTop (mkF m 20 #[.val (.long p0), .second, .val (.int p1), .val (.int p2), .val (.int p3), .val (.int (p1 &&& (7 : Int32))), .val (.int (p2 &&& (7 : Int32))), .unset, .unset, .unset, .unset, .unset, .unset, .unset, .unset, .unset, .unset, .unset] [(.int (1 : Int32))]))
    refine own_go (fun t k => XS.goto X0.here hx rfl (pc0 := 20) (pc' := 24) rfl (hb hby at_20) (by decide) (by decide) k) ?_
    show OwnG p.tables e below _ (s₁.setTop (mkF m 24 #[.val (.long p0), .second, .val (.int p1), .val (.int p2), .val (.int p3), .val (.int (p1 &&& (7 : Int32))), .val (.int (p2 &&& (7 : Int32))), .unset, .unset, .unset, .unset, .unset, .unset, .unset, .unset, .unset, .unset, .unset] [(.int (1 : Int32))]))
    refine own_go (fun t k => XS.istore X0.here hx rfl (hb hby at_24) rfl (l' := #[.val (.long p0), .second, .val (.int p1), .val (.int p2), .val (.int p3), .val (.int (p1 &&& (7 : Int32))), .val (.int (p2 &&& (7 : Int32))), .val (.int (1 : Int32)), .unset, .unset, .unset, .unset, .unset, .unset, .unset, .unset, .unset, .unset]) rfl k) ?_
    show OwnG p.tables e below _ (s₁.setTop (mkF m 26 #[.val (.long p0), .second, .val (.int p1), .val (.int p2), .val (.int p3), .val (.int (p1 &&& (7 : Int32))), .val (.int (p2 &&& (7 : Int32))), .val (.int (1 : Int32)), .unset, .unset, .unset, .unset, .unset, .unset, .unset, .unset, .unset, .unset] []))
    refine own_go (fun t k => XS.iload X0.here hx rfl (hb hby at_26) rfl  k) ?_
    show OwnG p.tables e below _ (s₁.setTop (mkF m 28 #[.val (.long p0), .second, .val (.int p1), .val (.int p2), .val (.int p3), .val (.int (p1 &&& (7 : Int32))), .val (.int (p2 &&& (7 : Int32))), .val (.int (1 : Int32)), .unset, .unset, .unset, .unset, .unset, .unset, .unset, .unset, .unset, .unset] [(.int p3)]))
    refine own_go (fun t k => XS.iconst X0.here hx rfl (hb hby at_28) k) ?_
    show OwnG p.tables e below _ (s₁.setTop (mkF m 29 #[.val (.long p0), .second, .val (.int p1), .val (.int p2), .val (.int p3), .val (.int (p1 &&& (7 : Int32))), .val (.int (p2 &&& (7 : Int32))), .val (.int (1 : Int32)), .unset, .unset, .unset, .unset, .unset, .unset, .unset, .unset, .unset, .unset] [(.int (2 : Int32)), (.int p3)]))
    refine own_go (fun t k => XS.iand X0.here hx rfl (hb hby at_29) rfl k) ?_
    show OwnG p.tables e below _ (s₁.setTop (mkF m 30 #[.val (.long p0), .second, .val (.int p1), .val (.int p2), .val (.int p3), .val (.int (p1 &&& (7 : Int32))), .val (.int (p2 &&& (7 : Int32))), .val (.int (1 : Int32)), .unset, .unset, .unset, .unset, .unset, .unset, .unset, .unset, .unset, .unset] [(.int (p3 &&& (2 : Int32)))]))
    by_cases hc101 : (p3 &&& (2 : Int32)) = (0 : Int32)
    · refine own_go (fun t k => XS.ifYes X0.here hx rfl (pc0 := 30) (pc' := 37) rfl (hb hby at_30) rfl ((if0 _ _).trans (teq hc101).1) (by decide) (by decide) k) ?_
      show OwnG p.tables e below _ (s₁.setTop (mkF m 37 #[.val (.long p0), .second, .val (.int p1), .val (.int p2), .val (.int p3), .val (.int (p1 &&& (7 : Int32))), .val (.int (p2 &&& (7 : Int32))), .val (.int (1 : Int32)), .unset, .unset, .unset, .unset, .unset, .unset, .unset, .unset, .unset, .unset] []))
      refine own_go (fun t k => XS.iconst X0.here hx rfl (hb hby at_37) k) ?_
      show OwnG p.tables e below _ (s₁.setTop (mkF m 38 #[.val (.long p0), .second, .val (.int p1), .val (.int p2), .val (.int p3), .val (.int (p1 &&& (7 : Int32))), .val (.int (p2 &&& (7 : Int32))), .val (.int (1 : Int32)), .unset, .unset, .unset, .unset, .unset, .unset, .unset, .unset, .unset, .unset] [(.int (0 : Int32))]))
      refine own_go (fun t k => XS.istore X0.here hx rfl (hb hby at_38) rfl (l' := #[.val (.long p0), .second, .val (.int p1), .val (.int p2), .val (.int p3), .val (.int (p1 &&& (7 : Int32))), .val (.int (p2 &&& (7 : Int32))), .val (.int (1 : Int32)), .val (.int (0 : Int32)), .unset, .unset, .unset, .unset, .unset, .unset, .unset, .unset, .unset]) rfl k) ?_
      show OwnG p.tables e below _ (s₁.setTop (mkF m 40 #[.val (.long p0), .second, .val (.int p1), .val (.int p2), .val (.int p3), .val (.int (p1 &&& (7 : Int32))), .val (.int (p2 &&& (7 : Int32))), .val (.int (1 : Int32)), .val (.int (0 : Int32)), .unset, .unset, .unset, .unset, .unset, .unset, .unset, .unset, .unset] []))
      refine own_go (fun t k => XS.iload X0.here hx rfl (hb hby at_40) rfl  k) ?_
      show OwnG p.tables e below _ (s₁.setTop (mkF m 42 #[.val (.long p0), .second, .val (.int p1), .val (.int p2), .val (.int p3), .val (.int (p1 &&& (7 : Int32))), .val (.int (p2 &&& (7 : Int32))), .val (.int (1 : Int32)), .val (.int (0 : Int32)), .unset, .unset, .unset, .unset, .unset, .unset, .unset, .unset, .unset] [(.int (p1 &&& (7 : Int32)))]))
      obtain ⟨T102, h102, k102, X102, e102, E102, A102, st102⟩ := newP X0 hx hZ (hw _ (List.mem_of_getElem? (i := 0) rfl)) e0 (g := (mkF m 42 #[.val (.long p0), .second, .val (.int p1), .val (.int p2), .val (.int p3), .val (.int (p1 &&& (7 : Int32))), .val (.int (p2 &&& (7 : Int32))), .val (.int (1 : Int32)), .val (.int (0 : Int32)), .unset, .unset, .unset, .unset, .unset, .unset, .unset, .unset, .unset] [(.int (p1 &&& (7 : Int32)))])) rfl (hb hby at_42) rfl (own_m7 p1).1 (cap := 7) (own_m7 p1).2 (by decide) (by decide) (by decide)
      obtain ⟨b102, g102⟩ : ∃ z, z = h0.size := ⟨_, rfl⟩
      rw [← g102] at A102 st102
      have g_b102 : n0 ≤ b102 := Nat.le_trans Z0 (Nat.le_of_eq g102.symm)
      have sz_b102 : h0.size ≤ b102 := Nat.le_trans K0.1 (Nat.le_of_eq g102.symm)
      have F103 : Old Z n0 h102 := O0.ext E102
      have K104 : Keep h0 h102 [] := K0.ext E102
      have Z104 : n0 ≤ h102.size := Nat.le_trans Z0 E102.1
      have F105 : Arv Z h102 b102 k102 .byte (p1 &&& (7 : Int32)) [] (.int (0 : Int32)) := Arv.new A102 (own_m7 p1).1
      refine own_go (fun t k => st102 t k) ?_
      show OwnG p.tables e below _ (T102.setTop (mkF m 44 #[.val (.long p0), .second, .val (.int p1), .val (.int p2), .val (.int p3), .val (.int (p1 &&& (7 : Int32))), .val (.int (p2 &&& (7 : Int32))), .val (.int (1 : Int32)), .val (.int (0 : Int32)), .unset, .unset, .unset, .unset, .unset, .unset, .unset, .unset, .unset] [(.ref b102)]))
      refine own_go (fun t k => XS.astore X102.here hx rfl (hb hby at_44) rfl rfl (l' := #[.val (.long p0), .second, .val (.int p1), .val (.int p2), .val (.int p3), .val (.int (p1 &&& (7 : Int32))), .val (.int (p2 &&& (7 : Int32))), .val (.int (1 : Int32)), .val (.int (0 : Int32)), .val (.ref b102), .unset, .unset, .unset, .unset, .unset, .unset, .unset, .unset]) rfl k) ?_
      show OwnG p.tables e below _ (T102.setTop (mkF m 46 #[.val (.long p0), .second, .val (.int p1), .val (.int p2), .val (.int p3), .val (.int (p1 &&& (7 : Int32))), .val (.int (p2 &&& (7 : Int32))), .val (.int (1 : Int32)), .val (.int (0 : Int32)), .val (.ref b102), .unset, .unset, .unset, .unset, .unset, .unset, .unset, .unset] []))
      refine own_go (fun t k => XS.iload X102.here hx rfl (hb hby at_46) rfl  k) ?_
      show OwnG p.tables e below _ (T102.setTop (mkF m 48 #[.val (.long p0), .second, .val (.int p1), .val (.int p2), .val (.int p3), .val (.int (p1 &&& (7 : Int32))), .val (.int (p2 &&& (7 : Int32))), .val (.int (1 : Int32)), .val (.int (0 : Int32)), .val (.ref b102), .unset, .unset, .unset, .unset, .unset, .unset, .unset, .unset] [(.int (0 : Int32))]))
      refine own_go (fun t k => XS.ifYes X102.here hx rfl (pc0 := 48) (pc' := 56) rfl (hb hby at_48) rfl ((if0 _ _).trans (teq (by decide : (0 : Int32) = (0 : Int32))).1) (by decide) (by decide) k) ?_
      show OwnG p.tables e below _ (T102.setTop (mkF m 56 #[.val (.long p0), .second, .val (.int p1), .val (.int p2), .val (.int p3), .val (.int (p1 &&& (7 : Int32))), .val (.int (p2 &&& (7 : Int32))), .val (.int (1 : Int32)), .val (.int (0 : Int32)), .val (.ref b102), .unset, .unset, .unset, .unset, .unset, .unset, .unset, .unset] []))
      refine own_go (fun t k => XS.iload X102.here hx rfl (hb hby at_56) rfl  k) ?_
      show OwnG p.tables e below _ (T102.setTop (mkF m 58 #[.val (.long p0), .second, .val (.int p1), .val (.int p2), .val (.int p3), .val (.int (p1 &&& (7 : Int32))), .val (.int (p2 &&& (7 : Int32))), .val (.int (1 : Int32)), .val (.int (0 : Int32)), .val (.ref b102), .unset, .unset, .unset, .unset, .unset, .unset, .unset, .unset] [(.int (p2 &&& (7 : Int32)))]))
      obtain ⟨T106, h106, k106, X106, e106, E106, A106, st106⟩ := newP X102 hx hZ (hw _ (List.mem_of_getElem? (i := 0) rfl)) e102 (g := (mkF m 58 #[.val (.long p0), .second, .val (.int p1), .val (.int p2), .val (.int p3), .val (.int (p1 &&& (7 : Int32))), .val (.int (p2 &&& (7 : Int32))), .val (.int (1 : Int32)), .val (.int (0 : Int32)), .val (.ref b102), .unset, .unset, .unset, .unset, .unset, .unset, .unset, .unset] [(.int (p2 &&& (7 : Int32)))])) rfl (hb hby at_58) rfl (own_m7 p2).1 (cap := 7) (own_m7 p2).2 (by decide) (by decide) (by decide)
      obtain ⟨b106, g106⟩ : ∃ z, z = h102.size := ⟨_, rfl⟩
      rw [← g106] at A106 st106
      have ne107 : b102 ≠ b106 := Nat.ne_of_lt (Nat.lt_of_lt_of_le F105.lt (Nat.le_of_eq g106.symm))
      have g_b106 : n0 ≤ b106 := Nat.le_trans Z104 (Nat.le_of_eq g106.symm)
      have sz_b106 : h0.size ≤ b106 := Nat.le_trans K104.1 (Nat.le_of_eq g106.symm)
      have F108 : Old Z n0 h106 := F103.ext E106
      have F109 : Arv Z h106 b102 k102 .byte (p1 &&& (7 : Int32)) [] (.int (0 : Int32)) := F105.ext E106
      have K110 : Keep h0 h106 [] := K104.ext E106
      have Z110 : n0 ≤ h106.size := Nat.le_trans Z104 E106.1
      have F111 : Arv Z h106 b106 k106 .byte (p2 &&& (7 : Int32)) [] (.int (0 : Int32)) := Arv.new A106 (own_m7 p2).1
      refine own_go (fun t k => st106 t k) ?_
      show OwnG p.tables e below _ (T106.setTop (mkF m 60 #[.val (.long p0), .second, .val (.int p1), .val (.int p2), .val (.int p3), .val (.int (p1 &&& (7 : Int32))), .val (.int (p2 &&& (7 : Int32))), .val (.int (1 : Int32)), .val (.int (0 : Int32)), .val (.ref b102), .unset, .unset, .unset, .unset, .unset, .unset, .unset, .unset] [(.ref b106)]))
      refine own_go (fun t k => XS.astore X106.here hx rfl (hb hby at_60) rfl rfl (l' := #[.val (.long p0), .second, .val (.int p1), .val (.int p2), .val (.int p3), .val (.int (p1 &&& (7 : Int32))), .val (.int (p2 &&& (7 : Int32))), .val (.int (1 : Int32)), .val (.int (0 : Int32)), .val (.ref b102), .val (.ref b106), .unset, .unset, .unset, .unset, .unset, .unset, .unset]) rfl k) ?_
      show OwnG p.tables e below _ (T106.setTop (mkF m 62 #[.val (.long p0), .second, .val (.int p1), .val (.int p2), .val (.int p3), .val (.int (p1 &&& (7 : Int32))), .val (.int (p2 &&& (7 : Int32))), .val (.int (1 : Int32)), .val (.int (0 : Int32)), .val (.ref b102), .val (.ref b106), .unset, .unset, .unset, .unset, .unset, .unset, .unset] []))
      refine own_go (fun t k => XS.iload X106.here hx rfl (hb hby at_62) rfl  k) ?_
      show OwnG p.tables e below _ (T106.setTop (mkF m 64 #[.val (.long p0), .second, .val (.int p1), .val (.int p2), .val (.int p3), .val (.int (p1 &&& (7 : Int32))), .val (.int (p2 &&& (7 : Int32))), .val (.int (1 : Int32)), .val (.int (0 : Int32)), .val (.ref b102), .val (.ref b106), .unset, .unset, .unset, .unset, .unset, .unset, .unset] [(.int (0 : Int32))]))
      refine own_go (fun t k => XS.ifYes X106.here hx rfl (pc0 := 64) (pc' := 72) rfl (hb hby at_64) rfl ((if0 _ _).trans (teq (by decide : (0 : Int32) = (0 : Int32))).1) (by decide) (by decide) k) ?_
      show OwnG p.tables e below _ (T106.setTop (mkF m 72 #[.val (.long p0), .second, .val (.int p1), .val (.int p2), .val (.int p3), .val (.int (p1 &&& (7 : Int32))), .val (.int (p2 &&& (7 : Int32))), .val (.int (1 : Int32)), .val (.int (0 : Int32)), .val (.ref b102), .val (.ref b106), .unset, .unset, .unset, .unset, .unset, .unset, .unset] []))
      refine own_go (fun t k => XS.iload X106.here hx rfl (hb hby at_72) rfl  k) ?_
      show OwnG p.tables e below _ (T106.setTop (mkF m 74 #[.val (.long p0), .second, .val (.int p1), .val (.int p2), .val (.int p3), .val (.int (p1 &&& (7 : Int32))), .val (.int (p2 &&& (7 : Int32))), .val (.int (1 : Int32)), .val (.int (0 : Int32)), .val (.ref b102), .val (.ref b106), .unset, .unset, .unset, .unset, .unset, .unset, .unset] [(.int (p2 &&& (7 : Int32)))]))
      refine own_go (fun t k => XS.istore X106.here hx rfl (hb hby at_74) rfl (l' := #[.val (.long p0), .second, .val (.int p1), .val (.int p2), .val (.int p3), .val (.int (p1 &&& (7 : Int32))), .val (.int (p2 &&& (7 : Int32))), .val (.int (1 : Int32)), .val (.int (0 : Int32)), .val (.ref b102), .val (.ref b106), .val (.int (p2 &&& (7 : Int32))), .unset, .unset, .unset, .unset, .unset, .unset]) rfl k) ?_
      show OwnG p.tables e below _ (T106.setTop (mkF m 76 #[.val (.long p0), .second, .val (.int p1), .val (.int p2), .val (.int p3), .val (.int (p1 &&& (7 : Int32))), .val (.int (p2 &&& (7 : Int32))), .val (.int (1 : Int32)), .val (.int (0 : Int32)), .val (.ref b102), .val (.ref b106), .val (.int (p2 &&& (7 : Int32))), .unset, .unset, .unset, .unset, .unset, .unset] []))
      obtain ⟨T112, h112, X112, e112, E112, A112, D112, -, st112⟩ := newO X106 hx hZ hown (hw _ (List.mem_of_getElem? (i := 1) rfl)) (hw _ (List.mem_of_getElem? (i := 2) rfl)) (hw _ (List.mem_of_getElem? (i := 3) rfl)) e106 (g := (mkF m 76 #[.val (.long p0), .second, .val (.int p1), .val (.int p2), .val (.int p3), .val (.int (p1 &&& (7 : Int32))), .val (.int (p2 &&& (7 : Int32))), .val (.int (1 : Int32)), .val (.int (0 : Int32)), .val (.ref b102), .val (.ref b106), .val (.int (p2 &&& (7 : Int32))), .unset, .unset, .unset, .unset, .unset, .unset] [])) rfl (hb hby at_76) (by decide) (by decide)
      obtain ⟨b112, g112⟩ : ∃ z, z = h106.size := ⟨_, rfl⟩
      rw [← g112] at A112 D112 st112
      have ne113 : b102 ≠ b112 := Nat.ne_of_lt (Nat.lt_of_lt_of_le F109.lt (Nat.le_of_eq g112.symm))
      have ne114 : b106 ≠ b112 := Nat.ne_of_lt (Nat.lt_of_lt_of_le F111.lt (Nat.le_of_eq g112.symm))
      have g_b112 : n0 ≤ b112 := Nat.le_trans Z110 (Nat.le_of_eq g112.symm)
      have sz_b112 : h0.size ≤ b112 := Nat.le_trans K110.1 (Nat.le_of_eq g112.symm)
      have F115 : Old Z n0 h112 := F108.ext E112
      have F116 : Arv Z h112 b102 k102 .byte (p1 &&& (7 : Int32)) [] (.int (0 : Int32)) := F109.ext E112
      have F117 : Arv Z h112 b106 k106 .byte (p2 &&& (7 : Int32)) [] (.int (0 : Int32)) := F111.ext E112
      have K118 : Keep h0 h112 [] := K110.ext E112
      have Z118 : n0 ≤ h112.size := Nat.le_trans Z110 E112.1
      have F119 : Fld Z h112 b112 "com/example/offst/offst/group/Member" "assignment" "[B" .null := D112 (Or.inl (hw _ (List.mem_of_getElem? (i := 20) rfl))) (ty := (.array .byte)) (by decide)
      have F120 : Fld Z h112 b112 "com/example/offst/offst/group/Member" "id" "Ljava/lang/String;" .null := D112 (Or.inr (hw _ (List.mem_of_getElem? (i := 22) rfl))) (ty := (.object "java/lang/String")) (by decide)
      have F121 : Fld Z h112 b112 "com/example/offst/offst/group/Member" "heldBytes" "J" (.long (0 : Int64)) := D112 (Or.inl (hw _ (List.mem_of_getElem? (i := 34) rfl))) (ty := .long) (by decide)
      have F122 : Fld Z h112 b112 "com/example/offst/offst/group/Member" "joinedWith" "Lcom/example/offst/offst/protocol/JoinGroupRequest;" .null := D112 (Or.inl (hw _ (List.mem_of_getElem? (i := 46) rfl))) (ty := (.object "com/example/offst/offst/protocol/JoinGroupRequest")) (by decide)
      refine own_go (fun t k => st112 t k) ?_
      show OwnG p.tables e below _ (T112.setTop (mkF m 79 #[.val (.long p0), .second, .val (.int p1), .val (.int p2), .val (.int p3), .val (.int (p1 &&& (7 : Int32))), .val (.int (p2 &&& (7 : Int32))), .val (.int (1 : Int32)), .val (.int (0 : Int32)), .val (.ref b102), .val (.ref b106), .val (.int (p2 &&& (7 : Int32))), .unset, .unset, .unset, .unset, .unset, .unset] [(.ref b112)]))
      refine own_go (fun t k => XS.dup X112.here hx rfl (hb hby at_79) rfl rfl k) ?_
      show OwnG p.tables e below _ (T112.setTop (mkF m 80 #[.val (.long p0), .second, .val (.int p1), .val (.int p2), .val (.int p3), .val (.int (p1 &&& (7 : Int32))), .val (.int (p2 &&& (7 : Int32))), .val (.int (1 : Int32)), .val (.int (0 : Int32)), .val (.ref b102), .val (.ref b106), .val (.int (p2 &&& (7 : Int32))), .unset, .unset, .unset, .unset, .unset, .unset] [(.ref b112), (.ref b112)]))
      obtain ⟨a123, T123, h123, kk123, X123, e123, E123, S123, hk123, hZ123, hO123, st123⟩ := ldcS (s := s) (vm0 := s.vm) X112 hx hZ hown (hw _ (List.mem_of_getElem? (i := 4) rfl)) (own_sa Z a0 hw) e112 hS0 (Nat.zero_le _) (g := (mkF m 80 #[.val (.long p0), .second, .val (.int p1), .val (.int p2), .val (.int p3), .val (.int (p1 &&& (7 : Int32))), .val (.int (p2 &&& (7 : Int32))), .val (.int (1 : Int32)), .val (.int (0 : Int32)), .val (.ref b102), .val (.ref b106), .val (.int (p2 &&& (7 : Int32))), .unset, .unset, .unset, .unset, .unset, .unset] [(.ref b112), (.ref b112)])) rfl (hb hby at_80) (n := 4) (by decide) (by decide) (by decide) (by decide)
      have F124 : Old Z n0 h123 := F115.ext E123
      have F125 : Arv Z h123 b102 k102 .byte (p1 &&& (7 : Int32)) [] (.int (0 : Int32)) := F116.ext E123
      have F126 : Arv Z h123 b106 k106 .byte (p2 &&& (7 : Int32)) [] (.int (0 : Int32)) := F117.ext E123
      have F127 : Exa Z h123 b112 "com/example/offst/offst/group/Member" := A112.ext E123
      have F128 : Fld Z h123 b112 "com/example/offst/offst/group/Member" "assignment" "[B" .null := F119.ext E123
      have F129 : Fld Z h123 b112 "com/example/offst/offst/group/Member" "id" "Ljava/lang/String;" .null := F120.ext E123
      have F130 : Fld Z h123 b112 "com/example/offst/offst/group/Member" "heldBytes" "J" (.long (0 : Int64)) := F121.ext E123
      have F131 : Fld Z h123 b112 "com/example/offst/offst/group/Member" "joinedWith" "Lcom/example/offst/offst/protocol/JoinGroupRequest;" .null := F122.ext E123
      have K132 : Keep h0 h123 [] := K118.ext E123
      have Z132 : n0 ≤ h123.size := Nat.le_trans Z118 E123.1
      refine own_go (fun t k => st123 t k) ?_
      show OwnG p.tables e below _ (T123.setTop (mkF m 82 #[.val (.long p0), .second, .val (.int p1), .val (.int p2), .val (.int p3), .val (.int (p1 &&& (7 : Int32))), .val (.int (p2 &&& (7 : Int32))), .val (.int (1 : Int32)), .val (.int (0 : Int32)), .val (.ref b102), .val (.ref b106), .val (.int (p2 &&& (7 : Int32))), .unset, .unset, .unset, .unset, .unset, .unset] [(.ref a123), (.ref b112), (.ref b112)]))
      obtain ⟨_, _, ⟨T133, L133, k133, n133⟩, -, X133, ⟨Lc133, hQ133, l133, y133, z133⟩, st133⟩ := X123.specialBack hx (y := (⟨"com/example/offst/offst/group/Member", "<init>", "(Ljava/lang/String;)V"⟩ : MethodName)) rfl hO123 (mvT hZ123 (hw _ (List.mem_of_getElem? (i := 11) rfl))) (mvT hZ123 (hw _ (List.mem_of_getElem? (i := 12) rfl))) (mvT hZ123 (hw _ (List.mem_of_getElem? (i := 13) rfl))) (by decide) (backOf (W := 1) (own_init l Z a0 hw [] b112 a123 o_NO_ASSIGNMENT kc_o_NO_ASSIGNMENT h123 n0 Z132 F124 S_NO_ASSIGNMENT V_o_NO_ASSIGNMENT F127 F128 F129 F130 F131 g_b112) hZ123 (hw _ (List.mem_of_getElem? (i := 13) rfl)) (hw _ (List.mem_of_getElem? (i := 3) rfl)) (by decide) (by decide)) (g := (mkF m 82 #[.val (.long p0), .second, .val (.int p1), .val (.int p2), .val (.int p3), .val (.int (p1 &&& (7 : Int32))), .val (.int (p2 &&& (7 : Int32))), .val (.int (1 : Int32)), .val (.int (0 : Int32)), .val (.ref b102), .val (.ref b106), .val (.int (p2 &&& (7 : Int32))), .unset, .unset, .unset, .unset, .unset, .unset] [(.ref a123), (.ref b112), (.ref b112)])) rfl (by rw [hml]; rfl) (Steps.refl _) (a := b112) (argsL := [(.ref a123)]) (rest := [(.ref b112)]) (lenOf own_pd49 rfl) rfl (by show 2 * 0 + _ ≤ _; exact Nat.le_of_eq rfl) (hb hby at_82) (fun _ _ => ⟨rfl, e123, (by decide : 5 + 0 ≤ _), (by decide : 29 + 0 ≤ _)⟩)
      dsimp only [Pt.U, Pt.locs, Pt.cells, Pt.slots] at X133 l133 y133 z133 st133 hQ133
      subst l133 y133 z133
      obtain ⟨rfl, Nq133, Kq133, Fq133_0, Fq133_1, Fq133_2, Fq133_3⟩ := hQ133
      have N133 := Fr.app N0 Nq133
      have F134 : Old Z n0 T133.heap := F124.keep Kq133 (allS g_b112 all0)
      have F135 : Arv Z T133.heap b102 k102 .byte (p1 &&& (7 : Int32)) [] (.int (0 : Int32)) := F125.keep Kq133 (ninS ne113 nin0)
      have F136 : Arv Z T133.heap b106 k106 .byte (p2 &&& (7 : Int32)) [] (.int (0 : Int32)) := F126.keep Kq133 (ninS ne114 nin0)
      have F137 : Exa Z T133.heap b112 "com/example/offst/offst/group/Member" := F127.keep Kq133
      have K133 : Keep h0 T133.heap [] := K132.trans Kq133 (allS (Or.inr sz_b112) all0)
      have Z133 : n0 ≤ T133.heap.size := Nat.le_trans Z132 Kq133.1
      have hk133 : _ ≤ T133.heap.size := Nat.le_trans hk123 Kq133.1
      refine own_go (fun t k => st133.trans k) ?_
      show OwnG p.tables e below _ (T133.setTop (mkF m 85 #[.val (.long p0), .second, .val (.int p1), .val (.int p2), .val (.int p3), .val (.int (p1 &&& (7 : Int32))), .val (.int (p2 &&& (7 : Int32))), .val (.int (1 : Int32)), .val (.int (0 : Int32)), .val (.ref b102), .val (.ref b106), .val (.int (p2 &&& (7 : Int32))), .unset, .unset, .unset, .unset, .unset, .unset] [(.ref b112)]))
      refine own_go (fun t k => XS.astore X133.here hx rfl (hb hby at_85) rfl rfl (l' := #[.val (.long p0), .second, .val (.int p1), .val (.int p2), .val (.int p3), .val (.int (p1 &&& (7 : Int32))), .val (.int (p2 &&& (7 : Int32))), .val (.int (1 : Int32)), .val (.int (0 : Int32)), .val (.ref b102), .val (.ref b106), .val (.int (p2 &&& (7 : Int32))), .val (.ref b112), .unset, .unset, .unset, .unset, .unset]) rfl k) ?_
      show OwnG p.tables e below _ (T133.setTop (mkF m 87 #[.val (.long p0), .second, .val (.int p1), .val (.int p2), .val (.int p3), .val (.int (p1 &&& (7 : Int32))), .val (.int (p2 &&& (7 : Int32))), .val (.int (1 : Int32)), .val (.int (0 : Int32)), .val (.ref b102), .val (.ref b106), .val (.int (p2 &&& (7 : Int32))), .val (.ref b112), .unset, .unset, .unset, .unset, .unset] []))
      refine own_go (fun t k => XS.lconst X133.here hx rfl (hb hby at_87) k) ?_
      show OwnG p.tables e below _ (T133.setTop (mkF m 88 #[.val (.long p0), .second, .val (.int p1), .val (.int p2), .val (.int p3), .val (.int (p1 &&& (7 : Int32))), .val (.int (p2 &&& (7 : Int32))), .val (.int (1 : Int32)), .val (.int (0 : Int32)), .val (.ref b102), .val (.ref b106), .val (.int (p2 &&& (7 : Int32))), .val (.ref b112), .unset, .unset, .unset, .unset, .unset] [(.long (0 : Int64))]))
      refine own_go (fun t k => XS.lstore X133.here hx rfl (hb hby at_88) rfl (l' := #[.val (.long p0), .second, .val (.int p1), .val (.int p2), .val (.int p3), .val (.int (p1 &&& (7 : Int32))), .val (.int (p2 &&& (7 : Int32))), .val (.int (1 : Int32)), .val (.int (0 : Int32)), .val (.ref b102), .val (.ref b106), .val (.int (p2 &&& (7 : Int32))), .val (.ref b112), .val (.long (0 : Int64)), .second, .unset, .unset, .unset]) rfl k) ?_
      show OwnG p.tables e below _ (T133.setTop (mkF m 90 #[.val (.long p0), .second, .val (.int p1), .val (.int p2), .val (.int p3), .val (.int (p1 &&& (7 : Int32))), .val (.int (p2 &&& (7 : Int32))), .val (.int (1 : Int32)), .val (.int (0 : Int32)), .val (.ref b102), .val (.ref b106), .val (.int (p2 &&& (7 : Int32))), .val (.ref b112), .val (.long (0 : Int64)), .second, .unset, .unset, .unset] []))
      refine own_go (fun t k => XS.iload X133.here hx rfl (hb hby at_90) rfl  k) ?_
      show OwnG p.tables e below _ (T133.setTop (mkF m 92 #[.val (.long p0), .second, .val (.int p1), .val (.int p2), .val (.int p3), .val (.int (p1 &&& (7 : Int32))), .val (.int (p2 &&& (7 : Int32))), .val (.int (1 : Int32)), .val (.int (0 : Int32)), .val (.ref b102), .val (.ref b106), .val (.int (p2 &&& (7 : Int32))), .val (.ref b112), .val (.long (0 : Int64)), .second, .unset, .unset, .unset] [(.int (1 : Int32))]))
      refine own_go (fun t k => XS.ifNo X133.here hx rfl (hb hby at_92) rfl ((if0 _ _).trans (feq (by decide : ¬ ((1 : Int32) = (0 : Int32)))).1) k) ?_
      show OwnG p.tables e below _ (T133.setTop (mkF m 95 #[.val (.long p0), .second, .val (.int p1), .val (.int p2), .val (.int p3), .val (.int (p1 &&& (7 : Int32))), .val (.int (p2 &&& (7 : Int32))), .val (.int (1 : Int32)), .val (.int (0 : Int32)), .val (.ref b102), .val (.ref b106), .val (.int (p2 &&& (7 : Int32))), .val (.ref b112), .val (.long (0 : Int64)), .second, .unset, .unset, .unset] []))
      refine own_go (fun t k => XS.aload X133.here hx rfl (hb hby at_95) rfl rfl k) ?_
      show OwnG p.tables e below _ (T133.setTop (mkF m 97 #[.val (.long p0), .second, .val (.int p1), .val (.int p2), .val (.int p3), .val (.int (p1 &&& (7 : Int32))), .val (.int (p2 &&& (7 : Int32))), .val (.int (1 : Int32)), .val (.int (0 : Int32)), .val (.ref b102), .val (.ref b106), .val (.int (p2 &&& (7 : Int32))), .val (.ref b112), .val (.long (0 : Int64)), .second, .unset, .unset, .unset] [(.ref b112)]))
      refine own_go (fun t k => XS.aconstNull X133.here hx rfl (hb hby at_97) k) ?_
      show OwnG p.tables e below _ (T133.setTop (mkF m 98 #[.val (.long p0), .second, .val (.int p1), .val (.int p2), .val (.int p3), .val (.int (p1 &&& (7 : Int32))), .val (.int (p2 &&& (7 : Int32))), .val (.int (1 : Int32)), .val (.int (0 : Int32)), .val (.ref b102), .val (.ref b106), .val (.int (p2 &&& (7 : Int32))), .val (.ref b112), .val (.long (0 : Int64)), .second, .unset, .unset, .unset] [.null, (.ref b112)]))
      refine own_go (fun t k => XS.lloadN X133.here hx rfl (hb hby at_98) rfl  k) ?_
      show OwnG p.tables e below _ (T133.setTop (mkF m 99 #[.val (.long p0), .second, .val (.int p1), .val (.int p2), .val (.int p3), .val (.int (p1 &&& (7 : Int32))), .val (.int (p2 &&& (7 : Int32))), .val (.int (1 : Int32)), .val (.int (0 : Int32)), .val (.ref b102), .val (.ref b106), .val (.int (p2 &&& (7 : Int32))), .val (.ref b112), .val (.long (0 : Int64)), .second, .unset, .unset, .unset] [(.long p0), .null, (.ref b112)]))
      obtain ⟨cq138, kq138, q138a, q138b, q138c⟩ := isOf hZ123 rfl Fq133_0
      obtain ⟨_, _, ⟨T138, L138, k138, n138⟩, -, X138, ⟨Lc138, hQ138, l138, y138, z138⟩, st138⟩ := X133.virtualBack hx (y := (⟨"com/example/offst/offst/group/Member", "joinWith", "(Lcom/example/offst/offst/protocol/JoinGroupRequest;J)V"⟩ : MethodName)) (z := (⟨"com/example/offst/offst/group/Member", "joinWith", "(Lcom/example/offst/offst/protocol/JoinGroupRequest;J)V"⟩ : MethodName)) hO123 (mvT hZ123 (hw _ (List.mem_of_getElem? (i := 40) rfl))) (mvT hZ123 (hw _ (List.mem_of_getElem? (i := 41) rfl))) (notFace_of_selects (args := #[]) (mvT hZ123 (hw _ (List.mem_of_getElem? (i := 43) rfl)))) (mvT hZ123 (hw _ (List.mem_of_getElem? (i := 43) rfl))) (mvT hZ123 (hw _ (List.mem_of_getElem? (i := 42) rfl))) (by decide) (backOf (W := 0) (own_join l Z a0 hw [] b112 p0 o_NO_ASSIGNMENT (0 : Int64) o_NO_ASSIGNMENT kc_o_NO_ASSIGNMENT T133.heap n0 Z133 F134 S_NO_ASSIGNMENT V_o_NO_ASSIGNMENT Fq133_0 Fq133_1 Fq133_2 Fq133_3 g_b112) hZ123 (hw _ (List.mem_of_getElem? (i := 44) rfl)) (hw _ (List.mem_of_getElem? (i := 3) rfl)) (by decide) (by decide)) q138a q138c (g := (mkF m 99 #[.val (.long p0), .second, .val (.int p1), .val (.int p2), .val (.int p3), .val (.int (p1 &&& (7 : Int32))), .val (.int (p2 &&& (7 : Int32))), .val (.int (1 : Int32)), .val (.int (0 : Int32)), .val (.ref b102), .val (.ref b106), .val (.int (p2 &&& (7 : Int32))), .val (.ref b112), .val (.long (0 : Int64)), .second, .unset, .unset, .unset] [(.long p0), .null, (.ref b112)])) rfl (by rw [hml]; rfl) (Steps.refl _) (argsL := [.null, (.long p0)]) (rest := []) (lenOf own_pd53 rfl) rfl (by show 2 * 0 + _ ≤ _; exact Nat.le_of_eq rfl) (hb hby at_99) (fun _ _ => ⟨rfl, rfl, (by decide : 5 + 0 ≤ _), (by decide : 29 + 0 ≤ _)⟩)
      dsimp only [Pt.U, Pt.locs, Pt.cells, Pt.slots] at X138 l138 y138 z138 st138 hQ138
      subst l138 y138 z138
      obtain ⟨rfl, Nq138, Kq138, Fq138_0, Fq138_1, Fq138_2⟩ := hQ138
      have N138 := Fr.app N133 Nq138
      have F139 : Old Z n0 T138.heap := F134.keep Kq138 (allS g_b112 all0)
      have F140 : Arv Z T138.heap b102 k102 .byte (p1 &&& (7 : Int32)) [] (.int (0 : Int32)) := F135.keep Kq138 (ninS ne113 nin0)
      have F141 : Arv Z T138.heap b106 k106 .byte (p2 &&& (7 : Int32)) [] (.int (0 : Int32)) := F136.keep Kq138 (ninS ne114 nin0)
      have F142 : Exa Z T138.heap b112 "com/example/offst/offst/group/Member" := Fq133_0.keep Kq138
      have K138 : Keep h0 T138.heap [] := K133.trans Kq138 (allS (Or.inr sz_b112) all0)
      have Z138 : n0 ≤ T138.heap.size := Nat.le_trans Z133 Kq138.1
      have hk138 : _ ≤ T138.heap.size := Nat.le_trans hk133 Kq138.1
      refine own_go (fun t k => st138.trans k) ?_
      show OwnG p.tables e below _ (T138.setTop (mkF m 102 #[.val (.long p0), .second, .val (.int p1), .val (.int p2), .val (.int p3), .val (.int (p1 &&& (7 : Int32))), .val (.int (p2 &&& (7 : Int32))), .val (.int (1 : Int32)), .val (.int (0 : Int32)), .val (.ref b102), .val (.ref b106), .val (.int (p2 &&& (7 : Int32))), .val (.ref b112), .val (.long (0 : Int64)), .second, .unset, .unset, .unset] []))
      refine own_go (fun t k => XS.lloadN X138.here hx rfl (hb hby at_102) rfl  k) ?_
      show OwnG p.tables e below _ (T138.setTop (mkF m 103 #[.val (.long p0), .second, .val (.int p1), .val (.int p2), .val (.int p3), .val (.int (p1 &&& (7 : Int32))), .val (.int (p2 &&& (7 : Int32))), .val (.int (1 : Int32)), .val (.int (0 : Int32)), .val (.ref b102), .val (.ref b106), .val (.int (p2 &&& (7 : Int32))), .val (.ref b112), .val (.long (0 : Int64)), .second, .unset, .unset, .unset] [(.long p0)]))
      refine own_go (fun t k => XS.lstore X138.here hx rfl (hb hby at_103) rfl (l' := #[.val (.long p0), .second, .val (.int p1), .val (.int p2), .val (.int p3), .val (.int (p1 &&& (7 : Int32))), .val (.int (p2 &&& (7 : Int32))), .val (.int (1 : Int32)), .val (.int (0 : Int32)), .val (.ref b102), .val (.ref b106), .val (.int (p2 &&& (7 : Int32))), .val (.ref b112), .val (.long p0), .second, .unset, .unset, .unset]) rfl k) ?_
      show OwnG p.tables e below _ (T138.setTop (mkF m 105 #[.val (.long p0), .second, .val (.int p1), .val (.int p2), .val (.int p3), .val (.int (p1 &&& (7 : Int32))), .val (.int (p2 &&& (7 : Int32))), .val (.int (1 : Int32)), .val (.int (0 : Int32)), .val (.ref b102), .val (.ref b106), .val (.int (p2 &&& (7 : Int32))), .val (.ref b112), .val (.long p0), .second, .unset, .unset, .unset] []))
      refine own_go (fun t k => XS.aload X138.here hx rfl (hb hby at_105) rfl rfl k) ?_
      show OwnG p.tables e below _ (T138.setTop (mkF m 107 #[.val (.long p0), .second, .val (.int p1), .val (.int p2), .val (.int p3), .val (.int (p1 &&& (7 : Int32))), .val (.int (p2 &&& (7 : Int32))), .val (.int (1 : Int32)), .val (.int (0 : Int32)), .val (.ref b102), .val (.ref b106), .val (.int (p2 &&& (7 : Int32))), .val (.ref b112), .val (.long p0), .second, .unset, .unset, .unset] [(.ref b112)]))
      obtain ⟨cq143, kq143, q143a, q143b, q143c⟩ := isOf hZ123 rfl Fq138_0
      obtain ⟨_, _, ⟨T143, L143, k143, n143⟩, -, X143, ⟨Lc143, hQ143, l143, y143, z143⟩, st143⟩ := X138.virtualBack hx (y := (⟨"com/example/offst/offst/group/Member", "assignment", "()[B"⟩ : MethodName)) (z := (⟨"com/example/offst/offst/group/Member", "assignment", "()[B"⟩ : MethodName)) hO123 (mvT hZ123 (hw _ (List.mem_of_getElem? (i := 23) rfl))) (mvT hZ123 (hw _ (List.mem_of_getElem? (i := 24) rfl))) (notFace_of_selects (args := #[]) (mvT hZ123 (hw _ (List.mem_of_getElem? (i := 26) rfl)))) (mvT hZ123 (hw _ (List.mem_of_getElem? (i := 26) rfl))) (mvT hZ123 (hw _ (List.mem_of_getElem? (i := 25) rfl))) (by decide) (backOf (W := 0) (own_assignment l Z a0 hw [] b112 o_NO_ASSIGNMENT T138.heap n0 Z138 Fq138_1) hZ123 (hw _ (List.mem_of_getElem? (i := 27) rfl)) (hw _ (List.mem_of_getElem? (i := 3) rfl)) (by decide) (by decide)) q143a q143c (g := (mkF m 107 #[.val (.long p0), .second, .val (.int p1), .val (.int p2), .val (.int p3), .val (.int (p1 &&& (7 : Int32))), .val (.int (p2 &&& (7 : Int32))), .val (.int (1 : Int32)), .val (.int (0 : Int32)), .val (.ref b102), .val (.ref b106), .val (.int (p2 &&& (7 : Int32))), .val (.ref b112), .val (.long p0), .second, .unset, .unset, .unset] [(.ref b112)])) rfl (by rw [hml]; rfl) (Steps.refl _) (argsL := []) (rest := []) (lenOf own_pd50 rfl) rfl (by show 2 * 0 + _ ≤ _; exact Nat.le_of_eq rfl) (hb hby at_107) (fun _ _ => ⟨rfl, rfl, (by decide : 5 + 0 ≤ _), (by decide : 29 + 0 ≤ _)⟩)
      dsimp only [Pt.U, Pt.locs, Pt.cells, Pt.slots] at X143 l143 y143 z143 st143 hQ143
      subst l143 y143 z143
      obtain ⟨rfl, Nq143, eq143⟩ := hQ143
      have N143 := Fr.app N138 Nq143
      have e143 : T143.heap = T138.heap := eq143
      refine own_go (fun t k => st143.trans k) ?_
      show OwnG p.tables e below _ (T143.setTop (mkF m 110 #[.val (.long p0), .second, .val (.int p1), .val (.int p2), .val (.int p3), .val (.int (p1 &&& (7 : Int32))), .val (.int (p2 &&& (7 : Int32))), .val (.int (1 : Int32)), .val (.int (0 : Int32)), .val (.ref b102), .val (.ref b106), .val (.int (p2 &&& (7 : Int32))), .val (.ref b112), .val (.long p0), .second, .unset, .unset, .unset] [(.ref o_NO_ASSIGNMENT)]))
      have vv144 := (V_o_NO_ASSIGNMENT.ext F139.2)
      obtain ⟨cl144, Ar144, qk144, Sz144, Nn144, Hs144, Gs144⟩ := vv144
      have st144 : ∀ t, Steps p.tables e below (T143.setTop (mkF m 111 #[.val (.long p0), .second, .val (.int p1), .val (.int p2), .val (.int p3), .val (.int (p1 &&& (7 : Int32))), .val (.int (p2 &&& (7 : Int32))), .val (.int (1 : Int32)), .val (.int (0 : Int32)), .val (.ref b102), .val (.ref b106), .val (.int (p2 &&& (7 : Int32))), .val (.ref b112), .val (.long p0), .second, .unset, .unset, .unset] [(.int (0 : Int32))])) t → Steps p.tables e below (T143.setTop (mkF m 110 #[.val (.long p0), .second, .val (.int p1), .val (.int p2), .val (.int p3), .val (.int (p1 &&& (7 : Int32))), .val (.int (p2 &&& (7 : Int32))), .val (.int (1 : Int32)), .val (.int (0 : Int32)), .val (.ref b102), .val (.ref b106), .val (.int (p2 &&& (7 : Int32))), .val (.ref b112), .val (.long p0), .second, .unset, .unset, .unset] [(.ref o_NO_ASSIGNMENT)])) t := fun t k => by
        refine X143.arraylength hx (by rw [e143]; exact Ar144.1) (State.isArrayOf_alike hZ123.alike Ar144.2.1) (g := (mkF m 110 #[.val (.long p0), .second, .val (.int p1), .val (.int p2), .val (.int p3), .val (.int (p1 &&& (7 : Int32))), .val (.int (p2 &&& (7 : Int32))), .val (.int (1 : Int32)), .val (.int (0 : Int32)), .val (.ref b102), .val (.ref b106), .val (.int (p2 &&& (7 : Int32))), .val (.ref b112), .val (.long p0), .second, .unset, .unset, .unset] [(.ref o_NO_ASSIGNMENT)])) rfl rfl (hb hby at_110) _ ?_
        rw [len_of Sz144 Nn144]
        exact k
      refine own_go (fun t k => st144 t k) ?_
      show OwnG p.tables e below _ (T143.setTop (mkF m 111 #[.val (.long p0), .second, .val (.int p1), .val (.int p2), .val (.int p3), .val (.int (p1 &&& (7 : Int32))), .val (.int (p2 &&& (7 : Int32))), .val (.int (1 : Int32)), .val (.int (0 : Int32)), .val (.ref b102), .val (.ref b106), .val (.int (p2 &&& (7 : Int32))), .val (.ref b112), .val (.long p0), .second, .unset, .unset, .unset] [(.int (0 : Int32))]))
      refine own_go (fun t k => XS.ifNo X143.here hx rfl (hb hby at_111) rfl ((if0 _ _).trans (teq (by decide : (0 : Int32) = (0 : Int32))).2) k) ?_
      show OwnG p.tables e below _ (T143.setTop (mkF m 114 #[.val (.long p0), .second, .val (.int p1), .val (.int p2), .val (.int p3), .val (.int (p1 &&& (7 : Int32))), .val (.int (p2 &&& (7 : Int32))), .val (.int (1 : Int32)), .val (.int (0 : Int32)), .val (.ref b102), .val (.ref b106), .val (.int (p2 &&& (7 : Int32))), .val (.ref b112), .val (.long p0), .second, .unset, .unset, .unset] []))
      refine own_go (fun t k => XS.aload X143.here hx rfl (hb hby at_114) rfl rfl k) ?_
      show OwnG p.tables e below _ (T143.setTop (mkF m 116 #[.val (.long p0), .second, .val (.int p1), .val (.int p2), .val (.int p3), .val (.int (p1 &&& (7 : Int32))), .val (.int (p2 &&& (7 : Int32))), .val (.int (1 : Int32)), .val (.int (0 : Int32)), .val (.ref b102), .val (.ref b106), .val (.int (p2 &&& (7 : Int32))), .val (.ref b112), .val (.long p0), .second, .unset, .unset, .unset] [(.ref b112)]))
      obtain ⟨cq145, kq145, q145a, q145b, q145c⟩ := isOf hZ123 e143 Fq138_0
      obtain ⟨_, _, ⟨T145, L145, k145, n145⟩, -, X145, ⟨Lc145, hQ145, l145, y145, z145⟩, st145⟩ := X143.virtualBack hx (y := (⟨"com/example/offst/offst/group/Member", "heldBytes", "()J"⟩ : MethodName)) (z := (⟨"com/example/offst/offst/group/Member", "heldBytes", "()J"⟩ : MethodName)) hO123 (mvT hZ123 (hw _ (List.mem_of_getElem? (i := 28) rfl))) (mvT hZ123 (hw _ (List.mem_of_getElem? (i := 29) rfl))) (notFace_of_selects (args := #[]) (mvT hZ123 (hw _ (List.mem_of_getElem? (i := 31) rfl)))) (mvT hZ123 (hw _ (List.mem_of_getElem? (i := 31) rfl))) (mvT hZ123 (hw _ (List.mem_of_getElem? (i := 30) rfl))) (by decide) (backOf (W := 0) (own_held l Z a0 hw [] b112 p0 T138.heap n0 Z138 Fq138_2) hZ123 (hw _ (List.mem_of_getElem? (i := 32) rfl)) (hw _ (List.mem_of_getElem? (i := 3) rfl)) (by decide) (by decide)) q145a q145c (g := (mkF m 116 #[.val (.long p0), .second, .val (.int p1), .val (.int p2), .val (.int p3), .val (.int (p1 &&& (7 : Int32))), .val (.int (p2 &&& (7 : Int32))), .val (.int (1 : Int32)), .val (.int (0 : Int32)), .val (.ref b102), .val (.ref b106), .val (.int (p2 &&& (7 : Int32))), .val (.ref b112), .val (.long p0), .second, .unset, .unset, .unset] [(.ref b112)])) rfl (by rw [hml]; rfl) (Steps.refl _) (argsL := []) (rest := []) (lenOf own_pd51 rfl) rfl (by show 2 * 0 + _ ≤ _; exact Nat.le_of_eq rfl) (hb hby at_116) (fun _ _ => ⟨rfl, e143, (by decide : 5 + 0 ≤ _), (by decide : 29 + 0 ≤ _)⟩)
      dsimp only [Pt.U, Pt.locs, Pt.cells, Pt.slots] at X145 l145 y145 z145 st145 hQ145
      subst l145 y145 z145
      obtain ⟨rfl, Nq145, eq145⟩ := hQ145
      have N145 := Fr.app N143 Nq145
      have e145 : T145.heap = T138.heap := eq145
      refine own_go (fun t k => st145.trans k) ?_
      show OwnG p.tables e below _ (T145.setTop (mkF m 119 #[.val (.long p0), .second, .val (.int p1), .val (.int p2), .val (.int p3), .val (.int (p1 &&& (7 : Int32))), .val (.int (p2 &&& (7 : Int32))), .val (.int (1 : Int32)), .val (.int (0 : Int32)), .val (.ref b102), .val (.ref b106), .val (.int (p2 &&& (7 : Int32))), .val (.ref b112), .val (.long p0), .second, .unset, .unset, .unset] [(.long p0)]))
      refine own_go (fun t k => XS.lload X145.here hx rfl (hb hby at_119) rfl  k) ?_
      show OwnG p.tables e below _ (T145.setTop (mkF m 121 #[.val (.long p0), .second, .val (.int p1), .val (.int p2), .val (.int p3), .val (.int (p1 &&& (7 : Int32))), .val (.int (p2 &&& (7 : Int32))), .val (.int (1 : Int32)), .val (.int (0 : Int32)), .val (.ref b102), .val (.ref b106), .val (.int (p2 &&& (7 : Int32))), .val (.ref b112), .val (.long p0), .second, .unset, .unset, .unset] [(.long p0), (.long p0)]))
      refine own_go (fun t k => XS.lcmp X145.here hx rfl (hb hby at_121) rfl k) ?_
      show OwnG p.tables e below _ (T145.setTop (mkF m 122 #[.val (.long p0), .second, .val (.int p1), .val (.int p2), .val (.int p3), .val (.int (p1 &&& (7 : Int32))), .val (.int (p2 &&& (7 : Int32))), .val (.int (1 : Int32)), .val (.int (0 : Int32)), .val (.ref b102), .val (.ref b106), .val (.int (p2 &&& (7 : Int32))), .val (.ref b112), .val (.long p0), .second, .unset, .unset, .unset] [(.int (lcmpW p0 p0))]))
      refine own_go (fun t k => XS.ifNo X145.here hx rfl (hb hby at_122) rfl ((if0 _ _).trans (teq ((lw_eq _ _).mpr (rfl : p0 = p0))).2) k) ?_
      show OwnG p.tables e below _ (T145.setTop (mkF m 125 #[.val (.long p0), .second, .val (.int p1), .val (.int p2), .val (.int p3), .val (.int (p1 &&& (7 : Int32))), .val (.int (p2 &&& (7 : Int32))), .val (.int (1 : Int32)), .val (.int (0 : Int32)), .val (.ref b102), .val (.ref b106), .val (.int (p2 &&& (7 : Int32))), .val (.ref b112), .val (.long p0), .second, .unset, .unset, .unset] []))
      refine own_go (fun t k => XS.iconst X145.here hx rfl (hb hby at_125) k) ?_
      show OwnG p.tables e below _ (T145.setTop (mkF m 126 #[.val (.long p0), .second, .val (.int p1), .val (.int p2), .val (.int p3), .val (.int (p1 &&& (7 : Int32))), .val (.int (p2 &&& (7 : Int32))), .val (.int (1 : Int32)), .val (.int (0 : Int32)), .val (.ref b102), .val (.ref b106), .val (.int (p2 &&& (7 : Int32))), .val (.ref b112), .val (.long p0), .second, .unset, .unset, .unset] [(.int (1 : Int32))]))
      refine own_go (fun t k => XS.goto X145.here hx rfl (pc0 := 126) (pc' := 130) rfl (hb hby at_126) (by decide) (by decide) k) ?_
      show OwnG p.tables e below _ (T145.setTop (mkF m 130 #[.val (.long p0), .second, .val (.int p1), .val (.int p2), .val (.int p3), .val (.int (p1 &&& (7 : Int32))), .val (.int (p2 &&& (7 : Int32))), .val (.int (1 : Int32)), .val (.int (0 : Int32)), .val (.ref b102), .val (.ref b106), .val (.int (p2 &&& (7 : Int32))), .val (.ref b112), .val (.long p0), .second, .unset, .unset, .unset] [(.int (1 : Int32))]))
      refine own_go (fun t k => XS.istore X145.here hx rfl (hb hby at_130) rfl (l' := #[.val (.long p0), .second, .val (.int p1), .val (.int p2), .val (.int p3), .val (.int (p1 &&& (7 : Int32))), .val (.int (p2 &&& (7 : Int32))), .val (.int (1 : Int32)), .val (.int (0 : Int32)), .val (.ref b102), .val (.ref b106), .val (.int (p2 &&& (7 : Int32))), .val (.ref b112), .val (.long p0), .second, .val (.int (1 : Int32)), .unset, .unset]) rfl k) ?_
      show OwnG p.tables e below _ (T145.setTop (mkF m 132 #[.val (.long p0), .second, .val (.int p1), .val (.int p2), .val (.int p3), .val (.int (p1 &&& (7 : Int32))), .val (.int (p2 &&& (7 : Int32))), .val (.int (1 : Int32)), .val (.int (0 : Int32)), .val (.ref b102), .val (.ref b106), .val (.int (p2 &&& (7 : Int32))), .val (.ref b112), .val (.long p0), .second, .val (.int (1 : Int32)), .unset, .unset] []))
      refine own_go (fun t k => XS.aload X145.here hx rfl (hb hby at_132) rfl rfl k) ?_
      show OwnG p.tables e below _ (T145.setTop (mkF m 134 #[.val (.long p0), .second, .val (.int p1), .val (.int p2), .val (.int p3), .val (.int (p1 &&& (7 : Int32))), .val (.int (p2 &&& (7 : Int32))), .val (.int (1 : Int32)), .val (.int (0 : Int32)), .val (.ref b102), .val (.ref b106), .val (.int (p2 &&& (7 : Int32))), .val (.ref b112), .val (.long p0), .second, .val (.int (1 : Int32)), .unset, .unset] [(.ref b112)]))
      refine own_go (fun t k => XS.aload X145.here hx rfl (hb hby at_134) rfl rfl k) ?_
      show OwnG p.tables e below _ (T145.setTop (mkF m 136 #[.val (.long p0), .second, .val (.int p1), .val (.int p2), .val (.int p3), .val (.int (p1 &&& (7 : Int32))), .val (.int (p2 &&& (7 : Int32))), .val (.int (1 : Int32)), .val (.int (0 : Int32)), .val (.ref b102), .val (.ref b106), .val (.int (p2 &&& (7 : Int32))), .val (.ref b112), .val (.long p0), .second, .val (.int (1 : Int32)), .unset, .unset] [(.ref b102), (.ref b112)]))
      obtain ⟨cq146, kq146, q146a, q146b, q146c⟩ := isOf hZ123 e145 Fq138_0
      obtain ⟨_, _, ⟨T146, L146, k146, n146⟩, -, X146, ⟨Lc146, hQ146, l146, y146, z146⟩, st146⟩ := X145.virtualBack hx (y := (⟨"com/example/offst/offst/group/Member", "assign", "([B)V"⟩ : MethodName)) (z := (⟨"com/example/offst/offst/group/Member", "assign", "([B)V"⟩ : MethodName)) hO123 (mvT hZ123 (hw _ (List.mem_of_getElem? (i := 35) rfl))) (mvT hZ123 (hw _ (List.mem_of_getElem? (i := 36) rfl))) (notFace_of_selects (args := #[]) (mvT hZ123 (hw _ (List.mem_of_getElem? (i := 38) rfl)))) (mvT hZ123 (hw _ (List.mem_of_getElem? (i := 38) rfl))) (mvT hZ123 (hw _ (List.mem_of_getElem? (i := 37) rfl))) (by decide) (backOf (W := 0) (own_assign l Z a0 hw [] b112 b102 o_NO_ASSIGNMENT k102 kc_o_NO_ASSIGNMENT (p1 &&& (7 : Int32)) (0 : Int32) p0 T138.heap n0 Z138 Fq138_0 Fq138_1 Fq138_2 F140 (V_o_NO_ASSIGNMENT.ext F139.2) g_b112) hZ123 (hw _ (List.mem_of_getElem? (i := 39) rfl)) (hw _ (List.mem_of_getElem? (i := 3) rfl)) (by decide) (by decide)) q146a q146c (g := (mkF m 136 #[.val (.long p0), .second, .val (.int p1), .val (.int p2), .val (.int p3), .val (.int (p1 &&& (7 : Int32))), .val (.int (p2 &&& (7 : Int32))), .val (.int (1 : Int32)), .val (.int (0 : Int32)), .val (.ref b102), .val (.ref b106), .val (.int (p2 &&& (7 : Int32))), .val (.ref b112), .val (.long p0), .second, .val (.int (1 : Int32)), .unset, .unset] [(.ref b102), (.ref b112)])) rfl (by rw [hml]; rfl) (Steps.refl _) (argsL := [(.ref b102)]) (rest := []) (lenOf own_pd52 rfl) rfl (by show 2 * 0 + _ ≤ _; exact Nat.le_of_eq rfl) (hb hby at_136) (fun _ _ => ⟨rfl, e145, (by decide : 5 + 0 ≤ _), (by decide : 29 + 0 ≤ _)⟩)
      dsimp only [Pt.U, Pt.locs, Pt.cells, Pt.slots] at X146 l146 y146 z146 st146 hQ146
      subst l146 y146 z146
      obtain ⟨rfl, Nq146, Kq146, Fq146_0, Fq146_1, Fq146_2⟩ := hQ146
      have N146 := Fr.app N145 Nq146
      have F147 : Old Z n0 T146.heap := F139.keep Kq146 (allS g_b112 all0)
      have F148 : Arv Z T146.heap b102 k102 .byte (p1 &&& (7 : Int32)) [] (.int (0 : Int32)) := F140.keep Kq146 (ninS ne113 nin0)
      have F149 : Arv Z T146.heap b106 k106 .byte (p2 &&& (7 : Int32)) [] (.int (0 : Int32)) := F141.keep Kq146 (ninS ne114 nin0)
      have F150 : Exa Z T146.heap b112 "com/example/offst/offst/group/Member" := Fq138_0.keep Kq146
      have K146 : Keep h0 T146.heap [] := K138.trans Kq146 (allS (Or.inr sz_b112) all0)
      have Z146 : n0 ≤ T146.heap.size := Nat.le_trans Z138 Kq146.1
      have hk146 : _ ≤ T146.heap.size := Nat.le_trans hk138 Kq146.1
      refine own_go (fun t k => st146.trans k) ?_
      show OwnG p.tables e below _ (T146.setTop (mkF m 139 #[.val (.long p0), .second, .val (.int p1), .val (.int p2), .val (.int p3), .val (.int (p1 &&& (7 : Int32))), .val (.int (p2 &&& (7 : Int32))), .val (.int (1 : Int32)), .val (.int (0 : Int32)), .val (.ref b102), .val (.ref b106), .val (.int (p2 &&& (7 : Int32))), .val (.ref b112), .val (.long p0), .second, .val (.int (1 : Int32)), .unset, .unset] []))
      have F151 : Fld Z T146.heap b112 "com/example/offst/offst/group/Member" "heldBytes" "J" (.long (p0 + ((p1 &&& (7 : Int32)).toInt64))) := by rw [show (p0 + ((p1 &&& (7 : Int32)).toInt64)) = _ from own_first p0 (p1 &&& (7 : Int32))]; exact Fq146_2
      refine own_go (fun t k => XS.aload X146.here hx rfl (hb hby at_139) rfl rfl k) ?_
      show OwnG p.tables e below _ (T146.setTop (mkF m 141 #[.val (.long p0), .second, .val (.int p1), .val (.int p2), .val (.int p3), .val (.int (p1 &&& (7 : Int32))), .val (.int (p2 &&& (7 : Int32))), .val (.int (1 : Int32)), .val (.int (0 : Int32)), .val (.ref b102), .val (.ref b106), .val (.int (p2 &&& (7 : Int32))), .val (.ref b112), .val (.long p0), .second, .val (.int (1 : Int32)), .unset, .unset] [(.ref b112)]))
      obtain ⟨cq152, kq152, q152a, q152b, q152c⟩ := isOf hZ123 rfl Fq146_0
      obtain ⟨_, _, ⟨T152, L152, k152, n152⟩, -, X152, ⟨Lc152, hQ152, l152, y152, z152⟩, st152⟩ := X146.virtualBack hx (y := (⟨"com/example/offst/offst/group/Member", "heldBytes", "()J"⟩ : MethodName)) (z := (⟨"com/example/offst/offst/group/Member", "heldBytes", "()J"⟩ : MethodName)) hO123 (mvT hZ123 (hw _ (List.mem_of_getElem? (i := 28) rfl))) (mvT hZ123 (hw _ (List.mem_of_getElem? (i := 29) rfl))) (notFace_of_selects (args := #[]) (mvT hZ123 (hw _ (List.mem_of_getElem? (i := 31) rfl)))) (mvT hZ123 (hw _ (List.mem_of_getElem? (i := 31) rfl))) (mvT hZ123 (hw _ (List.mem_of_getElem? (i := 30) rfl))) (by decide) (backOf (W := 0) (own_held l Z a0 hw [] b112 (p0 + ((p1 &&& (7 : Int32)).toInt64)) T146.heap n0 Z146 F151) hZ123 (hw _ (List.mem_of_getElem? (i := 32) rfl)) (hw _ (List.mem_of_getElem? (i := 3) rfl)) (by decide) (by decide)) q152a q152c (g := (mkF m 141 #[.val (.long p0), .second, .val (.int p1), .val (.int p2), .val (.int p3), .val (.int (p1 &&& (7 : Int32))), .val (.int (p2 &&& (7 : Int32))), .val (.int (1 : Int32)), .val (.int (0 : Int32)), .val (.ref b102), .val (.ref b106), .val (.int (p2 &&& (7 : Int32))), .val (.ref b112), .val (.long p0), .second, .val (.int (1 : Int32)), .unset, .unset] [(.ref b112)])) rfl (by rw [hml]; rfl) (Steps.refl _) (argsL := []) (rest := []) (lenOf own_pd51 rfl) rfl (by show 2 * 0 + _ ≤ _; exact Nat.le_of_eq rfl) (hb hby at_141) (fun _ _ => ⟨rfl, rfl, (by decide : 5 + 0 ≤ _), (by decide : 29 + 0 ≤ _)⟩)
      dsimp only [Pt.U, Pt.locs, Pt.cells, Pt.slots] at X152 l152 y152 z152 st152 hQ152
      subst l152 y152 z152
      obtain ⟨rfl, Nq152, eq152⟩ := hQ152
      have N152 := Fr.app N146 Nq152
      have e152 : T152.heap = T146.heap := eq152
      refine own_go (fun t k => st152.trans k) ?_
      show OwnG p.tables e below _ (T152.setTop (mkF m 144 #[.val (.long p0), .second, .val (.int p1), .val (.int p2), .val (.int p3), .val (.int (p1 &&& (7 : Int32))), .val (.int (p2 &&& (7 : Int32))), .val (.int (1 : Int32)), .val (.int (0 : Int32)), .val (.ref b102), .val (.ref b106), .val (.int (p2 &&& (7 : Int32))), .val (.ref b112), .val (.long p0), .second, .val (.int (1 : Int32)), .unset, .unset] [(.long (p0 + ((p1 &&& (7 : Int32)).toInt64)))]))
      refine own_go (fun t k => XS.lload X152.here hx rfl (hb hby at_144) rfl  k) ?_
      show OwnG p.tables e below _ (T152.setTop (mkF m 146 #[.val (.long p0), .second, .val (.int p1), .val (.int p2), .val (.int p3), .val (.int (p1 &&& (7 : Int32))), .val (.int (p2 &&& (7 : Int32))), .val (.int (1 : Int32)), .val (.int (0 : Int32)), .val (.ref b102), .val (.ref b106), .val (.int (p2 &&& (7 : Int32))), .val (.ref b112), .val (.long p0), .second, .val (.int (1 : Int32)), .unset, .unset] [(.long p0), (.long (p0 + ((p1 &&& (7 : Int32)).toInt64)))]))
      refine own_go (fun t k => XS.iload X152.here hx rfl (hb hby at_146) rfl  k) ?_
      show OwnG p.tables e below _ (T152.setTop (mkF m 148 #[.val (.long p0), .second, .val (.int p1), .val (.int p2), .val (.int p3), .val (.int (p1 &&& (7 : Int32))), .val (.int (p2 &&& (7 : Int32))), .val (.int (1 : Int32)), .val (.int (0 : Int32)), .val (.ref b102), .val (.ref b106), .val (.int (p2 &&& (7 : Int32))), .val (.ref b112), .val (.long p0), .second, .val (.int (1 : Int32)), .unset, .unset] [(.int (p1 &&& (7 : Int32))), (.long p0), (.long (p0 + ((p1 &&& (7 : Int32)).toInt64)))]))
      refine own_go (fun t k => XS.i2l X152.here hx rfl (hb hby at_148) rfl k) ?_
      show OwnG p.tables e below _ (T152.setTop (mkF m 149 #[.val (.long p0), .second, .val (.int p1), .val (.int p2), .val (.int p3), .val (.int (p1 &&& (7 : Int32))), .val (.int (p2 &&& (7 : Int32))), .val (.int (1 : Int32)), .val (.int (0 : Int32)), .val (.ref b102), .val (.ref b106), .val (.int (p2 &&& (7 : Int32))), .val (.ref b112), .val (.long p0), .second, .val (.int (1 : Int32)), .unset, .unset] [(.long ((p1 &&& (7 : Int32)).toInt64)), (.long p0), (.long (p0 + ((p1 &&& (7 : Int32)).toInt64)))]))
      refine own_go (fun t k => XS.ladd X152.here hx rfl (hb hby at_149) rfl k) ?_
      show OwnG p.tables e below _ (T152.setTop (mkF m 150 #[.val (.long p0), .second, .val (.int p1), .val (.int p2), .val (.int p3), .val (.int (p1 &&& (7 : Int32))), .val (.int (p2 &&& (7 : Int32))), .val (.int (1 : Int32)), .val (.int (0 : Int32)), .val (.ref b102), .val (.ref b106), .val (.int (p2 &&& (7 : Int32))), .val (.ref b112), .val (.long p0), .second, .val (.int (1 : Int32)), .unset, .unset] [(.long (p0 + ((p1 &&& (7 : Int32)).toInt64))), (.long (p0 + ((p1 &&& (7 : Int32)).toInt64)))]))
      refine own_go (fun t k => XS.lcmp X152.here hx rfl (hb hby at_150) rfl k) ?_
      show OwnG p.tables e below _ (T152.setTop (mkF m 151 #[.val (.long p0), .second, .val (.int p1), .val (.int p2), .val (.int p3), .val (.int (p1 &&& (7 : Int32))), .val (.int (p2 &&& (7 : Int32))), .val (.int (1 : Int32)), .val (.int (0 : Int32)), .val (.ref b102), .val (.ref b106), .val (.int (p2 &&& (7 : Int32))), .val (.ref b112), .val (.long p0), .second, .val (.int (1 : Int32)), .unset, .unset] [(.int (lcmpW (p0 + ((p1 &&& (7 : Int32)).toInt64)) (p0 + ((p1 &&& (7 : Int32)).toInt64))))]))
      refine own_go (fun t k => XS.ifNo X152.here hx rfl (hb hby at_151) rfl ((if0 _ _).trans (teq ((lw_eq _ _).mpr (rfl : (p0 + ((p1 &&& (7 : Int32)).toInt64)) = (p0 + ((p1 &&& (7 : Int32)).toInt64))))).2) k) ?_
      show OwnG p.tables e below _ (T152.setTop (mkF m 154 #[.val (.long p0), .second, .val (.int p1), .val (.int p2), .val (.int p3), .val (.int (p1 &&& (7 : Int32))), .val (.int (p2 &&& (7 : Int32))), .val (.int (1 : Int32)), .val (.int (0 : Int32)), .val (.ref b102), .val (.ref b106), .val (.int (p2 &&& (7 : Int32))), .val (.ref b112), .val (.long p0), .second, .val (.int (1 : Int32)), .unset, .unset] []))
      refine own_go (fun t k => XS.aload X152.here hx rfl (hb hby at_154) rfl rfl k) ?_
      show OwnG p.tables e below _ (T152.setTop (mkF m 156 #[.val (.long p0), .second, .val (.int p1), .val (.int p2), .val (.int p3), .val (.int (p1 &&& (7 : Int32))), .val (.int (p2 &&& (7 : Int32))), .val (.int (1 : Int32)), .val (.int (0 : Int32)), .val (.ref b102), .val (.ref b106), .val (.int (p2 &&& (7 : Int32))), .val (.ref b112), .val (.long p0), .second, .val (.int (1 : Int32)), .unset, .unset] [(.ref b112)]))
      obtain ⟨cq153, kq153, q153a, q153b, q153c⟩ := isOf hZ123 e152 Fq146_0
      obtain ⟨_, _, ⟨T153, L153, k153, n153⟩, -, X153, ⟨Lc153, hQ153, l153, y153, z153⟩, st153⟩ := X152.virtualBack hx (y := (⟨"com/example/offst/offst/group/Member", "assignment", "()[B"⟩ : MethodName)) (z := (⟨"com/example/offst/offst/group/Member", "assignment", "()[B"⟩ : MethodName)) hO123 (mvT hZ123 (hw _ (List.mem_of_getElem? (i := 23) rfl))) (mvT hZ123 (hw _ (List.mem_of_getElem? (i := 24) rfl))) (notFace_of_selects (args := #[]) (mvT hZ123 (hw _ (List.mem_of_getElem? (i := 26) rfl)))) (mvT hZ123 (hw _ (List.mem_of_getElem? (i := 26) rfl))) (mvT hZ123 (hw _ (List.mem_of_getElem? (i := 25) rfl))) (by decide) (backOf (W := 0) (own_assignment l Z a0 hw [] b112 b102 T146.heap n0 Z146 Fq146_1) hZ123 (hw _ (List.mem_of_getElem? (i := 27) rfl)) (hw _ (List.mem_of_getElem? (i := 3) rfl)) (by decide) (by decide)) q153a q153c (g := (mkF m 156 #[.val (.long p0), .second, .val (.int p1), .val (.int p2), .val (.int p3), .val (.int (p1 &&& (7 : Int32))), .val (.int (p2 &&& (7 : Int32))), .val (.int (1 : Int32)), .val (.int (0 : Int32)), .val (.ref b102), .val (.ref b106), .val (.int (p2 &&& (7 : Int32))), .val (.ref b112), .val (.long p0), .second, .val (.int (1 : Int32)), .unset, .unset] [(.ref b112)])) rfl (by rw [hml]; rfl) (Steps.refl _) (argsL := []) (rest := []) (lenOf own_pd50 rfl) rfl (by show 2 * 0 + _ ≤ _; exact Nat.le_of_eq rfl) (hb hby at_156) (fun _ _ => ⟨rfl, e152, (by decide : 5 + 0 ≤ _), (by decide : 29 + 0 ≤ _)⟩)
      dsimp only [Pt.U, Pt.locs, Pt.cells, Pt.slots] at X153 l153 y153 z153 st153 hQ153
      subst l153 y153 z153
      obtain ⟨rfl, Nq153, eq153⟩ := hQ153
      have N153 := Fr.app N152 Nq153
      have e153 : T153.heap = T146.heap := eq153
      refine own_go (fun t k => st153.trans k) ?_
      show OwnG p.tables e below _ (T153.setTop (mkF m 159 #[.val (.long p0), .second, .val (.int p1), .val (.int p2), .val (.int p3), .val (.int (p1 &&& (7 : Int32))), .val (.int (p2 &&& (7 : Int32))), .val (.int (1 : Int32)), .val (.int (0 : Int32)), .val (.ref b102), .val (.ref b106), .val (.int (p2 &&& (7 : Int32))), .val (.ref b112), .val (.long p0), .second, .val (.int (1 : Int32)), .unset, .unset] [(.ref b102)]))
      refine own_go (fun t k => XS.aload X153.here hx rfl (hb hby at_159) rfl rfl k) ?_
      show OwnG p.tables e below _ (T153.setTop (mkF m 161 #[.val (.long p0), .second, .val (.int p1), .val (.int p2), .val (.int p3), .val (.int (p1 &&& (7 : Int32))), .val (.int (p2 &&& (7 : Int32))), .val (.int (1 : Int32)), .val (.int (0 : Int32)), .val (.ref b102), .val (.ref b106), .val (.int (p2 &&& (7 : Int32))), .val (.ref b112), .val (.long p0), .second, .val (.int (1 : Int32)), .unset, .unset] [(.ref b102), (.ref b102)]))
      refine own_go (fun t k => Jvm.RoadKit.acmp (g := (mkF m 161 #[.val (.long p0), .second, .val (.int p1), .val (.int p2), .val (.int p3), .val (.int (p1 &&& (7 : Int32))), .val (.int (p2 &&& (7 : Int32))), .val (.int (1 : Int32)), .val (.int (0 : Int32)), .val (.ref b102), .val (.ref b106), .val (.int (p2 &&& (7 : Int32))), .val (.ref b112), .val (.long p0), .second, .val (.int (1 : Int32)), .unset, .unset] [(.ref b102), (.ref b102)])) X153 hx rfl rfl rfl (pc0 := 161) (pc' := 164) (same := true) rfl (hb hby at_161) rfl (decide_eq_true rfl) (by decide) (by decide) k) ?_
      show OwnG p.tables e below _ (T153.setTop (mkF m 164 #[.val (.long p0), .second, .val (.int p1), .val (.int p2), .val (.int p3), .val (.int (p1 &&& (7 : Int32))), .val (.int (p2 &&& (7 : Int32))), .val (.int (1 : Int32)), .val (.int (0 : Int32)), .val (.ref b102), .val (.ref b106), .val (.int (p2 &&& (7 : Int32))), .val (.ref b112), .val (.long p0), .second, .val (.int (1 : Int32)), .unset, .unset] []))
      refine own_go (fun t k => XS.iconst X153.here hx rfl (hb hby at_164) k) ?_
      show OwnG p.tables e below _ (T153.setTop (mkF m 165 #[.val (.long p0), .second, .val (.int p1), .val (.int p2), .val (.int p3), .val (.int (p1 &&& (7 : Int32))), .val (.int (p2 &&& (7 : Int32))), .val (.int (1 : Int32)), .val (.int (0 : Int32)), .val (.ref b102), .val (.ref b106), .val (.int (p2 &&& (7 : Int32))), .val (.ref b112), .val (.long p0), .second, .val (.int (1 : Int32)), .unset, .unset] [(.int (1 : Int32))]))
      refine own_go (fun t k => XS.goto X153.here hx rfl (pc0 := 165) (pc' := 169) rfl (hb hby at_165) (by decide) (by decide) k) ?_
      show OwnG p.tables e below _ (T153.setTop (mkF m 169 #[.val (.long p0), .second, .val (.int p1), .val (.int p2), .val (.int p3), .val (.int (p1 &&& (7 : Int32))), .val (.int (p2 &&& (7 : Int32))), .val (.int (1 : Int32)), .val (.int (0 : Int32)), .val (.ref b102), .val (.ref b106), .val (.int (p2 &&& (7 : Int32))), .val (.ref b112), .val (.long p0), .second, .val (.int (1 : Int32)), .unset, .unset] [(.int (1 : Int32))]))
      refine own_go (fun t k => XS.istore X153.here hx rfl (hb hby at_169) rfl (l' := #[.val (.long p0), .second, .val (.int p1), .val (.int p2), .val (.int p3), .val (.int (p1 &&& (7 : Int32))), .val (.int (p2 &&& (7 : Int32))), .val (.int (1 : Int32)), .val (.int (0 : Int32)), .val (.ref b102), .val (.ref b106), .val (.int (p2 &&& (7 : Int32))), .val (.ref b112), .val (.long p0), .second, .val (.int (1 : Int32)), .val (.int (1 : Int32)), .unset]) rfl k) ?_
      show OwnG p.tables e below _ (T153.setTop (mkF m 171 #[.val (.long p0), .second, .val (.int p1), .val (.int p2), .val (.int p3), .val (.int (p1 &&& (7 : Int32))), .val (.int (p2 &&& (7 : Int32))), .val (.int (1 : Int32)), .val (.int (0 : Int32)), .val (.ref b102), .val (.ref b106), .val (.int (p2 &&& (7 : Int32))), .val (.ref b112), .val (.long p0), .second, .val (.int (1 : Int32)), .val (.int (1 : Int32)), .unset] []))
      refine own_go (fun t k => XS.aload X153.here hx rfl (hb hby at_171) rfl rfl k) ?_
      show OwnG p.tables e below _ (T153.setTop (mkF m 173 #[.val (.long p0), .second, .val (.int p1), .val (.int p2), .val (.int p3), .val (.int (p1 &&& (7 : Int32))), .val (.int (p2 &&& (7 : Int32))), .val (.int (1 : Int32)), .val (.int (0 : Int32)), .val (.ref b102), .val (.ref b106), .val (.int (p2 &&& (7 : Int32))), .val (.ref b112), .val (.long p0), .second, .val (.int (1 : Int32)), .val (.int (1 : Int32)), .unset] [(.ref b112)]))
      refine own_go (fun t k => XS.aload X153.here hx rfl (hb hby at_173) rfl rfl k) ?_
      show OwnG p.tables e below _ (T153.setTop (mkF m 175 #[.val (.long p0), .second, .val (.int p1), .val (.int p2), .val (.int p3), .val (.int (p1 &&& (7 : Int32))), .val (.int (p2 &&& (7 : Int32))), .val (.int (1 : Int32)), .val (.int (0 : Int32)), .val (.ref b102), .val (.ref b106), .val (.int (p2 &&& (7 : Int32))), .val (.ref b112), .val (.long p0), .second, .val (.int (1 : Int32)), .val (.int (1 : Int32)), .unset] [(.ref b106), (.ref b112)]))
      obtain ⟨cq154, kq154, q154a, q154b, q154c⟩ := isOf hZ123 e153 Fq146_0
      obtain ⟨_, _, ⟨T154, L154, k154, n154⟩, -, X154, ⟨Lc154, hQ154, l154, y154, z154⟩, st154⟩ := X153.virtualBack hx (y := (⟨"com/example/offst/offst/group/Member", "assign", "([B)V"⟩ : MethodName)) (z := (⟨"com/example/offst/offst/group/Member", "assign", "([B)V"⟩ : MethodName)) hO123 (mvT hZ123 (hw _ (List.mem_of_getElem? (i := 35) rfl))) (mvT hZ123 (hw _ (List.mem_of_getElem? (i := 36) rfl))) (notFace_of_selects (args := #[]) (mvT hZ123 (hw _ (List.mem_of_getElem? (i := 38) rfl)))) (mvT hZ123 (hw _ (List.mem_of_getElem? (i := 38) rfl))) (mvT hZ123 (hw _ (List.mem_of_getElem? (i := 37) rfl))) (by decide) (backOf (W := 0) (own_assign l Z a0 hw [] b112 b106 b102 k106 k102 (p2 &&& (7 : Int32)) (p1 &&& (7 : Int32)) (p0 + ((p1 &&& (7 : Int32)).toInt64)) T146.heap n0 Z146 Fq146_0 Fq146_1 F151 F149 F148 g_b112) hZ123 (hw _ (List.mem_of_getElem? (i := 39) rfl)) (hw _ (List.mem_of_getElem? (i := 3) rfl)) (by decide) (by decide)) q154a q154c (g := (mkF m 175 #[.val (.long p0), .second, .val (.int p1), .val (.int p2), .val (.int p3), .val (.int (p1 &&& (7 : Int32))), .val (.int (p2 &&& (7 : Int32))), .val (.int (1 : Int32)), .val (.int (0 : Int32)), .val (.ref b102), .val (.ref b106), .val (.int (p2 &&& (7 : Int32))), .val (.ref b112), .val (.long p0), .second, .val (.int (1 : Int32)), .val (.int (1 : Int32)), .unset] [(.ref b106), (.ref b112)])) rfl (by rw [hml]; rfl) (Steps.refl _) (argsL := [(.ref b106)]) (rest := []) (lenOf own_pd52 rfl) rfl (by show 2 * 0 + _ ≤ _; exact Nat.le_of_eq rfl) (hb hby at_175) (fun _ _ => ⟨rfl, e153, (by decide : 5 + 0 ≤ _), (by decide : 29 + 0 ≤ _)⟩)
      dsimp only [Pt.U, Pt.locs, Pt.cells, Pt.slots] at X154 l154 y154 z154 st154 hQ154
      subst l154 y154 z154
      obtain ⟨rfl, Nq154, Kq154, Fq154_0, Fq154_1, Fq154_2⟩ := hQ154
      have N154 := Fr.app N153 Nq154
      have F155 : Old Z n0 T154.heap := F147.keep Kq154 (allS g_b112 all0)
      have F156 : Arv Z T154.heap b102 k102 .byte (p1 &&& (7 : Int32)) [] (.int (0 : Int32)) := F148.keep Kq154 (ninS ne113 nin0)
      have F157 : Arv Z T154.heap b106 k106 .byte (p2 &&& (7 : Int32)) [] (.int (0 : Int32)) := F149.keep Kq154 (ninS ne114 nin0)
      have F158 : Exa Z T154.heap b112 "com/example/offst/offst/group/Member" := Fq146_0.keep Kq154
      have K154 : Keep h0 T154.heap [] := K146.trans Kq154 (allS (Or.inr sz_b112) all0)
      have Z154 : n0 ≤ T154.heap.size := Nat.le_trans Z146 Kq154.1
      have hk154 : _ ≤ T154.heap.size := Nat.le_trans hk146 Kq154.1
      refine own_go (fun t k => st154.trans k) ?_
      show OwnG p.tables e below _ (T154.setTop (mkF m 178 #[.val (.long p0), .second, .val (.int p1), .val (.int p2), .val (.int p3), .val (.int (p1 &&& (7 : Int32))), .val (.int (p2 &&& (7 : Int32))), .val (.int (1 : Int32)), .val (.int (0 : Int32)), .val (.ref b102), .val (.ref b106), .val (.int (p2 &&& (7 : Int32))), .val (.ref b112), .val (.long p0), .second, .val (.int (1 : Int32)), .val (.int (1 : Int32)), .unset] []))
      have F159 : Fld Z T154.heap b112 "com/example/offst/offst/group/Member" "heldBytes" "J" (.long (p0 + ((p2 &&& (7 : Int32)).toInt64))) := by rw [show (p0 + ((p2 &&& (7 : Int32)).toInt64)) = _ from own_second p0 p1 p2]; exact Fq154_2
      refine own_go (fun t k => XS.aload X154.here hx rfl (hb hby at_178) rfl rfl k) ?_
      show OwnG p.tables e below _ (T154.setTop (mkF m 180 #[.val (.long p0), .second, .val (.int p1), .val (.int p2), .val (.int p3), .val (.int (p1 &&& (7 : Int32))), .val (.int (p2 &&& (7 : Int32))), .val (.int (1 : Int32)), .val (.int (0 : Int32)), .val (.ref b102), .val (.ref b106), .val (.int (p2 &&& (7 : Int32))), .val (.ref b112), .val (.long p0), .second, .val (.int (1 : Int32)), .val (.int (1 : Int32)), .unset] [(.ref b112)]))
      obtain ⟨cq160, kq160, q160a, q160b, q160c⟩ := isOf hZ123 rfl Fq154_0
      obtain ⟨_, _, ⟨T160, L160, k160, n160⟩, -, X160, ⟨Lc160, hQ160, l160, y160, z160⟩, st160⟩ := X154.virtualBack hx (y := (⟨"com/example/offst/offst/group/Member", "heldBytes", "()J"⟩ : MethodName)) (z := (⟨"com/example/offst/offst/group/Member", "heldBytes", "()J"⟩ : MethodName)) hO123 (mvT hZ123 (hw _ (List.mem_of_getElem? (i := 28) rfl))) (mvT hZ123 (hw _ (List.mem_of_getElem? (i := 29) rfl))) (notFace_of_selects (args := #[]) (mvT hZ123 (hw _ (List.mem_of_getElem? (i := 31) rfl)))) (mvT hZ123 (hw _ (List.mem_of_getElem? (i := 31) rfl))) (mvT hZ123 (hw _ (List.mem_of_getElem? (i := 30) rfl))) (by decide) (backOf (W := 0) (own_held l Z a0 hw [] b112 (p0 + ((p2 &&& (7 : Int32)).toInt64)) T154.heap n0 Z154 F159) hZ123 (hw _ (List.mem_of_getElem? (i := 32) rfl)) (hw _ (List.mem_of_getElem? (i := 3) rfl)) (by decide) (by decide)) q160a q160c (g := (mkF m 180 #[.val (.long p0), .second, .val (.int p1), .val (.int p2), .val (.int p3), .val (.int (p1 &&& (7 : Int32))), .val (.int (p2 &&& (7 : Int32))), .val (.int (1 : Int32)), .val (.int (0 : Int32)), .val (.ref b102), .val (.ref b106), .val (.int (p2 &&& (7 : Int32))), .val (.ref b112), .val (.long p0), .second, .val (.int (1 : Int32)), .val (.int (1 : Int32)), .unset] [(.ref b112)])) rfl (by rw [hml]; rfl) (Steps.refl _) (argsL := []) (rest := []) (lenOf own_pd51 rfl) rfl (by show 2 * 0 + _ ≤ _; exact Nat.le_of_eq rfl) (hb hby at_180) (fun _ _ => ⟨rfl, rfl, (by decide : 5 + 0 ≤ _), (by decide : 29 + 0 ≤ _)⟩)
      dsimp only [Pt.U, Pt.locs, Pt.cells, Pt.slots] at X160 l160 y160 z160 st160 hQ160
      subst l160 y160 z160
      obtain ⟨rfl, Nq160, eq160⟩ := hQ160
      have N160 := Fr.app N154 Nq160
      have e160 : T160.heap = T154.heap := eq160
      refine own_go (fun t k => st160.trans k) ?_
      show OwnG p.tables e below _ (T160.setTop (mkF m 183 #[.val (.long p0), .second, .val (.int p1), .val (.int p2), .val (.int p3), .val (.int (p1 &&& (7 : Int32))), .val (.int (p2 &&& (7 : Int32))), .val (.int (1 : Int32)), .val (.int (0 : Int32)), .val (.ref b102), .val (.ref b106), .val (.int (p2 &&& (7 : Int32))), .val (.ref b112), .val (.long p0), .second, .val (.int (1 : Int32)), .val (.int (1 : Int32)), .unset] [(.long (p0 + ((p2 &&& (7 : Int32)).toInt64)))]))
      refine own_go (fun t k => XS.lload X160.here hx rfl (hb hby at_183) rfl  k) ?_
      show OwnG p.tables e below _ (T160.setTop (mkF m 185 #[.val (.long p0), .second, .val (.int p1), .val (.int p2), .val (.int p3), .val (.int (p1 &&& (7 : Int32))), .val (.int (p2 &&& (7 : Int32))), .val (.int (1 : Int32)), .val (.int (0 : Int32)), .val (.ref b102), .val (.ref b106), .val (.int (p2 &&& (7 : Int32))), .val (.ref b112), .val (.long p0), .second, .val (.int (1 : Int32)), .val (.int (1 : Int32)), .unset] [(.long p0), (.long (p0 + ((p2 &&& (7 : Int32)).toInt64)))]))
      refine own_go (fun t k => XS.iload X160.here hx rfl (hb hby at_185) rfl  k) ?_
      show OwnG p.tables e below _ (T160.setTop (mkF m 187 #[.val (.long p0), .second, .val (.int p1), .val (.int p2), .val (.int p3), .val (.int (p1 &&& (7 : Int32))), .val (.int (p2 &&& (7 : Int32))), .val (.int (1 : Int32)), .val (.int (0 : Int32)), .val (.ref b102), .val (.ref b106), .val (.int (p2 &&& (7 : Int32))), .val (.ref b112), .val (.long p0), .second, .val (.int (1 : Int32)), .val (.int (1 : Int32)), .unset] [(.int (p2 &&& (7 : Int32))), (.long p0), (.long (p0 + ((p2 &&& (7 : Int32)).toInt64)))]))
      refine own_go (fun t k => XS.i2l X160.here hx rfl (hb hby at_187) rfl k) ?_
      show OwnG p.tables e below _ (T160.setTop (mkF m 188 #[.val (.long p0), .second, .val (.int p1), .val (.int p2), .val (.int p3), .val (.int (p1 &&& (7 : Int32))), .val (.int (p2 &&& (7 : Int32))), .val (.int (1 : Int32)), .val (.int (0 : Int32)), .val (.ref b102), .val (.ref b106), .val (.int (p2 &&& (7 : Int32))), .val (.ref b112), .val (.long p0), .second, .val (.int (1 : Int32)), .val (.int (1 : Int32)), .unset] [(.long ((p2 &&& (7 : Int32)).toInt64)), (.long p0), (.long (p0 + ((p2 &&& (7 : Int32)).toInt64)))]))
      refine own_go (fun t k => XS.ladd X160.here hx rfl (hb hby at_188) rfl k) ?_
      show OwnG p.tables e below _ (T160.setTop (mkF m 189 #[.val (.long p0), .second, .val (.int p1), .val (.int p2), .val (.int p3), .val (.int (p1 &&& (7 : Int32))), .val (.int (p2 &&& (7 : Int32))), .val (.int (1 : Int32)), .val (.int (0 : Int32)), .val (.ref b102), .val (.ref b106), .val (.int (p2 &&& (7 : Int32))), .val (.ref b112), .val (.long p0), .second, .val (.int (1 : Int32)), .val (.int (1 : Int32)), .unset] [(.long (p0 + ((p2 &&& (7 : Int32)).toInt64))), (.long (p0 + ((p2 &&& (7 : Int32)).toInt64)))]))
      refine own_go (fun t k => XS.lcmp X160.here hx rfl (hb hby at_189) rfl k) ?_
      show OwnG p.tables e below _ (T160.setTop (mkF m 190 #[.val (.long p0), .second, .val (.int p1), .val (.int p2), .val (.int p3), .val (.int (p1 &&& (7 : Int32))), .val (.int (p2 &&& (7 : Int32))), .val (.int (1 : Int32)), .val (.int (0 : Int32)), .val (.ref b102), .val (.ref b106), .val (.int (p2 &&& (7 : Int32))), .val (.ref b112), .val (.long p0), .second, .val (.int (1 : Int32)), .val (.int (1 : Int32)), .unset] [(.int (lcmpW (p0 + ((p2 &&& (7 : Int32)).toInt64)) (p0 + ((p2 &&& (7 : Int32)).toInt64))))]))
      refine own_go (fun t k => XS.ifNo X160.here hx rfl (hb hby at_190) rfl ((if0 _ _).trans (teq ((lw_eq _ _).mpr (rfl : (p0 + ((p2 &&& (7 : Int32)).toInt64)) = (p0 + ((p2 &&& (7 : Int32)).toInt64))))).2) k) ?_
      show OwnG p.tables e below _ (T160.setTop (mkF m 193 #[.val (.long p0), .second, .val (.int p1), .val (.int p2), .val (.int p3), .val (.int (p1 &&& (7 : Int32))), .val (.int (p2 &&& (7 : Int32))), .val (.int (1 : Int32)), .val (.int (0 : Int32)), .val (.ref b102), .val (.ref b106), .val (.int (p2 &&& (7 : Int32))), .val (.ref b112), .val (.long p0), .second, .val (.int (1 : Int32)), .val (.int (1 : Int32)), .unset] []))
      refine own_go (fun t k => XS.aload X160.here hx rfl (hb hby at_193) rfl rfl k) ?_
      show OwnG p.tables e below _ (T160.setTop (mkF m 195 #[.val (.long p0), .second, .val (.int p1), .val (.int p2), .val (.int p3), .val (.int (p1 &&& (7 : Int32))), .val (.int (p2 &&& (7 : Int32))), .val (.int (1 : Int32)), .val (.int (0 : Int32)), .val (.ref b102), .val (.ref b106), .val (.int (p2 &&& (7 : Int32))), .val (.ref b112), .val (.long p0), .second, .val (.int (1 : Int32)), .val (.int (1 : Int32)), .unset] [(.ref b112)]))
      obtain ⟨cq161, kq161, q161a, q161b, q161c⟩ := isOf hZ123 e160 Fq154_0
      obtain ⟨_, _, ⟨T161, L161, k161, n161⟩, -, X161, ⟨Lc161, hQ161, l161, y161, z161⟩, st161⟩ := X160.virtualBack hx (y := (⟨"com/example/offst/offst/group/Member", "assignment", "()[B"⟩ : MethodName)) (z := (⟨"com/example/offst/offst/group/Member", "assignment", "()[B"⟩ : MethodName)) hO123 (mvT hZ123 (hw _ (List.mem_of_getElem? (i := 23) rfl))) (mvT hZ123 (hw _ (List.mem_of_getElem? (i := 24) rfl))) (notFace_of_selects (args := #[]) (mvT hZ123 (hw _ (List.mem_of_getElem? (i := 26) rfl)))) (mvT hZ123 (hw _ (List.mem_of_getElem? (i := 26) rfl))) (mvT hZ123 (hw _ (List.mem_of_getElem? (i := 25) rfl))) (by decide) (backOf (W := 0) (own_assignment l Z a0 hw [] b112 b106 T154.heap n0 Z154 Fq154_1) hZ123 (hw _ (List.mem_of_getElem? (i := 27) rfl)) (hw _ (List.mem_of_getElem? (i := 3) rfl)) (by decide) (by decide)) q161a q161c (g := (mkF m 195 #[.val (.long p0), .second, .val (.int p1), .val (.int p2), .val (.int p3), .val (.int (p1 &&& (7 : Int32))), .val (.int (p2 &&& (7 : Int32))), .val (.int (1 : Int32)), .val (.int (0 : Int32)), .val (.ref b102), .val (.ref b106), .val (.int (p2 &&& (7 : Int32))), .val (.ref b112), .val (.long p0), .second, .val (.int (1 : Int32)), .val (.int (1 : Int32)), .unset] [(.ref b112)])) rfl (by rw [hml]; rfl) (Steps.refl _) (argsL := []) (rest := []) (lenOf own_pd50 rfl) rfl (by show 2 * 0 + _ ≤ _; exact Nat.le_of_eq rfl) (hb hby at_195) (fun _ _ => ⟨rfl, e160, (by decide : 5 + 0 ≤ _), (by decide : 29 + 0 ≤ _)⟩)
      dsimp only [Pt.U, Pt.locs, Pt.cells, Pt.slots] at X161 l161 y161 z161 st161 hQ161
      subst l161 y161 z161
      obtain ⟨rfl, Nq161, eq161⟩ := hQ161
      have N161 := Fr.app N160 Nq161
      have e161 : T161.heap = T154.heap := eq161
      refine own_go (fun t k => st161.trans k) ?_
      show OwnG p.tables e below _ (T161.setTop (mkF m 198 #[.val (.long p0), .second, .val (.int p1), .val (.int p2), .val (.int p3), .val (.int (p1 &&& (7 : Int32))), .val (.int (p2 &&& (7 : Int32))), .val (.int (1 : Int32)), .val (.int (0 : Int32)), .val (.ref b102), .val (.ref b106), .val (.int (p2 &&& (7 : Int32))), .val (.ref b112), .val (.long p0), .second, .val (.int (1 : Int32)), .val (.int (1 : Int32)), .unset] [(.ref b106)]))
      refine own_go (fun t k => XS.aload X161.here hx rfl (hb hby at_198) rfl rfl k) ?_
      show OwnG p.tables e below _ (T161.setTop (mkF m 200 #[.val (.long p0), .second, .val (.int p1), .val (.int p2), .val (.int p3), .val (.int (p1 &&& (7 : Int32))), .val (.int (p2 &&& (7 : Int32))), .val (.int (1 : Int32)), .val (.int (0 : Int32)), .val (.ref b102), .val (.ref b106), .val (.int (p2 &&& (7 : Int32))), .val (.ref b112), .val (.long p0), .second, .val (.int (1 : Int32)), .val (.int (1 : Int32)), .unset] [(.ref b106), (.ref b106)]))
      refine own_go (fun t k => Jvm.RoadKit.acmp (g := (mkF m 200 #[.val (.long p0), .second, .val (.int p1), .val (.int p2), .val (.int p3), .val (.int (p1 &&& (7 : Int32))), .val (.int (p2 &&& (7 : Int32))), .val (.int (1 : Int32)), .val (.int (0 : Int32)), .val (.ref b102), .val (.ref b106), .val (.int (p2 &&& (7 : Int32))), .val (.ref b112), .val (.long p0), .second, .val (.int (1 : Int32)), .val (.int (1 : Int32)), .unset] [(.ref b106), (.ref b106)])) X161 hx rfl rfl rfl (pc0 := 200) (pc' := 203) (same := true) rfl (hb hby at_200) rfl (decide_eq_true rfl) (by decide) (by decide) k) ?_
      show OwnG p.tables e below _ (T161.setTop (mkF m 203 #[.val (.long p0), .second, .val (.int p1), .val (.int p2), .val (.int p3), .val (.int (p1 &&& (7 : Int32))), .val (.int (p2 &&& (7 : Int32))), .val (.int (1 : Int32)), .val (.int (0 : Int32)), .val (.ref b102), .val (.ref b106), .val (.int (p2 &&& (7 : Int32))), .val (.ref b112), .val (.long p0), .second, .val (.int (1 : Int32)), .val (.int (1 : Int32)), .unset] []))
      refine own_go (fun t k => XS.iconst X161.here hx rfl (hb hby at_203) k) ?_
      show OwnG p.tables e below _ (T161.setTop (mkF m 204 #[.val (.long p0), .second, .val (.int p1), .val (.int p2), .val (.int p3), .val (.int (p1 &&& (7 : Int32))), .val (.int (p2 &&& (7 : Int32))), .val (.int (1 : Int32)), .val (.int (0 : Int32)), .val (.ref b102), .val (.ref b106), .val (.int (p2 &&& (7 : Int32))), .val (.ref b112), .val (.long p0), .second, .val (.int (1 : Int32)), .val (.int (1 : Int32)), .unset] [(.int (1 : Int32))]))
      refine own_go (fun t k => XS.goto X161.here hx rfl (pc0 := 204) (pc' := 208) rfl (hb hby at_204) (by decide) (by decide) k) ?_
      show OwnG p.tables e below _ (T161.setTop (mkF m 208 #[.val (.long p0), .second, .val (.int p1), .val (.int p2), .val (.int p3), .val (.int (p1 &&& (7 : Int32))), .val (.int (p2 &&& (7 : Int32))), .val (.int (1 : Int32)), .val (.int (0 : Int32)), .val (.ref b102), .val (.ref b106), .val (.int (p2 &&& (7 : Int32))), .val (.ref b112), .val (.long p0), .second, .val (.int (1 : Int32)), .val (.int (1 : Int32)), .unset] [(.int (1 : Int32))]))
      refine own_go (fun t k => XS.istore X161.here hx rfl (hb hby at_208) rfl (l' := #[.val (.long p0), .second, .val (.int p1), .val (.int p2), .val (.int p3), .val (.int (p1 &&& (7 : Int32))), .val (.int (p2 &&& (7 : Int32))), .val (.int (1 : Int32)), .val (.int (0 : Int32)), .val (.ref b102), .val (.ref b106), .val (.int (p2 &&& (7 : Int32))), .val (.ref b112), .val (.long p0), .second, .val (.int (1 : Int32)), .val (.int (1 : Int32)), .val (.int (1 : Int32))]) rfl k) ?_
      show OwnG p.tables e below _ (T161.setTop (mkF m 210 #[.val (.long p0), .second, .val (.int p1), .val (.int p2), .val (.int p3), .val (.int (p1 &&& (7 : Int32))), .val (.int (p2 &&& (7 : Int32))), .val (.int (1 : Int32)), .val (.int (0 : Int32)), .val (.ref b102), .val (.ref b106), .val (.int (p2 &&& (7 : Int32))), .val (.ref b112), .val (.long p0), .second, .val (.int (1 : Int32)), .val (.int (1 : Int32)), .val (.int (1 : Int32))] []))
      refine own_go (fun t k => XS.iload X161.here hx rfl (hb hby at_210) rfl  k) ?_
      show OwnG p.tables e below _ (T161.setTop (mkF m 212 #[.val (.long p0), .second, .val (.int p1), .val (.int p2), .val (.int p3), .val (.int (p1 &&& (7 : Int32))), .val (.int (p2 &&& (7 : Int32))), .val (.int (1 : Int32)), .val (.int (0 : Int32)), .val (.ref b102), .val (.ref b106), .val (.int (p2 &&& (7 : Int32))), .val (.ref b112), .val (.long p0), .second, .val (.int (1 : Int32)), .val (.int (1 : Int32)), .val (.int (1 : Int32))] [(.int (1 : Int32))]))
      refine own_go (fun t k => XS.ifNo X161.here hx rfl (hb hby at_212) rfl ((if0 _ _).trans (feq (by decide : ¬ ((1 : Int32) = (0 : Int32)))).1) k) ?_
      show OwnG p.tables e below _ (T161.setTop (mkF m 215 #[.val (.long p0), .second, .val (.int p1), .val (.int p2), .val (.int p3), .val (.int (p1 &&& (7 : Int32))), .val (.int (p2 &&& (7 : Int32))), .val (.int (1 : Int32)), .val (.int (0 : Int32)), .val (.ref b102), .val (.ref b106), .val (.int (p2 &&& (7 : Int32))), .val (.ref b112), .val (.long p0), .second, .val (.int (1 : Int32)), .val (.int (1 : Int32)), .val (.int (1 : Int32))] []))
      refine own_go (fun t k => XS.iload X161.here hx rfl (hb hby at_215) rfl  k) ?_
      show OwnG p.tables e below _ (T161.setTop (mkF m 217 #[.val (.long p0), .second, .val (.int p1), .val (.int p2), .val (.int p3), .val (.int (p1 &&& (7 : Int32))), .val (.int (p2 &&& (7 : Int32))), .val (.int (1 : Int32)), .val (.int (0 : Int32)), .val (.ref b102), .val (.ref b106), .val (.int (p2 &&& (7 : Int32))), .val (.ref b112), .val (.long p0), .second, .val (.int (1 : Int32)), .val (.int (1 : Int32)), .val (.int (1 : Int32))] [(.int (1 : Int32))]))
      refine own_go (fun t k => XS.ifNo X161.here hx rfl (hb hby at_217) rfl ((if0 _ _).trans (feq (by decide : ¬ ((1 : Int32) = (0 : Int32)))).1) k) ?_
      show OwnG p.tables e below _ (T161.setTop (mkF m 220 #[.val (.long p0), .second, .val (.int p1), .val (.int p2), .val (.int p3), .val (.int (p1 &&& (7 : Int32))), .val (.int (p2 &&& (7 : Int32))), .val (.int (1 : Int32)), .val (.int (0 : Int32)), .val (.ref b102), .val (.ref b106), .val (.int (p2 &&& (7 : Int32))), .val (.ref b112), .val (.long p0), .second, .val (.int (1 : Int32)), .val (.int (1 : Int32)), .val (.int (1 : Int32))] []))
      refine own_go (fun t k => XS.iload X161.here hx rfl (hb hby at_220) rfl  k) ?_
      show OwnG p.tables e below _ (T161.setTop (mkF m 222 #[.val (.long p0), .second, .val (.int p1), .val (.int p2), .val (.int p3), .val (.int (p1 &&& (7 : Int32))), .val (.int (p2 &&& (7 : Int32))), .val (.int (1 : Int32)), .val (.int (0 : Int32)), .val (.ref b102), .val (.ref b106), .val (.int (p2 &&& (7 : Int32))), .val (.ref b112), .val (.long p0), .second, .val (.int (1 : Int32)), .val (.int (1 : Int32)), .val (.int (1 : Int32))] [(.int (1 : Int32))]))
      refine own_go (fun t k => XS.ifNo X161.here hx rfl (hb hby at_222) rfl ((if0 _ _).trans (feq (by decide : ¬ ((1 : Int32) = (0 : Int32)))).1) k) ?_
      show OwnG p.tables e below _ (T161.setTop (mkF m 225 #[.val (.long p0), .second, .val (.int p1), .val (.int p2), .val (.int p3), .val (.int (p1 &&& (7 : Int32))), .val (.int (p2 &&& (7 : Int32))), .val (.int (1 : Int32)), .val (.int (0 : Int32)), .val (.ref b102), .val (.ref b106), .val (.int (p2 &&& (7 : Int32))), .val (.ref b112), .val (.long p0), .second, .val (.int (1 : Int32)), .val (.int (1 : Int32)), .val (.int (1 : Int32))] []))
      refine own_go (fun t k => XS.iconst X161.here hx rfl (hb hby at_225) k) ?_
      show OwnG p.tables e below _ (T161.setTop (mkF m 226 #[.val (.long p0), .second, .val (.int p1), .val (.int p2), .val (.int p3), .val (.int (p1 &&& (7 : Int32))), .val (.int (p2 &&& (7 : Int32))), .val (.int (1 : Int32)), .val (.int (0 : Int32)), .val (.ref b102), .val (.ref b106), .val (.int (p2 &&& (7 : Int32))), .val (.ref b112), .val (.long p0), .second, .val (.int (1 : Int32)), .val (.int (1 : Int32)), .val (.int (1 : Int32))] [(.int (1 : Int32))]))
      refine own_go (fun t k => XS.goto X161.here hx rfl (pc0 := 226) (pc' := 230) rfl (hb hby at_226) (by decide) (by decide) k) ?_
      show OwnG p.tables e below _ (T161.setTop (mkF m 230 #[.val (.long p0), .second, .val (.int p1), .val (.int p2), .val (.int p3), .val (.int (p1 &&& (7 : Int32))), .val (.int (p2 &&& (7 : Int32))), .val (.int (1 : Int32)), .val (.int (0 : Int32)), .val (.ref b102), .val (.ref b106), .val (.int (p2 &&& (7 : Int32))), .val (.ref b112), .val (.long p0), .second, .val (.int (1 : Int32)), .val (.int (1 : Int32)), .val (.int (1 : Int32))] [(.int (1 : Int32))]))
      obtain ⟨fs, hr, hrun, hended, ⟨-, hW2, hW3, hsame⟩⟩ := Jvm.Stand.leaveW (s := s) (vm₁ := T123.vm) X161 S123 (show _ ≤ T161.heap.size from by rw [e161]; exact hk154) (v := some (.int (1 : Int32))) (fun h => by rw [Bd.returns] at h; cases h)
      refine ⟨_, _, retN X161 hx (t := .boolean) Bd.returns (by simp) (hb hby at_230) hr, hrun, hended, _, _, rfl, ?_, ⟨_, rfl⟩, hW2, hW3, hsame.mono (by decide) (by decide)⟩
      show Q_own_law Z p0 p1 p2 p3 o_NO_ASSIGNMENT kc_o_NO_ASSIGNMENT h0 n0 _ T161.heap _
      rw [e161]
      exact ⟨rfl, N161⟩
    · refine own_go (fun t k => XS.ifNo X0.here hx rfl (hb hby at_30) rfl ((if0 _ _).trans (feq hc101).1) k) ?_
      show OwnG p.tables e below _ (s₁.setTop (mkF m 33 #[.val (.long p0), .second, .val (.int p1), .val (.int p2), .val (.int p3), .val (.int (p1 &&& (7 : Int32))), .val (.int (p2 &&& (7 : Int32))), .val (.int (1 : Int32)), .unset, .unset, .unset, .unset, .unset, .unset, .unset, .unset, .unset, .unset] []))
      refine own_go (fun t k => XS.iconst X0.here hx rfl (hb hby at_33) k) ?_
      show OwnG p.tables e below _ (s₁.setTop (mkF m 34 #[.val (.long p0), .second, .val (.int p1), .val (.int p2), .val (.int p3), .val (.int (p1 &&& (7 : Int32))), .val (.int (p2 &&& (7 : Int32))), .val (.int (1 : Int32)), .unset, .unset, .unset, .unset, .unset, .unset, .unset, .unset, .unset, .unset] [(.int (1 : Int32))]))
      refine own_go (fun t k => XS.goto X0.here hx rfl (pc0 := 34) (pc' := 38) rfl (hb hby at_34) (by decide) (by decide) k) ?_
      show OwnG p.tables e below _ (s₁.setTop (mkF m 38 #[.val (.long p0), .second, .val (.int p1), .val (.int p2), .val (.int p3), .val (.int (p1 &&& (7 : Int32))), .val (.int (p2 &&& (7 : Int32))), .val (.int (1 : Int32)), .unset, .unset, .unset, .unset, .unset, .unset, .unset, .unset, .unset, .unset] [(.int (1 : Int32))]))
      refine own_go (fun t k => XS.istore X0.here hx rfl (hb hby at_38) rfl (l' := #[.val (.long p0), .second, .val (.int p1), .val (.int p2), .val (.int p3), .val (.int (p1 &&& (7 : Int32))), .val (.int (p2 &&& (7 : Int32))), .val (.int (1 : Int32)), .val (.int (1 : Int32)), .unset, .unset, .unset, .unset, .unset, .unset, .unset, .unset, .unset]) rfl k) ?_
      show OwnG p.tables e below _ (s₁.setTop (mkF m 40 #[.val (.long p0), .second, .val (.int p1), .val (.int p2), .val (.int p3), .val (.int (p1 &&& (7 : Int32))), .val (.int (p2 &&& (7 : Int32))), .val (.int (1 : Int32)), .val (.int (1 : Int32)), .unset, .unset, .unset, .unset, .unset, .unset, .unset, .unset, .unset] []))
      refine own_go (fun t k => XS.iload X0.here hx rfl (hb hby at_40) rfl  k) ?_
      show OwnG p.tables e below _ (s₁.setTop (mkF m 42 #[.val (.long p0), .second, .val (.int p1), .val (.int p2), .val (.int p3), .val (.int (p1 &&& (7 : Int32))), .val (.int (p2 &&& (7 : Int32))), .val (.int (1 : Int32)), .val (.int (1 : Int32)), .unset, .unset, .unset, .unset, .unset, .unset, .unset, .unset, .unset] [(.int (p1 &&& (7 : Int32)))]))
      obtain ⟨T162, h162, k162, X162, e162, E162, A162, st162⟩ := newP X0 hx hZ (hw _ (List.mem_of_getElem? (i := 0) rfl)) e0 (g := (mkF m 42 #[.val (.long p0), .second, .val (.int p1), .val (.int p2), .val (.int p3), .val (.int (p1 &&& (7 : Int32))), .val (.int (p2 &&& (7 : Int32))), .val (.int (1 : Int32)), .val (.int (1 : Int32)), .unset, .unset, .unset, .unset, .unset, .unset, .unset, .unset, .unset] [(.int (p1 &&& (7 : Int32)))])) rfl (hb hby at_42) rfl (own_m7 p1).1 (cap := 7) (own_m7 p1).2 (by decide) (by decide) (by decide)
      obtain ⟨b162, g162⟩ : ∃ z, z = h0.size := ⟨_, rfl⟩
      rw [← g162] at A162 st162
      have g_b162 : n0 ≤ b162 := Nat.le_trans Z0 (Nat.le_of_eq g162.symm)
      have sz_b162 : h0.size ≤ b162 := Nat.le_trans K0.1 (Nat.le_of_eq g162.symm)
      have F163 : Old Z n0 h162 := O0.ext E162
      have K164 : Keep h0 h162 [] := K0.ext E162
      have Z164 : n0 ≤ h162.size := Nat.le_trans Z0 E162.1
      have F165 : Arv Z h162 b162 k162 .byte (p1 &&& (7 : Int32)) [] (.int (0 : Int32)) := Arv.new A162 (own_m7 p1).1
      refine own_go (fun t k => st162 t k) ?_
      show OwnG p.tables e below _ (T162.setTop (mkF m 44 #[.val (.long p0), .second, .val (.int p1), .val (.int p2), .val (.int p3), .val (.int (p1 &&& (7 : Int32))), .val (.int (p2 &&& (7 : Int32))), .val (.int (1 : Int32)), .val (.int (1 : Int32)), .unset, .unset, .unset, .unset, .unset, .unset, .unset, .unset, .unset] [(.ref b162)]))
      refine own_go (fun t k => XS.astore X162.here hx rfl (hb hby at_44) rfl rfl (l' := #[.val (.long p0), .second, .val (.int p1), .val (.int p2), .val (.int p3), .val (.int (p1 &&& (7 : Int32))), .val (.int (p2 &&& (7 : Int32))), .val (.int (1 : Int32)), .val (.int (1 : Int32)), .val (.ref b162), .unset, .unset, .unset, .unset, .unset, .unset, .unset, .unset]) rfl k) ?_
      show OwnG p.tables e below _ (T162.setTop (mkF m 46 #[.val (.long p0), .second, .val (.int p1), .val (.int p2), .val (.int p3), .val (.int (p1 &&& (7 : Int32))), .val (.int (p2 &&& (7 : Int32))), .val (.int (1 : Int32)), .val (.int (1 : Int32)), .val (.ref b162), .unset, .unset, .unset, .unset, .unset, .unset, .unset, .unset] []))
      refine own_go (fun t k => XS.iload X162.here hx rfl (hb hby at_46) rfl  k) ?_
      show OwnG p.tables e below _ (T162.setTop (mkF m 48 #[.val (.long p0), .second, .val (.int p1), .val (.int p2), .val (.int p3), .val (.int (p1 &&& (7 : Int32))), .val (.int (p2 &&& (7 : Int32))), .val (.int (1 : Int32)), .val (.int (1 : Int32)), .val (.ref b162), .unset, .unset, .unset, .unset, .unset, .unset, .unset, .unset] [(.int (1 : Int32))]))
      refine own_go (fun t k => XS.ifNo X162.here hx rfl (hb hby at_48) rfl ((if0 _ _).trans (feq (by decide : ¬ ((1 : Int32) = (0 : Int32)))).1) k) ?_
      show OwnG p.tables e below _ (T162.setTop (mkF m 51 #[.val (.long p0), .second, .val (.int p1), .val (.int p2), .val (.int p3), .val (.int (p1 &&& (7 : Int32))), .val (.int (p2 &&& (7 : Int32))), .val (.int (1 : Int32)), .val (.int (1 : Int32)), .val (.ref b162), .unset, .unset, .unset, .unset, .unset, .unset, .unset, .unset] []))
      refine own_go (fun t k => XS.aload X162.here hx rfl (hb hby at_51) rfl rfl k) ?_
      show OwnG p.tables e below _ (T162.setTop (mkF m 53 #[.val (.long p0), .second, .val (.int p1), .val (.int p2), .val (.int p3), .val (.int (p1 &&& (7 : Int32))), .val (.int (p2 &&& (7 : Int32))), .val (.int (1 : Int32)), .val (.int (1 : Int32)), .val (.ref b162), .unset, .unset, .unset, .unset, .unset, .unset, .unset, .unset] [(.ref b162)]))
      refine own_go (fun t k => XS.goto X162.here hx rfl (pc0 := 53) (pc' := 60) rfl (hb hby at_53) (by decide) (by decide) k) ?_
      show OwnG p.tables e below _ (T162.setTop (mkF m 60 #[.val (.long p0), .second, .val (.int p1), .val (.int p2), .val (.int p3), .val (.int (p1 &&& (7 : Int32))), .val (.int (p2 &&& (7 : Int32))), .val (.int (1 : Int32)), .val (.int (1 : Int32)), .val (.ref b162), .unset, .unset, .unset, .unset, .unset, .unset, .unset, .unset] [(.ref b162)]))
      refine own_go (fun t k => XS.astore X162.here hx rfl (hb hby at_60) rfl rfl (l' := #[.val (.long p0), .second, .val (.int p1), .val (.int p2), .val (.int p3), .val (.int (p1 &&& (7 : Int32))), .val (.int (p2 &&& (7 : Int32))), .val (.int (1 : Int32)), .val (.int (1 : Int32)), .val (.ref b162), .val (.ref b162), .unset, .unset, .unset, .unset, .unset, .unset, .unset]) rfl k) ?_
      show OwnG p.tables e below _ (T162.setTop (mkF m 62 #[.val (.long p0), .second, .val (.int p1), .val (.int p2), .val (.int p3), .val (.int (p1 &&& (7 : Int32))), .val (.int (p2 &&& (7 : Int32))), .val (.int (1 : Int32)), .val (.int (1 : Int32)), .val (.ref b162), .val (.ref b162), .unset, .unset, .unset, .unset, .unset, .unset, .unset] []))
      refine own_go (fun t k => XS.iload X162.here hx rfl (hb hby at_62) rfl  k) ?_
      show OwnG p.tables e below _ (T162.setTop (mkF m 64 #[.val (.long p0), .second, .val (.int p1), .val (.int p2), .val (.int p3), .val (.int (p1 &&& (7 : Int32))), .val (.int (p2 &&& (7 : Int32))), .val (.int (1 : Int32)), .val (.int (1 : Int32)), .val (.ref b162), .val (.ref b162), .unset, .unset, .unset, .unset, .unset, .unset, .unset] [(.int (1 : Int32))]))
      refine own_go (fun t k => XS.ifNo X162.here hx rfl (hb hby at_64) rfl ((if0 _ _).trans (feq (by decide : ¬ ((1 : Int32) = (0 : Int32)))).1) k) ?_
      show OwnG p.tables e below _ (T162.setTop (mkF m 67 #[.val (.long p0), .second, .val (.int p1), .val (.int p2), .val (.int p3), .val (.int (p1 &&& (7 : Int32))), .val (.int (p2 &&& (7 : Int32))), .val (.int (1 : Int32)), .val (.int (1 : Int32)), .val (.ref b162), .val (.ref b162), .unset, .unset, .unset, .unset, .unset, .unset, .unset] []))
      refine own_go (fun t k => XS.iload X162.here hx rfl (hb hby at_67) rfl  k) ?_
      show OwnG p.tables e below _ (T162.setTop (mkF m 69 #[.val (.long p0), .second, .val (.int p1), .val (.int p2), .val (.int p3), .val (.int (p1 &&& (7 : Int32))), .val (.int (p2 &&& (7 : Int32))), .val (.int (1 : Int32)), .val (.int (1 : Int32)), .val (.ref b162), .val (.ref b162), .unset, .unset, .unset, .unset, .unset, .unset, .unset] [(.int (p1 &&& (7 : Int32)))]))
      refine own_go (fun t k => XS.goto X162.here hx rfl (pc0 := 69) (pc' := 74) rfl (hb hby at_69) (by decide) (by decide) k) ?_
      show OwnG p.tables e below _ (T162.setTop (mkF m 74 #[.val (.long p0), .second, .val (.int p1), .val (.int p2), .val (.int p3), .val (.int (p1 &&& (7 : Int32))), .val (.int (p2 &&& (7 : Int32))), .val (.int (1 : Int32)), .val (.int (1 : Int32)), .val (.ref b162), .val (.ref b162), .unset, .unset, .unset, .unset, .unset, .unset, .unset] [(.int (p1 &&& (7 : Int32)))]))
      refine own_go (fun t k => XS.istore X162.here hx rfl (hb hby at_74) rfl (l' := #[.val (.long p0), .second, .val (.int p1), .val (.int p2), .val (.int p3), .val (.int (p1 &&& (7 : Int32))), .val (.int (p2 &&& (7 : Int32))), .val (.int (1 : Int32)), .val (.int (1 : Int32)), .val (.ref b162), .val (.ref b162), .val (.int (p1 &&& (7 : Int32))), .unset, .unset, .unset, .unset, .unset, .unset]) rfl k) ?_
      show OwnG p.tables e below _ (T162.setTop (mkF m 76 #[.val (.long p0), .second, .val (.int p1), .val (.int p2), .val (.int p3), .val (.int (p1 &&& (7 : Int32))), .val (.int (p2 &&& (7 : Int32))), .val (.int (1 : Int32)), .val (.int (1 : Int32)), .val (.ref b162), .val (.ref b162), .val (.int (p1 &&& (7 : Int32))), .unset, .unset, .unset, .unset, .unset, .unset] []))
      obtain ⟨T166, h166, X166, e166, E166, A166, D166, -, st166⟩ := newO X162 hx hZ hown (hw _ (List.mem_of_getElem? (i := 1) rfl)) (hw _ (List.mem_of_getElem? (i := 2) rfl)) (hw _ (List.mem_of_getElem? (i := 3) rfl)) e162 (g := (mkF m 76 #[.val (.long p0), .second, .val (.int p1), .val (.int p2), .val (.int p3), .val (.int (p1 &&& (7 : Int32))), .val (.int (p2 &&& (7 : Int32))), .val (.int (1 : Int32)), .val (.int (1 : Int32)), .val (.ref b162), .val (.ref b162), .val (.int (p1 &&& (7 : Int32))), .unset, .unset, .unset, .unset, .unset, .unset] [])) rfl (hb hby at_76) (by decide) (by decide)
      obtain ⟨b166, g166⟩ : ∃ z, z = h162.size := ⟨_, rfl⟩
      rw [← g166] at A166 D166 st166
      have ne167 : b162 ≠ b166 := Nat.ne_of_lt (Nat.lt_of_lt_of_le F165.lt (Nat.le_of_eq g166.symm))
      have g_b166 : n0 ≤ b166 := Nat.le_trans Z164 (Nat.le_of_eq g166.symm)
      have sz_b166 : h0.size ≤ b166 := Nat.le_trans K164.1 (Nat.le_of_eq g166.symm)
      have F168 : Old Z n0 h166 := F163.ext E166
      have F169 : Arv Z h166 b162 k162 .byte (p1 &&& (7 : Int32)) [] (.int (0 : Int32)) := F165.ext E166
      have K170 : Keep h0 h166 [] := K164.ext E166
      have Z170 : n0 ≤ h166.size := Nat.le_trans Z164 E166.1
      have F171 : Fld Z h166 b166 "com/example/offst/offst/group/Member" "assignment" "[B" .null := D166 (Or.inl (hw _ (List.mem_of_getElem? (i := 20) rfl))) (ty := (.array .byte)) (by decide)
      have F172 : Fld Z h166 b166 "com/example/offst/offst/group/Member" "id" "Ljava/lang/String;" .null := D166 (Or.inr (hw _ (List.mem_of_getElem? (i := 22) rfl))) (ty := (.object "java/lang/String")) (by decide)
      have F173 : Fld Z h166 b166 "com/example/offst/offst/group/Member" "heldBytes" "J" (.long (0 : Int64)) := D166 (Or.inl (hw _ (List.mem_of_getElem? (i := 34) rfl))) (ty := .long) (by decide)
      have F174 : Fld Z h166 b166 "com/example/offst/offst/group/Member" "joinedWith" "Lcom/example/offst/offst/protocol/JoinGroupRequest;" .null := D166 (Or.inl (hw _ (List.mem_of_getElem? (i := 46) rfl))) (ty := (.object "com/example/offst/offst/protocol/JoinGroupRequest")) (by decide)
      refine own_go (fun t k => st166 t k) ?_
      show OwnG p.tables e below _ (T166.setTop (mkF m 79 #[.val (.long p0), .second, .val (.int p1), .val (.int p2), .val (.int p3), .val (.int (p1 &&& (7 : Int32))), .val (.int (p2 &&& (7 : Int32))), .val (.int (1 : Int32)), .val (.int (1 : Int32)), .val (.ref b162), .val (.ref b162), .val (.int (p1 &&& (7 : Int32))), .unset, .unset, .unset, .unset, .unset, .unset] [(.ref b166)]))
      refine own_go (fun t k => XS.dup X166.here hx rfl (hb hby at_79) rfl rfl k) ?_
      show OwnG p.tables e below _ (T166.setTop (mkF m 80 #[.val (.long p0), .second, .val (.int p1), .val (.int p2), .val (.int p3), .val (.int (p1 &&& (7 : Int32))), .val (.int (p2 &&& (7 : Int32))), .val (.int (1 : Int32)), .val (.int (1 : Int32)), .val (.ref b162), .val (.ref b162), .val (.int (p1 &&& (7 : Int32))), .unset, .unset, .unset, .unset, .unset, .unset] [(.ref b166), (.ref b166)]))
      obtain ⟨a175, T175, h175, kk175, X175, e175, E175, S175, hk175, hZ175, hO175, st175⟩ := ldcS (s := s) (vm0 := s.vm) X166 hx hZ hown (hw _ (List.mem_of_getElem? (i := 4) rfl)) (own_sa Z a0 hw) e166 hS0 (Nat.zero_le _) (g := (mkF m 80 #[.val (.long p0), .second, .val (.int p1), .val (.int p2), .val (.int p3), .val (.int (p1 &&& (7 : Int32))), .val (.int (p2 &&& (7 : Int32))), .val (.int (1 : Int32)), .val (.int (1 : Int32)), .val (.ref b162), .val (.ref b162), .val (.int (p1 &&& (7 : Int32))), .unset, .unset, .unset, .unset, .unset, .unset] [(.ref b166), (.ref b166)])) rfl (hb hby at_80) (n := 4) (by decide) (by decide) (by decide) (by decide)
      have F176 : Old Z n0 h175 := F168.ext E175
      have F177 : Arv Z h175 b162 k162 .byte (p1 &&& (7 : Int32)) [] (.int (0 : Int32)) := F169.ext E175
      have F178 : Exa Z h175 b166 "com/example/offst/offst/group/Member" := A166.ext E175
      have F179 : Fld Z h175 b166 "com/example/offst/offst/group/Member" "assignment" "[B" .null := F171.ext E175
      have F180 : Fld Z h175 b166 "com/example/offst/offst/group/Member" "id" "Ljava/lang/String;" .null := F172.ext E175
      have F181 : Fld Z h175 b166 "com/example/offst/offst/group/Member" "heldBytes" "J" (.long (0 : Int64)) := F173.ext E175
      have F182 : Fld Z h175 b166 "com/example/offst/offst/group/Member" "joinedWith" "Lcom/example/offst/offst/protocol/JoinGroupRequest;" .null := F174.ext E175
      have K183 : Keep h0 h175 [] := K170.ext E175
      have Z183 : n0 ≤ h175.size := Nat.le_trans Z170 E175.1
      refine own_go (fun t k => st175 t k) ?_
      show OwnG p.tables e below _ (T175.setTop (mkF m 82 #[.val (.long p0), .second, .val (.int p1), .val (.int p2), .val (.int p3), .val (.int (p1 &&& (7 : Int32))), .val (.int (p2 &&& (7 : Int32))), .val (.int (1 : Int32)), .val (.int (1 : Int32)), .val (.ref b162), .val (.ref b162), .val (.int (p1 &&& (7 : Int32))), .unset, .unset, .unset, .unset, .unset, .unset] [(.ref a175), (.ref b166), (.ref b166)]))
      obtain ⟨_, _, ⟨T184, L184, k184, n184⟩, -, X184, ⟨Lc184, hQ184, l184, y184, z184⟩, st184⟩ := X175.specialBack hx (y := (⟨"com/example/offst/offst/group/Member", "<init>", "(Ljava/lang/String;)V"⟩ : MethodName)) rfl hO175 (mvT hZ175 (hw _ (List.mem_of_getElem? (i := 11) rfl))) (mvT hZ175 (hw _ (List.mem_of_getElem? (i := 12) rfl))) (mvT hZ175 (hw _ (List.mem_of_getElem? (i := 13) rfl))) (by decide) (backOf (W := 1) (own_init l Z a0 hw [] b166 a175 o_NO_ASSIGNMENT kc_o_NO_ASSIGNMENT h175 n0 Z183 F176 S_NO_ASSIGNMENT V_o_NO_ASSIGNMENT F178 F179 F180 F181 F182 g_b166) hZ175 (hw _ (List.mem_of_getElem? (i := 13) rfl)) (hw _ (List.mem_of_getElem? (i := 3) rfl)) (by decide) (by decide)) (g := (mkF m 82 #[.val (.long p0), .second, .val (.int p1), .val (.int p2), .val (.int p3), .val (.int (p1 &&& (7 : Int32))), .val (.int (p2 &&& (7 : Int32))), .val (.int (1 : Int32)), .val (.int (1 : Int32)), .val (.ref b162), .val (.ref b162), .val (.int (p1 &&& (7 : Int32))), .unset, .unset, .unset, .unset, .unset, .unset] [(.ref a175), (.ref b166), (.ref b166)])) rfl (by rw [hml]; rfl) (Steps.refl _) (a := b166) (argsL := [(.ref a175)]) (rest := [(.ref b166)]) (lenOf own_pd49 rfl) rfl (by show 2 * 0 + _ ≤ _; exact Nat.le_of_eq rfl) (hb hby at_82) (fun _ _ => ⟨rfl, e175, (by decide : 4 + 0 ≤ _), (by decide : 22 + 0 ≤ _)⟩)
      dsimp only [Pt.U, Pt.locs, Pt.cells, Pt.slots] at X184 l184 y184 z184 st184 hQ184
      subst l184 y184 z184
      obtain ⟨rfl, Nq184, Kq184, Fq184_0, Fq184_1, Fq184_2, Fq184_3⟩ := hQ184
      have N184 := Fr.app N0 Nq184
      have F185 : Old Z n0 T184.heap := F176.keep Kq184 (allS g_b166 all0)
      have F186 : Arv Z T184.heap b162 k162 .byte (p1 &&& (7 : Int32)) [] (.int (0 : Int32)) := F177.keep Kq184 (ninS ne167 nin0)
      have F187 : Exa Z T184.heap b166 "com/example/offst/offst/group/Member" := F178.keep Kq184
      have K184 : Keep h0 T184.heap [] := K183.trans Kq184 (allS (Or.inr sz_b166) all0)
      have Z184 : n0 ≤ T184.heap.size := Nat.le_trans Z183 Kq184.1
      have hk184 : _ ≤ T184.heap.size := Nat.le_trans hk175 Kq184.1
      refine own_go (fun t k => st184.trans k) ?_
      show OwnG p.tables e below _ (T184.setTop (mkF m 85 #[.val (.long p0), .second, .val (.int p1), .val (.int p2), .val (.int p3), .val (.int (p1 &&& (7 : Int32))), .val (.int (p2 &&& (7 : Int32))), .val (.int (1 : Int32)), .val (.int (1 : Int32)), .val (.ref b162), .val (.ref b162), .val (.int (p1 &&& (7 : Int32))), .unset, .unset, .unset, .unset, .unset, .unset] [(.ref b166)]))
      refine own_go (fun t k => XS.astore X184.here hx rfl (hb hby at_85) rfl rfl (l' := #[.val (.long p0), .second, .val (.int p1), .val (.int p2), .val (.int p3), .val (.int (p1 &&& (7 : Int32))), .val (.int (p2 &&& (7 : Int32))), .val (.int (1 : Int32)), .val (.int (1 : Int32)), .val (.ref b162), .val (.ref b162), .val (.int (p1 &&& (7 : Int32))), .val (.ref b166), .unset, .unset, .unset, .unset, .unset]) rfl k) ?_
      show OwnG p.tables e below _ (T184.setTop (mkF m 87 #[.val (.long p0), .second, .val (.int p1), .val (.int p2), .val (.int p3), .val (.int (p1 &&& (7 : Int32))), .val (.int (p2 &&& (7 : Int32))), .val (.int (1 : Int32)), .val (.int (1 : Int32)), .val (.ref b162), .val (.ref b162), .val (.int (p1 &&& (7 : Int32))), .val (.ref b166), .unset, .unset, .unset, .unset, .unset] []))
      refine own_go (fun t k => XS.lconst X184.here hx rfl (hb hby at_87) k) ?_
      show OwnG p.tables e below _ (T184.setTop (mkF m 88 #[.val (.long p0), .second, .val (.int p1), .val (.int p2), .val (.int p3), .val (.int (p1 &&& (7 : Int32))), .val (.int (p2 &&& (7 : Int32))), .val (.int (1 : Int32)), .val (.int (1 : Int32)), .val (.ref b162), .val (.ref b162), .val (.int (p1 &&& (7 : Int32))), .val (.ref b166), .unset, .unset, .unset, .unset, .unset] [(.long (0 : Int64))]))
      refine own_go (fun t k => XS.lstore X184.here hx rfl (hb hby at_88) rfl (l' := #[.val (.long p0), .second, .val (.int p1), .val (.int p2), .val (.int p3), .val (.int (p1 &&& (7 : Int32))), .val (.int (p2 &&& (7 : Int32))), .val (.int (1 : Int32)), .val (.int (1 : Int32)), .val (.ref b162), .val (.ref b162), .val (.int (p1 &&& (7 : Int32))), .val (.ref b166), .val (.long (0 : Int64)), .second, .unset, .unset, .unset]) rfl k) ?_
      show OwnG p.tables e below _ (T184.setTop (mkF m 90 #[.val (.long p0), .second, .val (.int p1), .val (.int p2), .val (.int p3), .val (.int (p1 &&& (7 : Int32))), .val (.int (p2 &&& (7 : Int32))), .val (.int (1 : Int32)), .val (.int (1 : Int32)), .val (.ref b162), .val (.ref b162), .val (.int (p1 &&& (7 : Int32))), .val (.ref b166), .val (.long (0 : Int64)), .second, .unset, .unset, .unset] []))
      refine own_go (fun t k => XS.iload X184.here hx rfl (hb hby at_90) rfl  k) ?_
      show OwnG p.tables e below _ (T184.setTop (mkF m 92 #[.val (.long p0), .second, .val (.int p1), .val (.int p2), .val (.int p3), .val (.int (p1 &&& (7 : Int32))), .val (.int (p2 &&& (7 : Int32))), .val (.int (1 : Int32)), .val (.int (1 : Int32)), .val (.ref b162), .val (.ref b162), .val (.int (p1 &&& (7 : Int32))), .val (.ref b166), .val (.long (0 : Int64)), .second, .unset, .unset, .unset] [(.int (1 : Int32))]))
      refine own_go (fun t k => XS.ifNo X184.here hx rfl (hb hby at_92) rfl ((if0 _ _).trans (feq (by decide : ¬ ((1 : Int32) = (0 : Int32)))).1) k) ?_
      show OwnG p.tables e below _ (T184.setTop (mkF m 95 #[.val (.long p0), .second, .val (.int p1), .val (.int p2), .val (.int p3), .val (.int (p1 &&& (7 : Int32))), .val (.int (p2 &&& (7 : Int32))), .val (.int (1 : Int32)), .val (.int (1 : Int32)), .val (.ref b162), .val (.ref b162), .val (.int (p1 &&& (7 : Int32))), .val (.ref b166), .val (.long (0 : Int64)), .second, .unset, .unset, .unset] []))
      refine own_go (fun t k => XS.aload X184.here hx rfl (hb hby at_95) rfl rfl k) ?_
      show OwnG p.tables e below _ (T184.setTop (mkF m 97 #[.val (.long p0), .second, .val (.int p1), .val (.int p2), .val (.int p3), .val (.int (p1 &&& (7 : Int32))), .val (.int (p2 &&& (7 : Int32))), .val (.int (1 : Int32)), .val (.int (1 : Int32)), .val (.ref b162), .val (.ref b162), .val (.int (p1 &&& (7 : Int32))), .val (.ref b166), .val (.long (0 : Int64)), .second, .unset, .unset, .unset] [(.ref b166)]))
      refine own_go (fun t k => XS.aconstNull X184.here hx rfl (hb hby at_97) k) ?_
      show OwnG p.tables e below _ (T184.setTop (mkF m 98 #[.val (.long p0), .second, .val (.int p1), .val (.int p2), .val (.int p3), .val (.int (p1 &&& (7 : Int32))), .val (.int (p2 &&& (7 : Int32))), .val (.int (1 : Int32)), .val (.int (1 : Int32)), .val (.ref b162), .val (.ref b162), .val (.int (p1 &&& (7 : Int32))), .val (.ref b166), .val (.long (0 : Int64)), .second, .unset, .unset, .unset] [.null, (.ref b166)]))
      refine own_go (fun t k => XS.lloadN X184.here hx rfl (hb hby at_98) rfl  k) ?_
      show OwnG p.tables e below _ (T184.setTop (mkF m 99 #[.val (.long p0), .second, .val (.int p1), .val (.int p2), .val (.int p3), .val (.int (p1 &&& (7 : Int32))), .val (.int (p2 &&& (7 : Int32))), .val (.int (1 : Int32)), .val (.int (1 : Int32)), .val (.ref b162), .val (.ref b162), .val (.int (p1 &&& (7 : Int32))), .val (.ref b166), .val (.long (0 : Int64)), .second, .unset, .unset, .unset] [(.long p0), .null, (.ref b166)]))
      obtain ⟨cq188, kq188, q188a, q188b, q188c⟩ := isOf hZ175 rfl Fq184_0
      obtain ⟨_, _, ⟨T188, L188, k188, n188⟩, -, X188, ⟨Lc188, hQ188, l188, y188, z188⟩, st188⟩ := X184.virtualBack hx (y := (⟨"com/example/offst/offst/group/Member", "joinWith", "(Lcom/example/offst/offst/protocol/JoinGroupRequest;J)V"⟩ : MethodName)) (z := (⟨"com/example/offst/offst/group/Member", "joinWith", "(Lcom/example/offst/offst/protocol/JoinGroupRequest;J)V"⟩ : MethodName)) hO175 (mvT hZ175 (hw _ (List.mem_of_getElem? (i := 40) rfl))) (mvT hZ175 (hw _ (List.mem_of_getElem? (i := 41) rfl))) (notFace_of_selects (args := #[]) (mvT hZ175 (hw _ (List.mem_of_getElem? (i := 43) rfl)))) (mvT hZ175 (hw _ (List.mem_of_getElem? (i := 43) rfl))) (mvT hZ175 (hw _ (List.mem_of_getElem? (i := 42) rfl))) (by decide) (backOf (W := 0) (own_join l Z a0 hw [] b166 p0 o_NO_ASSIGNMENT (0 : Int64) o_NO_ASSIGNMENT kc_o_NO_ASSIGNMENT T184.heap n0 Z184 F185 S_NO_ASSIGNMENT V_o_NO_ASSIGNMENT Fq184_0 Fq184_1 Fq184_2 Fq184_3 g_b166) hZ175 (hw _ (List.mem_of_getElem? (i := 44) rfl)) (hw _ (List.mem_of_getElem? (i := 3) rfl)) (by decide) (by decide)) q188a q188c (g := (mkF m 99 #[.val (.long p0), .second, .val (.int p1), .val (.int p2), .val (.int p3), .val (.int (p1 &&& (7 : Int32))), .val (.int (p2 &&& (7 : Int32))), .val (.int (1 : Int32)), .val (.int (1 : Int32)), .val (.ref b162), .val (.ref b162), .val (.int (p1 &&& (7 : Int32))), .val (.ref b166), .val (.long (0 : Int64)), .second, .unset, .unset, .unset] [(.long p0), .null, (.ref b166)])) rfl (by rw [hml]; rfl) (Steps.refl _) (argsL := [.null, (.long p0)]) (rest := []) (lenOf own_pd53 rfl) rfl (by show 2 * 0 + _ ≤ _; exact Nat.le_of_eq rfl) (hb hby at_99) (fun _ _ => ⟨rfl, rfl, (by decide : 4 + 0 ≤ _), (by decide : 22 + 0 ≤ _)⟩)
      dsimp only [Pt.U, Pt.locs, Pt.cells, Pt.slots] at X188 l188 y188 z188 st188 hQ188
      subst l188 y188 z188
      obtain ⟨rfl, Nq188, Kq188, Fq188_0, Fq188_1, Fq188_2⟩ := hQ188
      have N188 := Fr.app N184 Nq188
      have F189 : Old Z n0 T188.heap := F185.keep Kq188 (allS g_b166 all0)
      have F190 : Arv Z T188.heap b162 k162 .byte (p1 &&& (7 : Int32)) [] (.int (0 : Int32)) := F186.keep Kq188 (ninS ne167 nin0)
      have F191 : Exa Z T188.heap b166 "com/example/offst/offst/group/Member" := Fq184_0.keep Kq188
      have K188 : Keep h0 T188.heap [] := K184.trans Kq188 (allS (Or.inr sz_b166) all0)
      have Z188 : n0 ≤ T188.heap.size := Nat.le_trans Z184 Kq188.1
      have hk188 : _ ≤ T188.heap.size := Nat.le_trans hk184 Kq188.1
      refine own_go (fun t k => st188.trans k) ?_
      show OwnG p.tables e below _ (T188.setTop (mkF m 102 #[.val (.long p0), .second, .val (.int p1), .val (.int p2), .val (.int p3), .val (.int (p1 &&& (7 : Int32))), .val (.int (p2 &&& (7 : Int32))), .val (.int (1 : Int32)), .val (.int (1 : Int32)), .val (.ref b162), .val (.ref b162), .val (.int (p1 &&& (7 : Int32))), .val (.ref b166), .val (.long (0 : Int64)), .second, .unset, .unset, .unset] []))
      refine own_go (fun t k => XS.lloadN X188.here hx rfl (hb hby at_102) rfl  k) ?_
      show OwnG p.tables e below _ (T188.setTop (mkF m 103 #[.val (.long p0), .second, .val (.int p1), .val (.int p2), .val (.int p3), .val (.int (p1 &&& (7 : Int32))), .val (.int (p2 &&& (7 : Int32))), .val (.int (1 : Int32)), .val (.int (1 : Int32)), .val (.ref b162), .val (.ref b162), .val (.int (p1 &&& (7 : Int32))), .val (.ref b166), .val (.long (0 : Int64)), .second, .unset, .unset, .unset] [(.long p0)]))
      refine own_go (fun t k => XS.lstore X188.here hx rfl (hb hby at_103) rfl (l' := #[.val (.long p0), .second, .val (.int p1), .val (.int p2), .val (.int p3), .val (.int (p1 &&& (7 : Int32))), .val (.int (p2 &&& (7 : Int32))), .val (.int (1 : Int32)), .val (.int (1 : Int32)), .val (.ref b162), .val (.ref b162), .val (.int (p1 &&& (7 : Int32))), .val (.ref b166), .val (.long p0), .second, .unset, .unset, .unset]) rfl k) ?_
      show OwnG p.tables e below _ (T188.setTop (mkF m 105 #[.val (.long p0), .second, .val (.int p1), .val (.int p2), .val (.int p3), .val (.int (p1 &&& (7 : Int32))), .val (.int (p2 &&& (7 : Int32))), .val (.int (1 : Int32)), .val (.int (1 : Int32)), .val (.ref b162), .val (.ref b162), .val (.int (p1 &&& (7 : Int32))), .val (.ref b166), .val (.long p0), .second, .unset, .unset, .unset] []))
      refine own_go (fun t k => XS.aload X188.here hx rfl (hb hby at_105) rfl rfl k) ?_
      show OwnG p.tables e below _ (T188.setTop (mkF m 107 #[.val (.long p0), .second, .val (.int p1), .val (.int p2), .val (.int p3), .val (.int (p1 &&& (7 : Int32))), .val (.int (p2 &&& (7 : Int32))), .val (.int (1 : Int32)), .val (.int (1 : Int32)), .val (.ref b162), .val (.ref b162), .val (.int (p1 &&& (7 : Int32))), .val (.ref b166), .val (.long p0), .second, .unset, .unset, .unset] [(.ref b166)]))
      obtain ⟨cq192, kq192, q192a, q192b, q192c⟩ := isOf hZ175 rfl Fq188_0
      obtain ⟨_, _, ⟨T192, L192, k192, n192⟩, -, X192, ⟨Lc192, hQ192, l192, y192, z192⟩, st192⟩ := X188.virtualBack hx (y := (⟨"com/example/offst/offst/group/Member", "assignment", "()[B"⟩ : MethodName)) (z := (⟨"com/example/offst/offst/group/Member", "assignment", "()[B"⟩ : MethodName)) hO175 (mvT hZ175 (hw _ (List.mem_of_getElem? (i := 23) rfl))) (mvT hZ175 (hw _ (List.mem_of_getElem? (i := 24) rfl))) (notFace_of_selects (args := #[]) (mvT hZ175 (hw _ (List.mem_of_getElem? (i := 26) rfl)))) (mvT hZ175 (hw _ (List.mem_of_getElem? (i := 26) rfl))) (mvT hZ175 (hw _ (List.mem_of_getElem? (i := 25) rfl))) (by decide) (backOf (W := 0) (own_assignment l Z a0 hw [] b166 o_NO_ASSIGNMENT T188.heap n0 Z188 Fq188_1) hZ175 (hw _ (List.mem_of_getElem? (i := 27) rfl)) (hw _ (List.mem_of_getElem? (i := 3) rfl)) (by decide) (by decide)) q192a q192c (g := (mkF m 107 #[.val (.long p0), .second, .val (.int p1), .val (.int p2), .val (.int p3), .val (.int (p1 &&& (7 : Int32))), .val (.int (p2 &&& (7 : Int32))), .val (.int (1 : Int32)), .val (.int (1 : Int32)), .val (.ref b162), .val (.ref b162), .val (.int (p1 &&& (7 : Int32))), .val (.ref b166), .val (.long p0), .second, .unset, .unset, .unset] [(.ref b166)])) rfl (by rw [hml]; rfl) (Steps.refl _) (argsL := []) (rest := []) (lenOf own_pd50 rfl) rfl (by show 2 * 0 + _ ≤ _; exact Nat.le_of_eq rfl) (hb hby at_107) (fun _ _ => ⟨rfl, rfl, (by decide : 4 + 0 ≤ _), (by decide : 22 + 0 ≤ _)⟩)
      dsimp only [Pt.U, Pt.locs, Pt.cells, Pt.slots] at X192 l192 y192 z192 st192 hQ192
      subst l192 y192 z192
      obtain ⟨rfl, Nq192, eq192⟩ := hQ192
      have N192 := Fr.app N188 Nq192
      have e192 : T192.heap = T188.heap := eq192
      refine own_go (fun t k => st192.trans k) ?_
      show OwnG p.tables e below _ (T192.setTop (mkF m 110 #[.val (.long p0), .second, .val (.int p1), .val (.int p2), .val (.int p3), .val (.int (p1 &&& (7 : Int32))), .val (.int (p2 &&& (7 : Int32))), .val (.int (1 : Int32)), .val (.int (1 : Int32)), .val (.ref b162), .val (.ref b162), .val (.int (p1 &&& (7 : Int32))), .val (.ref b166), .val (.long p0), .second, .unset, .unset, .unset] [(.ref o_NO_ASSIGNMENT)]))
      have vv193 := (V_o_NO_ASSIGNMENT.ext F189.2)
      obtain ⟨cl193, Ar193, qk193, Sz193, Nn193, Hs193, Gs193⟩ := vv193
      have st193 : ∀ t, Steps p.tables e below (T192.setTop (mkF m 111 #[.val (.long p0), .second, .val (.int p1), .val (.int p2), .val (.int p3), .val (.int (p1 &&& (7 : Int32))), .val (.int (p2 &&& (7 : Int32))), .val (.int (1 : Int32)), .val (.int (1 : Int32)), .val (.ref b162), .val (.ref b162), .val (.int (p1 &&& (7 : Int32))), .val (.ref b166), .val (.long p0), .second, .unset, .unset, .unset] [(.int (0 : Int32))])) t → Steps p.tables e below (T192.setTop (mkF m 110 #[.val (.long p0), .second, .val (.int p1), .val (.int p2), .val (.int p3), .val (.int (p1 &&& (7 : Int32))), .val (.int (p2 &&& (7 : Int32))), .val (.int (1 : Int32)), .val (.int (1 : Int32)), .val (.ref b162), .val (.ref b162), .val (.int (p1 &&& (7 : Int32))), .val (.ref b166), .val (.long p0), .second, .unset, .unset, .unset] [(.ref o_NO_ASSIGNMENT)])) t := fun t k => by
        refine X192.arraylength hx (by rw [e192]; exact Ar193.1) (State.isArrayOf_alike hZ175.alike Ar193.2.1) (g := (mkF m 110 #[.val (.long p0), .second, .val (.int p1), .val (.int p2), .val (.int p3), .val (.int (p1 &&& (7 : Int32))), .val (.int (p2 &&& (7 : Int32))), .val (.int (1 : Int32)), .val (.int (1 : Int32)), .val (.ref b162), .val (.ref b162), .val (.int (p1 &&& (7 : Int32))), .val (.ref b166), .val (.long p0), .second, .unset, .unset, .unset] [(.ref o_NO_ASSIGNMENT)])) rfl rfl (hb hby at_110) _ ?_
        rw [len_of Sz193 Nn193]
        exact k
      refine own_go (fun t k => st193 t k) ?_
      show OwnG p.tables e below _ (T192.setTop (mkF m 111 #[.val (.long p0), .second, .val (.int p1), .val (.int p2), .val (.int p3), .val (.int (p1 &&& (7 : Int32))), .val (.int (p2 &&& (7 : Int32))), .val (.int (1 : Int32)), .val (.int (1 : Int32)), .val (.ref b162), .val (.ref b162), .val (.int (p1 &&& (7 : Int32))), .val (.ref b166), .val (.long p0), .second, .unset, .unset, .unset] [(.int (0 : Int32))]))
      refine own_go (fun t k => XS.ifNo X192.here hx rfl (hb hby at_111) rfl ((if0 _ _).trans (teq (by decide : (0 : Int32) = (0 : Int32))).2) k) ?_
      show OwnG p.tables e below _ (T192.setTop (mkF m 114 #[.val (.long p0), .second, .val (.int p1), .val (.int p2), .val (.int p3), .val (.int (p1 &&& (7 : Int32))), .val (.int (p2 &&& (7 : Int32))), .val (.int (1 : Int32)), .val (.int (1 : Int32)), .val (.ref b162), .val (.ref b162), .val (.int (p1 &&& (7 : Int32))), .val (.ref b166), .val (.long p0), .second, .unset, .unset, .unset] []))
      refine own_go (fun t k => XS.aload X192.here hx rfl (hb hby at_114) rfl rfl k) ?_
      show OwnG p.tables e below _ (T192.setTop (mkF m 116 #[.val (.long p0), .second, .val (.int p1), .val (.int p2), .val (.int p3), .val (.int (p1 &&& (7 : Int32))), .val (.int (p2 &&& (7 : Int32))), .val (.int (1 : Int32)), .val (.int (1 : Int32)), .val (.ref b162), .val (.ref b162), .val (.int (p1 &&& (7 : Int32))), .val (.ref b166), .val (.long p0), .second, .unset, .unset, .unset] [(.ref b166)]))
      obtain ⟨cq194, kq194, q194a, q194b, q194c⟩ := isOf hZ175 e192 Fq188_0
      obtain ⟨_, _, ⟨T194, L194, k194, n194⟩, -, X194, ⟨Lc194, hQ194, l194, y194, z194⟩, st194⟩ := X192.virtualBack hx (y := (⟨"com/example/offst/offst/group/Member", "heldBytes", "()J"⟩ : MethodName)) (z := (⟨"com/example/offst/offst/group/Member", "heldBytes", "()J"⟩ : MethodName)) hO175 (mvT hZ175 (hw _ (List.mem_of_getElem? (i := 28) rfl))) (mvT hZ175 (hw _ (List.mem_of_getElem? (i := 29) rfl))) (notFace_of_selects (args := #[]) (mvT hZ175 (hw _ (List.mem_of_getElem? (i := 31) rfl)))) (mvT hZ175 (hw _ (List.mem_of_getElem? (i := 31) rfl))) (mvT hZ175 (hw _ (List.mem_of_getElem? (i := 30) rfl))) (by decide) (backOf (W := 0) (own_held l Z a0 hw [] b166 p0 T188.heap n0 Z188 Fq188_2) hZ175 (hw _ (List.mem_of_getElem? (i := 32) rfl)) (hw _ (List.mem_of_getElem? (i := 3) rfl)) (by decide) (by decide)) q194a q194c (g := (mkF m 116 #[.val (.long p0), .second, .val (.int p1), .val (.int p2), .val (.int p3), .val (.int (p1 &&& (7 : Int32))), .val (.int (p2 &&& (7 : Int32))), .val (.int (1 : Int32)), .val (.int (1 : Int32)), .val (.ref b162), .val (.ref b162), .val (.int (p1 &&& (7 : Int32))), .val (.ref b166), .val (.long p0), .second, .unset, .unset, .unset] [(.ref b166)])) rfl (by rw [hml]; rfl) (Steps.refl _) (argsL := []) (rest := []) (lenOf own_pd51 rfl) rfl (by show 2 * 0 + _ ≤ _; exact Nat.le_of_eq rfl) (hb hby at_116) (fun _ _ => ⟨rfl, e192, (by decide : 4 + 0 ≤ _), (by decide : 22 + 0 ≤ _)⟩)
      dsimp only [Pt.U, Pt.locs, Pt.cells, Pt.slots] at X194 l194 y194 z194 st194 hQ194
      subst l194 y194 z194
      obtain ⟨rfl, Nq194, eq194⟩ := hQ194
      have N194 := Fr.app N192 Nq194
      have e194 : T194.heap = T188.heap := eq194
      refine own_go (fun t k => st194.trans k) ?_
      show OwnG p.tables e below _ (T194.setTop (mkF m 119 #[.val (.long p0), .second, .val (.int p1), .val (.int p2), .val (.int p3), .val (.int (p1 &&& (7 : Int32))), .val (.int (p2 &&& (7 : Int32))), .val (.int (1 : Int32)), .val (.int (1 : Int32)), .val (.ref b162), .val (.ref b162), .val (.int (p1 &&& (7 : Int32))), .val (.ref b166), .val (.long p0), .second, .unset, .unset, .unset] [(.long p0)]))
      refine own_go (fun t k => XS.lload X194.here hx rfl (hb hby at_119) rfl  k) ?_
      show OwnG p.tables e below _ (T194.setTop (mkF m 121 #[.val (.long p0), .second, .val (.int p1), .val (.int p2), .val (.int p3), .val (.int (p1 &&& (7 : Int32))), .val (.int (p2 &&& (7 : Int32))), .val (.int (1 : Int32)), .val (.int (1 : Int32)), .val (.ref b162), .val (.ref b162), .val (.int (p1 &&& (7 : Int32))), .val (.ref b166), .val (.long p0), .second, .unset, .unset, .unset] [(.long p0), (.long p0)]))
      refine own_go (fun t k => XS.lcmp X194.here hx rfl (hb hby at_121) rfl k) ?_
      show OwnG p.tables e below _ (T194.setTop (mkF m 122 #[.val (.long p0), .second, .val (.int p1), .val (.int p2), .val (.int p3), .val (.int (p1 &&& (7 : Int32))), .val (.int (p2 &&& (7 : Int32))), .val (.int (1 : Int32)), .val (.int (1 : Int32)), .val (.ref b162), .val (.ref b162), .val (.int (p1 &&& (7 : Int32))), .val (.ref b166), .val (.long p0), .second, .unset, .unset, .unset] [(.int (lcmpW p0 p0))]))
      refine own_go (fun t k => XS.ifNo X194.here hx rfl (hb hby at_122) rfl ((if0 _ _).trans (teq ((lw_eq _ _).mpr (rfl : p0 = p0))).2) k) ?_
      show OwnG p.tables e below _ (T194.setTop (mkF m 125 #[.val (.long p0), .second, .val (.int p1), .val (.int p2), .val (.int p3), .val (.int (p1 &&& (7 : Int32))), .val (.int (p2 &&& (7 : Int32))), .val (.int (1 : Int32)), .val (.int (1 : Int32)), .val (.ref b162), .val (.ref b162), .val (.int (p1 &&& (7 : Int32))), .val (.ref b166), .val (.long p0), .second, .unset, .unset, .unset] []))
      refine own_go (fun t k => XS.iconst X194.here hx rfl (hb hby at_125) k) ?_
      show OwnG p.tables e below _ (T194.setTop (mkF m 126 #[.val (.long p0), .second, .val (.int p1), .val (.int p2), .val (.int p3), .val (.int (p1 &&& (7 : Int32))), .val (.int (p2 &&& (7 : Int32))), .val (.int (1 : Int32)), .val (.int (1 : Int32)), .val (.ref b162), .val (.ref b162), .val (.int (p1 &&& (7 : Int32))), .val (.ref b166), .val (.long p0), .second, .unset, .unset, .unset] [(.int (1 : Int32))]))
      refine own_go (fun t k => XS.goto X194.here hx rfl (pc0 := 126) (pc' := 130) rfl (hb hby at_126) (by decide) (by decide) k) ?_
      show OwnG p.tables e below _ (T194.setTop (mkF m 130 #[.val (.long p0), .second, .val (.int p1), .val (.int p2), .val (.int p3), .val (.int (p1 &&& (7 : Int32))), .val (.int (p2 &&& (7 : Int32))), .val (.int (1 : Int32)), .val (.int (1 : Int32)), .val (.ref b162), .val (.ref b162), .val (.int (p1 &&& (7 : Int32))), .val (.ref b166), .val (.long p0), .second, .unset, .unset, .unset] [(.int (1 : Int32))]))
      refine own_go (fun t k => XS.istore X194.here hx rfl (hb hby at_130) rfl (l' := #[.val (.long p0), .second, .val (.int p1), .val (.int p2), .val (.int p3), .val (.int (p1 &&& (7 : Int32))), .val (.int (p2 &&& (7 : Int32))), .val (.int (1 : Int32)), .val (.int (1 : Int32)), .val (.ref b162), .val (.ref b162), .val (.int (p1 &&& (7 : Int32))), .val (.ref b166), .val (.long p0), .second, .val (.int (1 : Int32)), .unset, .unset]) rfl k) ?_
      show OwnG p.tables e below _ (T194.setTop (mkF m 132 #[.val (.long p0), .second, .val (.int p1), .val (.int p2), .val (.int p3), .val (.int (p1 &&& (7 : Int32))), .val (.int (p2 &&& (7 : Int32))), .val (.int (1 : Int32)), .val (.int (1 : Int32)), .val (.ref b162), .val (.ref b162), .val (.int (p1 &&& (7 : Int32))), .val (.ref b166), .val (.long p0), .second, .val (.int (1 : Int32)), .unset, .unset] []))
      refine own_go (fun t k => XS.aload X194.here hx rfl (hb hby at_132) rfl rfl k) ?_
      show OwnG p.tables e below _ (T194.setTop (mkF m 134 #[.val (.long p0), .second, .val (.int p1), .val (.int p2), .val (.int p3), .val (.int (p1 &&& (7 : Int32))), .val (.int (p2 &&& (7 : Int32))), .val (.int (1 : Int32)), .val (.int (1 : Int32)), .val (.ref b162), .val (.ref b162), .val (.int (p1 &&& (7 : Int32))), .val (.ref b166), .val (.long p0), .second, .val (.int (1 : Int32)), .unset, .unset] [(.ref b166)]))
      refine own_go (fun t k => XS.aload X194.here hx rfl (hb hby at_134) rfl rfl k) ?_
      show OwnG p.tables e below _ (T194.setTop (mkF m 136 #[.val (.long p0), .second, .val (.int p1), .val (.int p2), .val (.int p3), .val (.int (p1 &&& (7 : Int32))), .val (.int (p2 &&& (7 : Int32))), .val (.int (1 : Int32)), .val (.int (1 : Int32)), .val (.ref b162), .val (.ref b162), .val (.int (p1 &&& (7 : Int32))), .val (.ref b166), .val (.long p0), .second, .val (.int (1 : Int32)), .unset, .unset] [(.ref b162), (.ref b166)]))
      obtain ⟨cq195, kq195, q195a, q195b, q195c⟩ := isOf hZ175 e194 Fq188_0
      obtain ⟨_, _, ⟨T195, L195, k195, n195⟩, -, X195, ⟨Lc195, hQ195, l195, y195, z195⟩, st195⟩ := X194.virtualBack hx (y := (⟨"com/example/offst/offst/group/Member", "assign", "([B)V"⟩ : MethodName)) (z := (⟨"com/example/offst/offst/group/Member", "assign", "([B)V"⟩ : MethodName)) hO175 (mvT hZ175 (hw _ (List.mem_of_getElem? (i := 35) rfl))) (mvT hZ175 (hw _ (List.mem_of_getElem? (i := 36) rfl))) (notFace_of_selects (args := #[]) (mvT hZ175 (hw _ (List.mem_of_getElem? (i := 38) rfl)))) (mvT hZ175 (hw _ (List.mem_of_getElem? (i := 38) rfl))) (mvT hZ175 (hw _ (List.mem_of_getElem? (i := 37) rfl))) (by decide) (backOf (W := 0) (own_assign l Z a0 hw [] b166 b162 o_NO_ASSIGNMENT k162 kc_o_NO_ASSIGNMENT (p1 &&& (7 : Int32)) (0 : Int32) p0 T188.heap n0 Z188 Fq188_0 Fq188_1 Fq188_2 F190 (V_o_NO_ASSIGNMENT.ext F189.2) g_b166) hZ175 (hw _ (List.mem_of_getElem? (i := 39) rfl)) (hw _ (List.mem_of_getElem? (i := 3) rfl)) (by decide) (by decide)) q195a q195c (g := (mkF m 136 #[.val (.long p0), .second, .val (.int p1), .val (.int p2), .val (.int p3), .val (.int (p1 &&& (7 : Int32))), .val (.int (p2 &&& (7 : Int32))), .val (.int (1 : Int32)), .val (.int (1 : Int32)), .val (.ref b162), .val (.ref b162), .val (.int (p1 &&& (7 : Int32))), .val (.ref b166), .val (.long p0), .second, .val (.int (1 : Int32)), .unset, .unset] [(.ref b162), (.ref b166)])) rfl (by rw [hml]; rfl) (Steps.refl _) (argsL := [(.ref b162)]) (rest := []) (lenOf own_pd52 rfl) rfl (by show 2 * 0 + _ ≤ _; exact Nat.le_of_eq rfl) (hb hby at_136) (fun _ _ => ⟨rfl, e194, (by decide : 4 + 0 ≤ _), (by decide : 22 + 0 ≤ _)⟩)
      dsimp only [Pt.U, Pt.locs, Pt.cells, Pt.slots] at X195 l195 y195 z195 st195 hQ195
      subst l195 y195 z195
      obtain ⟨rfl, Nq195, Kq195, Fq195_0, Fq195_1, Fq195_2⟩ := hQ195
      have N195 := Fr.app N194 Nq195
      have F196 : Old Z n0 T195.heap := F189.keep Kq195 (allS g_b166 all0)
      have F197 : Arv Z T195.heap b162 k162 .byte (p1 &&& (7 : Int32)) [] (.int (0 : Int32)) := F190.keep Kq195 (ninS ne167 nin0)
      have F198 : Exa Z T195.heap b166 "com/example/offst/offst/group/Member" := Fq188_0.keep Kq195
      have K195 : Keep h0 T195.heap [] := K188.trans Kq195 (allS (Or.inr sz_b166) all0)
      have Z195 : n0 ≤ T195.heap.size := Nat.le_trans Z188 Kq195.1
      have hk195 : _ ≤ T195.heap.size := Nat.le_trans hk188 Kq195.1
      refine own_go (fun t k => st195.trans k) ?_
      show OwnG p.tables e below _ (T195.setTop (mkF m 139 #[.val (.long p0), .second, .val (.int p1), .val (.int p2), .val (.int p3), .val (.int (p1 &&& (7 : Int32))), .val (.int (p2 &&& (7 : Int32))), .val (.int (1 : Int32)), .val (.int (1 : Int32)), .val (.ref b162), .val (.ref b162), .val (.int (p1 &&& (7 : Int32))), .val (.ref b166), .val (.long p0), .second, .val (.int (1 : Int32)), .unset, .unset] []))
      have F199 : Fld Z T195.heap b166 "com/example/offst/offst/group/Member" "heldBytes" "J" (.long (p0 + ((p1 &&& (7 : Int32)).toInt64))) := by rw [show (p0 + ((p1 &&& (7 : Int32)).toInt64)) = _ from own_first p0 (p1 &&& (7 : Int32))]; exact Fq195_2
      refine own_go (fun t k => XS.aload X195.here hx rfl (hb hby at_139) rfl rfl k) ?_
      show OwnG p.tables e below _ (T195.setTop (mkF m 141 #[.val (.long p0), .second, .val (.int p1), .val (.int p2), .val (.int p3), .val (.int (p1 &&& (7 : Int32))), .val (.int (p2 &&& (7 : Int32))), .val (.int (1 : Int32)), .val (.int (1 : Int32)), .val (.ref b162), .val (.ref b162), .val (.int (p1 &&& (7 : Int32))), .val (.ref b166), .val (.long p0), .second, .val (.int (1 : Int32)), .unset, .unset] [(.ref b166)]))
      obtain ⟨cq200, kq200, q200a, q200b, q200c⟩ := isOf hZ175 rfl Fq195_0
      obtain ⟨_, _, ⟨T200, L200, k200, n200⟩, -, X200, ⟨Lc200, hQ200, l200, y200, z200⟩, st200⟩ := X195.virtualBack hx (y := (⟨"com/example/offst/offst/group/Member", "heldBytes", "()J"⟩ : MethodName)) (z := (⟨"com/example/offst/offst/group/Member", "heldBytes", "()J"⟩ : MethodName)) hO175 (mvT hZ175 (hw _ (List.mem_of_getElem? (i := 28) rfl))) (mvT hZ175 (hw _ (List.mem_of_getElem? (i := 29) rfl))) (notFace_of_selects (args := #[]) (mvT hZ175 (hw _ (List.mem_of_getElem? (i := 31) rfl)))) (mvT hZ175 (hw _ (List.mem_of_getElem? (i := 31) rfl))) (mvT hZ175 (hw _ (List.mem_of_getElem? (i := 30) rfl))) (by decide) (backOf (W := 0) (own_held l Z a0 hw [] b166 (p0 + ((p1 &&& (7 : Int32)).toInt64)) T195.heap n0 Z195 F199) hZ175 (hw _ (List.mem_of_getElem? (i := 32) rfl)) (hw _ (List.mem_of_getElem? (i := 3) rfl)) (by decide) (by decide)) q200a q200c (g := (mkF m 141 #[.val (.long p0), .second, .val (.int p1), .val (.int p2), .val (.int p3), .val (.int (p1 &&& (7 : Int32))), .val (.int (p2 &&& (7 : Int32))), .val (.int (1 : Int32)), .val (.int (1 : Int32)), .val (.ref b162), .val (.ref b162), .val (.int (p1 &&& (7 : Int32))), .val (.ref b166), .val (.long p0), .second, .val (.int (1 : Int32)), .unset, .unset] [(.ref b166)])) rfl (by rw [hml]; rfl) (Steps.refl _) (argsL := []) (rest := []) (lenOf own_pd51 rfl) rfl (by show 2 * 0 + _ ≤ _; exact Nat.le_of_eq rfl) (hb hby at_141) (fun _ _ => ⟨rfl, rfl, (by decide : 4 + 0 ≤ _), (by decide : 22 + 0 ≤ _)⟩)
      dsimp only [Pt.U, Pt.locs, Pt.cells, Pt.slots] at X200 l200 y200 z200 st200 hQ200
      subst l200 y200 z200
      obtain ⟨rfl, Nq200, eq200⟩ := hQ200
      have N200 := Fr.app N195 Nq200
      have e200 : T200.heap = T195.heap := eq200
      refine own_go (fun t k => st200.trans k) ?_
      show OwnG p.tables e below _ (T200.setTop (mkF m 144 #[.val (.long p0), .second, .val (.int p1), .val (.int p2), .val (.int p3), .val (.int (p1 &&& (7 : Int32))), .val (.int (p2 &&& (7 : Int32))), .val (.int (1 : Int32)), .val (.int (1 : Int32)), .val (.ref b162), .val (.ref b162), .val (.int (p1 &&& (7 : Int32))), .val (.ref b166), .val (.long p0), .second, .val (.int (1 : Int32)), .unset, .unset] [(.long (p0 + ((p1 &&& (7 : Int32)).toInt64)))]))
      refine own_go (fun t k => XS.lload X200.here hx rfl (hb hby at_144) rfl  k) ?_
      show OwnG p.tables e below _ (T200.setTop (mkF m 146 #[.val (.long p0), .second, .val (.int p1), .val (.int p2), .val (.int p3), .val (.int (p1 &&& (7 : Int32))), .val (.int (p2 &&& (7 : Int32))), .val (.int (1 : Int32)), .val (.int (1 : Int32)), .val (.ref b162), .val (.ref b162), .val (.int (p1 &&& (7 : Int32))), .val (.ref b166), .val (.long p0), .second, .val (.int (1 : Int32)), .unset, .unset] [(.long p0), (.long (p0 + ((p1 &&& (7 : Int32)).toInt64)))]))
      refine own_go (fun t k => XS.iload X200.here hx rfl (hb hby at_146) rfl  k) ?_
      show OwnG p.tables e below _ (T200.setTop (mkF m 148 #[.val (.long p0), .second, .val (.int p1), .val (.int p2), .val (.int p3), .val (.int (p1 &&& (7 : Int32))), .val (.int (p2 &&& (7 : Int32))), .val (.int (1 : Int32)), .val (.int (1 : Int32)), .val (.ref b162), .val (.ref b162), .val (.int (p1 &&& (7 : Int32))), .val (.ref b166), .val (.long p0), .second, .val (.int (1 : Int32)), .unset, .unset] [(.int (p1 &&& (7 : Int32))), (.long p0), (.long (p0 + ((p1 &&& (7 : Int32)).toInt64)))]))
      refine own_go (fun t k => XS.i2l X200.here hx rfl (hb hby at_148) rfl k) ?_
      show OwnG p.tables e below _ (T200.setTop (mkF m 149 #[.val (.long p0), .second, .val (.int p1), .val (.int p2), .val (.int p3), .val (.int (p1 &&& (7 : Int32))), .val (.int (p2 &&& (7 : Int32))), .val (.int (1 : Int32)), .val (.int (1 : Int32)), .val (.ref b162), .val (.ref b162), .val (.int (p1 &&& (7 : Int32))), .val (.ref b166), .val (.long p0), .second, .val (.int (1 : Int32)), .unset, .unset] [(.long ((p1 &&& (7 : Int32)).toInt64)), (.long p0), (.long (p0 + ((p1 &&& (7 : Int32)).toInt64)))]))
      refine own_go (fun t k => XS.ladd X200.here hx rfl (hb hby at_149) rfl k) ?_
      show OwnG p.tables e below _ (T200.setTop (mkF m 150 #[.val (.long p0), .second, .val (.int p1), .val (.int p2), .val (.int p3), .val (.int (p1 &&& (7 : Int32))), .val (.int (p2 &&& (7 : Int32))), .val (.int (1 : Int32)), .val (.int (1 : Int32)), .val (.ref b162), .val (.ref b162), .val (.int (p1 &&& (7 : Int32))), .val (.ref b166), .val (.long p0), .second, .val (.int (1 : Int32)), .unset, .unset] [(.long (p0 + ((p1 &&& (7 : Int32)).toInt64))), (.long (p0 + ((p1 &&& (7 : Int32)).toInt64)))]))
      refine own_go (fun t k => XS.lcmp X200.here hx rfl (hb hby at_150) rfl k) ?_
      show OwnG p.tables e below _ (T200.setTop (mkF m 151 #[.val (.long p0), .second, .val (.int p1), .val (.int p2), .val (.int p3), .val (.int (p1 &&& (7 : Int32))), .val (.int (p2 &&& (7 : Int32))), .val (.int (1 : Int32)), .val (.int (1 : Int32)), .val (.ref b162), .val (.ref b162), .val (.int (p1 &&& (7 : Int32))), .val (.ref b166), .val (.long p0), .second, .val (.int (1 : Int32)), .unset, .unset] [(.int (lcmpW (p0 + ((p1 &&& (7 : Int32)).toInt64)) (p0 + ((p1 &&& (7 : Int32)).toInt64))))]))
      refine own_go (fun t k => XS.ifNo X200.here hx rfl (hb hby at_151) rfl ((if0 _ _).trans (teq ((lw_eq _ _).mpr (rfl : (p0 + ((p1 &&& (7 : Int32)).toInt64)) = (p0 + ((p1 &&& (7 : Int32)).toInt64))))).2) k) ?_
      show OwnG p.tables e below _ (T200.setTop (mkF m 154 #[.val (.long p0), .second, .val (.int p1), .val (.int p2), .val (.int p3), .val (.int (p1 &&& (7 : Int32))), .val (.int (p2 &&& (7 : Int32))), .val (.int (1 : Int32)), .val (.int (1 : Int32)), .val (.ref b162), .val (.ref b162), .val (.int (p1 &&& (7 : Int32))), .val (.ref b166), .val (.long p0), .second, .val (.int (1 : Int32)), .unset, .unset] []))
      refine own_go (fun t k => XS.aload X200.here hx rfl (hb hby at_154) rfl rfl k) ?_
      show OwnG p.tables e below _ (T200.setTop (mkF m 156 #[.val (.long p0), .second, .val (.int p1), .val (.int p2), .val (.int p3), .val (.int (p1 &&& (7 : Int32))), .val (.int (p2 &&& (7 : Int32))), .val (.int (1 : Int32)), .val (.int (1 : Int32)), .val (.ref b162), .val (.ref b162), .val (.int (p1 &&& (7 : Int32))), .val (.ref b166), .val (.long p0), .second, .val (.int (1 : Int32)), .unset, .unset] [(.ref b166)]))
      obtain ⟨cq201, kq201, q201a, q201b, q201c⟩ := isOf hZ175 e200 Fq195_0
      obtain ⟨_, _, ⟨T201, L201, k201, n201⟩, -, X201, ⟨Lc201, hQ201, l201, y201, z201⟩, st201⟩ := X200.virtualBack hx (y := (⟨"com/example/offst/offst/group/Member", "assignment", "()[B"⟩ : MethodName)) (z := (⟨"com/example/offst/offst/group/Member", "assignment", "()[B"⟩ : MethodName)) hO175 (mvT hZ175 (hw _ (List.mem_of_getElem? (i := 23) rfl))) (mvT hZ175 (hw _ (List.mem_of_getElem? (i := 24) rfl))) (notFace_of_selects (args := #[]) (mvT hZ175 (hw _ (List.mem_of_getElem? (i := 26) rfl)))) (mvT hZ175 (hw _ (List.mem_of_getElem? (i := 26) rfl))) (mvT hZ175 (hw _ (List.mem_of_getElem? (i := 25) rfl))) (by decide) (backOf (W := 0) (own_assignment l Z a0 hw [] b166 b162 T195.heap n0 Z195 Fq195_1) hZ175 (hw _ (List.mem_of_getElem? (i := 27) rfl)) (hw _ (List.mem_of_getElem? (i := 3) rfl)) (by decide) (by decide)) q201a q201c (g := (mkF m 156 #[.val (.long p0), .second, .val (.int p1), .val (.int p2), .val (.int p3), .val (.int (p1 &&& (7 : Int32))), .val (.int (p2 &&& (7 : Int32))), .val (.int (1 : Int32)), .val (.int (1 : Int32)), .val (.ref b162), .val (.ref b162), .val (.int (p1 &&& (7 : Int32))), .val (.ref b166), .val (.long p0), .second, .val (.int (1 : Int32)), .unset, .unset] [(.ref b166)])) rfl (by rw [hml]; rfl) (Steps.refl _) (argsL := []) (rest := []) (lenOf own_pd50 rfl) rfl (by show 2 * 0 + _ ≤ _; exact Nat.le_of_eq rfl) (hb hby at_156) (fun _ _ => ⟨rfl, e200, (by decide : 4 + 0 ≤ _), (by decide : 22 + 0 ≤ _)⟩)
      dsimp only [Pt.U, Pt.locs, Pt.cells, Pt.slots] at X201 l201 y201 z201 st201 hQ201
      subst l201 y201 z201
      obtain ⟨rfl, Nq201, eq201⟩ := hQ201
      have N201 := Fr.app N200 Nq201
      have e201 : T201.heap = T195.heap := eq201
      refine own_go (fun t k => st201.trans k) ?_
      show OwnG p.tables e below _ (T201.setTop (mkF m 159 #[.val (.long p0), .second, .val (.int p1), .val (.int p2), .val (.int p3), .val (.int (p1 &&& (7 : Int32))), .val (.int (p2 &&& (7 : Int32))), .val (.int (1 : Int32)), .val (.int (1 : Int32)), .val (.ref b162), .val (.ref b162), .val (.int (p1 &&& (7 : Int32))), .val (.ref b166), .val (.long p0), .second, .val (.int (1 : Int32)), .unset, .unset] [(.ref b162)]))
      refine own_go (fun t k => XS.aload X201.here hx rfl (hb hby at_159) rfl rfl k) ?_
      show OwnG p.tables e below _ (T201.setTop (mkF m 161 #[.val (.long p0), .second, .val (.int p1), .val (.int p2), .val (.int p3), .val (.int (p1 &&& (7 : Int32))), .val (.int (p2 &&& (7 : Int32))), .val (.int (1 : Int32)), .val (.int (1 : Int32)), .val (.ref b162), .val (.ref b162), .val (.int (p1 &&& (7 : Int32))), .val (.ref b166), .val (.long p0), .second, .val (.int (1 : Int32)), .unset, .unset] [(.ref b162), (.ref b162)]))
      refine own_go (fun t k => Jvm.RoadKit.acmp (g := (mkF m 161 #[.val (.long p0), .second, .val (.int p1), .val (.int p2), .val (.int p3), .val (.int (p1 &&& (7 : Int32))), .val (.int (p2 &&& (7 : Int32))), .val (.int (1 : Int32)), .val (.int (1 : Int32)), .val (.ref b162), .val (.ref b162), .val (.int (p1 &&& (7 : Int32))), .val (.ref b166), .val (.long p0), .second, .val (.int (1 : Int32)), .unset, .unset] [(.ref b162), (.ref b162)])) X201 hx rfl rfl rfl (pc0 := 161) (pc' := 164) (same := true) rfl (hb hby at_161) rfl (decide_eq_true rfl) (by decide) (by decide) k) ?_
      show OwnG p.tables e below _ (T201.setTop (mkF m 164 #[.val (.long p0), .second, .val (.int p1), .val (.int p2), .val (.int p3), .val (.int (p1 &&& (7 : Int32))), .val (.int (p2 &&& (7 : Int32))), .val (.int (1 : Int32)), .val (.int (1 : Int32)), .val (.ref b162), .val (.ref b162), .val (.int (p1 &&& (7 : Int32))), .val (.ref b166), .val (.long p0), .second, .val (.int (1 : Int32)), .unset, .unset] []))
      refine own_go (fun t k => XS.iconst X201.here hx rfl (hb hby at_164) k) ?_
      show OwnG p.tables e below _ (T201.setTop (mkF m 165 #[.val (.long p0), .second, .val (.int p1), .val (.int p2), .val (.int p3), .val (.int (p1 &&& (7 : Int32))), .val (.int (p2 &&& (7 : Int32))), .val (.int (1 : Int32)), .val (.int (1 : Int32)), .val (.ref b162), .val (.ref b162), .val (.int (p1 &&& (7 : Int32))), .val (.ref b166), .val (.long p0), .second, .val (.int (1 : Int32)), .unset, .unset] [(.int (1 : Int32))]))
      refine own_go (fun t k => XS.goto X201.here hx rfl (pc0 := 165) (pc' := 169) rfl (hb hby at_165) (by decide) (by decide) k) ?_
      show OwnG p.tables e below _ (T201.setTop (mkF m 169 #[.val (.long p0), .second, .val (.int p1), .val (.int p2), .val (.int p3), .val (.int (p1 &&& (7 : Int32))), .val (.int (p2 &&& (7 : Int32))), .val (.int (1 : Int32)), .val (.int (1 : Int32)), .val (.ref b162), .val (.ref b162), .val (.int (p1 &&& (7 : Int32))), .val (.ref b166), .val (.long p0), .second, .val (.int (1 : Int32)), .unset, .unset] [(.int (1 : Int32))]))
      refine own_go (fun t k => XS.istore X201.here hx rfl (hb hby at_169) rfl (l' := #[.val (.long p0), .second, .val (.int p1), .val (.int p2), .val (.int p3), .val (.int (p1 &&& (7 : Int32))), .val (.int (p2 &&& (7 : Int32))), .val (.int (1 : Int32)), .val (.int (1 : Int32)), .val (.ref b162), .val (.ref b162), .val (.int (p1 &&& (7 : Int32))), .val (.ref b166), .val (.long p0), .second, .val (.int (1 : Int32)), .val (.int (1 : Int32)), .unset]) rfl k) ?_
      show OwnG p.tables e below _ (T201.setTop (mkF m 171 #[.val (.long p0), .second, .val (.int p1), .val (.int p2), .val (.int p3), .val (.int (p1 &&& (7 : Int32))), .val (.int (p2 &&& (7 : Int32))), .val (.int (1 : Int32)), .val (.int (1 : Int32)), .val (.ref b162), .val (.ref b162), .val (.int (p1 &&& (7 : Int32))), .val (.ref b166), .val (.long p0), .second, .val (.int (1 : Int32)), .val (.int (1 : Int32)), .unset] []))
      refine own_go (fun t k => XS.aload X201.here hx rfl (hb hby at_171) rfl rfl k) ?_
      show OwnG p.tables e below _ (T201.setTop (mkF m 173 #[.val (.long p0), .second, .val (.int p1), .val (.int p2), .val (.int p3), .val (.int (p1 &&& (7 : Int32))), .val (.int (p2 &&& (7 : Int32))), .val (.int (1 : Int32)), .val (.int (1 : Int32)), .val (.ref b162), .val (.ref b162), .val (.int (p1 &&& (7 : Int32))), .val (.ref b166), .val (.long p0), .second, .val (.int (1 : Int32)), .val (.int (1 : Int32)), .unset] [(.ref b166)]))
      refine own_go (fun t k => XS.aload X201.here hx rfl (hb hby at_173) rfl rfl k) ?_
      show OwnG p.tables e below _ (T201.setTop (mkF m 175 #[.val (.long p0), .second, .val (.int p1), .val (.int p2), .val (.int p3), .val (.int (p1 &&& (7 : Int32))), .val (.int (p2 &&& (7 : Int32))), .val (.int (1 : Int32)), .val (.int (1 : Int32)), .val (.ref b162), .val (.ref b162), .val (.int (p1 &&& (7 : Int32))), .val (.ref b166), .val (.long p0), .second, .val (.int (1 : Int32)), .val (.int (1 : Int32)), .unset] [(.ref b162), (.ref b166)]))
      obtain ⟨cq202, kq202, q202a, q202b, q202c⟩ := isOf hZ175 e201 Fq195_0
      obtain ⟨_, _, ⟨T202, L202, k202, n202⟩, -, X202, ⟨Lc202, hQ202, l202, y202, z202⟩, st202⟩ := X201.virtualBack hx (y := (⟨"com/example/offst/offst/group/Member", "assign", "([B)V"⟩ : MethodName)) (z := (⟨"com/example/offst/offst/group/Member", "assign", "([B)V"⟩ : MethodName)) hO175 (mvT hZ175 (hw _ (List.mem_of_getElem? (i := 35) rfl))) (mvT hZ175 (hw _ (List.mem_of_getElem? (i := 36) rfl))) (notFace_of_selects (args := #[]) (mvT hZ175 (hw _ (List.mem_of_getElem? (i := 38) rfl)))) (mvT hZ175 (hw _ (List.mem_of_getElem? (i := 38) rfl))) (mvT hZ175 (hw _ (List.mem_of_getElem? (i := 37) rfl))) (by decide) (backOf (W := 0) (own_assign l Z a0 hw [] b166 b162 b162 k162 k162 (p1 &&& (7 : Int32)) (p1 &&& (7 : Int32)) (p0 + ((p1 &&& (7 : Int32)).toInt64)) T195.heap n0 Z195 Fq195_0 Fq195_1 F199 F197 F197 g_b166) hZ175 (hw _ (List.mem_of_getElem? (i := 39) rfl)) (hw _ (List.mem_of_getElem? (i := 3) rfl)) (by decide) (by decide)) q202a q202c (g := (mkF m 175 #[.val (.long p0), .second, .val (.int p1), .val (.int p2), .val (.int p3), .val (.int (p1 &&& (7 : Int32))), .val (.int (p2 &&& (7 : Int32))), .val (.int (1 : Int32)), .val (.int (1 : Int32)), .val (.ref b162), .val (.ref b162), .val (.int (p1 &&& (7 : Int32))), .val (.ref b166), .val (.long p0), .second, .val (.int (1 : Int32)), .val (.int (1 : Int32)), .unset] [(.ref b162), (.ref b166)])) rfl (by rw [hml]; rfl) (Steps.refl _) (argsL := [(.ref b162)]) (rest := []) (lenOf own_pd52 rfl) rfl (by show 2 * 0 + _ ≤ _; exact Nat.le_of_eq rfl) (hb hby at_175) (fun _ _ => ⟨rfl, e201, (by decide : 4 + 0 ≤ _), (by decide : 22 + 0 ≤ _)⟩)
      dsimp only [Pt.U, Pt.locs, Pt.cells, Pt.slots] at X202 l202 y202 z202 st202 hQ202
      subst l202 y202 z202
      obtain ⟨rfl, Nq202, Kq202, Fq202_0, Fq202_1, Fq202_2⟩ := hQ202
      have N202 := Fr.app N201 Nq202
      have F203 : Old Z n0 T202.heap := F196.keep Kq202 (allS g_b166 all0)
      have F204 : Arv Z T202.heap b162 k162 .byte (p1 &&& (7 : Int32)) [] (.int (0 : Int32)) := F197.keep Kq202 (ninS ne167 nin0)
      have F205 : Exa Z T202.heap b166 "com/example/offst/offst/group/Member" := Fq195_0.keep Kq202
      have K202 : Keep h0 T202.heap [] := K195.trans Kq202 (allS (Or.inr sz_b166) all0)
      have Z202 : n0 ≤ T202.heap.size := Nat.le_trans Z195 Kq202.1
      have hk202 : _ ≤ T202.heap.size := Nat.le_trans hk195 Kq202.1
      refine own_go (fun t k => st202.trans k) ?_
      show OwnG p.tables e below _ (T202.setTop (mkF m 178 #[.val (.long p0), .second, .val (.int p1), .val (.int p2), .val (.int p3), .val (.int (p1 &&& (7 : Int32))), .val (.int (p2 &&& (7 : Int32))), .val (.int (1 : Int32)), .val (.int (1 : Int32)), .val (.ref b162), .val (.ref b162), .val (.int (p1 &&& (7 : Int32))), .val (.ref b166), .val (.long p0), .second, .val (.int (1 : Int32)), .val (.int (1 : Int32)), .unset] []))
      have F206 : Fld Z T202.heap b166 "com/example/offst/offst/group/Member" "heldBytes" "J" (.long (p0 + ((p1 &&& (7 : Int32)).toInt64))) := by rw [show (p0 + ((p1 &&& (7 : Int32)).toInt64)) = _ from own_second p0 p1 p1]; exact Fq202_2
      refine own_go (fun t k => XS.aload X202.here hx rfl (hb hby at_178) rfl rfl k) ?_
      show OwnG p.tables e below _ (T202.setTop (mkF m 180 #[.val (.long p0), .second, .val (.int p1), .val (.int p2), .val (.int p3), .val (.int (p1 &&& (7 : Int32))), .val (.int (p2 &&& (7 : Int32))), .val (.int (1 : Int32)), .val (.int (1 : Int32)), .val (.ref b162), .val (.ref b162), .val (.int (p1 &&& (7 : Int32))), .val (.ref b166), .val (.long p0), .second, .val (.int (1 : Int32)), .val (.int (1 : Int32)), .unset] [(.ref b166)]))
      obtain ⟨cq207, kq207, q207a, q207b, q207c⟩ := isOf hZ175 rfl Fq202_0
      obtain ⟨_, _, ⟨T207, L207, k207, n207⟩, -, X207, ⟨Lc207, hQ207, l207, y207, z207⟩, st207⟩ := X202.virtualBack hx (y := (⟨"com/example/offst/offst/group/Member", "heldBytes", "()J"⟩ : MethodName)) (z := (⟨"com/example/offst/offst/group/Member", "heldBytes", "()J"⟩ : MethodName)) hO175 (mvT hZ175 (hw _ (List.mem_of_getElem? (i := 28) rfl))) (mvT hZ175 (hw _ (List.mem_of_getElem? (i := 29) rfl))) (notFace_of_selects (args := #[]) (mvT hZ175 (hw _ (List.mem_of_getElem? (i := 31) rfl)))) (mvT hZ175 (hw _ (List.mem_of_getElem? (i := 31) rfl))) (mvT hZ175 (hw _ (List.mem_of_getElem? (i := 30) rfl))) (by decide) (backOf (W := 0) (own_held l Z a0 hw [] b166 (p0 + ((p1 &&& (7 : Int32)).toInt64)) T202.heap n0 Z202 F206) hZ175 (hw _ (List.mem_of_getElem? (i := 32) rfl)) (hw _ (List.mem_of_getElem? (i := 3) rfl)) (by decide) (by decide)) q207a q207c (g := (mkF m 180 #[.val (.long p0), .second, .val (.int p1), .val (.int p2), .val (.int p3), .val (.int (p1 &&& (7 : Int32))), .val (.int (p2 &&& (7 : Int32))), .val (.int (1 : Int32)), .val (.int (1 : Int32)), .val (.ref b162), .val (.ref b162), .val (.int (p1 &&& (7 : Int32))), .val (.ref b166), .val (.long p0), .second, .val (.int (1 : Int32)), .val (.int (1 : Int32)), .unset] [(.ref b166)])) rfl (by rw [hml]; rfl) (Steps.refl _) (argsL := []) (rest := []) (lenOf own_pd51 rfl) rfl (by show 2 * 0 + _ ≤ _; exact Nat.le_of_eq rfl) (hb hby at_180) (fun _ _ => ⟨rfl, rfl, (by decide : 4 + 0 ≤ _), (by decide : 22 + 0 ≤ _)⟩)
      dsimp only [Pt.U, Pt.locs, Pt.cells, Pt.slots] at X207 l207 y207 z207 st207 hQ207
      subst l207 y207 z207
      obtain ⟨rfl, Nq207, eq207⟩ := hQ207
      have N207 := Fr.app N202 Nq207
      have e207 : T207.heap = T202.heap := eq207
      refine own_go (fun t k => st207.trans k) ?_
      show OwnG p.tables e below _ (T207.setTop (mkF m 183 #[.val (.long p0), .second, .val (.int p1), .val (.int p2), .val (.int p3), .val (.int (p1 &&& (7 : Int32))), .val (.int (p2 &&& (7 : Int32))), .val (.int (1 : Int32)), .val (.int (1 : Int32)), .val (.ref b162), .val (.ref b162), .val (.int (p1 &&& (7 : Int32))), .val (.ref b166), .val (.long p0), .second, .val (.int (1 : Int32)), .val (.int (1 : Int32)), .unset] [(.long (p0 + ((p1 &&& (7 : Int32)).toInt64)))]))
      refine own_go (fun t k => XS.lload X207.here hx rfl (hb hby at_183) rfl  k) ?_
      show OwnG p.tables e below _ (T207.setTop (mkF m 185 #[.val (.long p0), .second, .val (.int p1), .val (.int p2), .val (.int p3), .val (.int (p1 &&& (7 : Int32))), .val (.int (p2 &&& (7 : Int32))), .val (.int (1 : Int32)), .val (.int (1 : Int32)), .val (.ref b162), .val (.ref b162), .val (.int (p1 &&& (7 : Int32))), .val (.ref b166), .val (.long p0), .second, .val (.int (1 : Int32)), .val (.int (1 : Int32)), .unset] [(.long p0), (.long (p0 + ((p1 &&& (7 : Int32)).toInt64)))]))
      refine own_go (fun t k => XS.iload X207.here hx rfl (hb hby at_185) rfl  k) ?_
      show OwnG p.tables e below _ (T207.setTop (mkF m 187 #[.val (.long p0), .second, .val (.int p1), .val (.int p2), .val (.int p3), .val (.int (p1 &&& (7 : Int32))), .val (.int (p2 &&& (7 : Int32))), .val (.int (1 : Int32)), .val (.int (1 : Int32)), .val (.ref b162), .val (.ref b162), .val (.int (p1 &&& (7 : Int32))), .val (.ref b166), .val (.long p0), .second, .val (.int (1 : Int32)), .val (.int (1 : Int32)), .unset] [(.int (p1 &&& (7 : Int32))), (.long p0), (.long (p0 + ((p1 &&& (7 : Int32)).toInt64)))]))
      refine own_go (fun t k => XS.i2l X207.here hx rfl (hb hby at_187) rfl k) ?_
      show OwnG p.tables e below _ (T207.setTop (mkF m 188 #[.val (.long p0), .second, .val (.int p1), .val (.int p2), .val (.int p3), .val (.int (p1 &&& (7 : Int32))), .val (.int (p2 &&& (7 : Int32))), .val (.int (1 : Int32)), .val (.int (1 : Int32)), .val (.ref b162), .val (.ref b162), .val (.int (p1 &&& (7 : Int32))), .val (.ref b166), .val (.long p0), .second, .val (.int (1 : Int32)), .val (.int (1 : Int32)), .unset] [(.long ((p1 &&& (7 : Int32)).toInt64)), (.long p0), (.long (p0 + ((p1 &&& (7 : Int32)).toInt64)))]))
      refine own_go (fun t k => XS.ladd X207.here hx rfl (hb hby at_188) rfl k) ?_
      show OwnG p.tables e below _ (T207.setTop (mkF m 189 #[.val (.long p0), .second, .val (.int p1), .val (.int p2), .val (.int p3), .val (.int (p1 &&& (7 : Int32))), .val (.int (p2 &&& (7 : Int32))), .val (.int (1 : Int32)), .val (.int (1 : Int32)), .val (.ref b162), .val (.ref b162), .val (.int (p1 &&& (7 : Int32))), .val (.ref b166), .val (.long p0), .second, .val (.int (1 : Int32)), .val (.int (1 : Int32)), .unset] [(.long (p0 + ((p1 &&& (7 : Int32)).toInt64))), (.long (p0 + ((p1 &&& (7 : Int32)).toInt64)))]))
      refine own_go (fun t k => XS.lcmp X207.here hx rfl (hb hby at_189) rfl k) ?_
      show OwnG p.tables e below _ (T207.setTop (mkF m 190 #[.val (.long p0), .second, .val (.int p1), .val (.int p2), .val (.int p3), .val (.int (p1 &&& (7 : Int32))), .val (.int (p2 &&& (7 : Int32))), .val (.int (1 : Int32)), .val (.int (1 : Int32)), .val (.ref b162), .val (.ref b162), .val (.int (p1 &&& (7 : Int32))), .val (.ref b166), .val (.long p0), .second, .val (.int (1 : Int32)), .val (.int (1 : Int32)), .unset] [(.int (lcmpW (p0 + ((p1 &&& (7 : Int32)).toInt64)) (p0 + ((p1 &&& (7 : Int32)).toInt64))))]))
      refine own_go (fun t k => XS.ifNo X207.here hx rfl (hb hby at_190) rfl ((if0 _ _).trans (teq ((lw_eq _ _).mpr (rfl : (p0 + ((p1 &&& (7 : Int32)).toInt64)) = (p0 + ((p1 &&& (7 : Int32)).toInt64))))).2) k) ?_
      show OwnG p.tables e below _ (T207.setTop (mkF m 193 #[.val (.long p0), .second, .val (.int p1), .val (.int p2), .val (.int p3), .val (.int (p1 &&& (7 : Int32))), .val (.int (p2 &&& (7 : Int32))), .val (.int (1 : Int32)), .val (.int (1 : Int32)), .val (.ref b162), .val (.ref b162), .val (.int (p1 &&& (7 : Int32))), .val (.ref b166), .val (.long p0), .second, .val (.int (1 : Int32)), .val (.int (1 : Int32)), .unset] []))
      refine own_go (fun t k => XS.aload X207.here hx rfl (hb hby at_193) rfl rfl k) ?_
      show OwnG p.tables e below _ (T207.setTop (mkF m 195 #[.val (.long p0), .second, .val (.int p1), .val (.int p2), .val (.int p3), .val (.int (p1 &&& (7 : Int32))), .val (.int (p2 &&& (7 : Int32))), .val (.int (1 : Int32)), .val (.int (1 : Int32)), .val (.ref b162), .val (.ref b162), .val (.int (p1 &&& (7 : Int32))), .val (.ref b166), .val (.long p0), .second, .val (.int (1 : Int32)), .val (.int (1 : Int32)), .unset] [(.ref b166)]))
      obtain ⟨cq208, kq208, q208a, q208b, q208c⟩ := isOf hZ175 e207 Fq202_0
      obtain ⟨_, _, ⟨T208, L208, k208, n208⟩, -, X208, ⟨Lc208, hQ208, l208, y208, z208⟩, st208⟩ := X207.virtualBack hx (y := (⟨"com/example/offst/offst/group/Member", "assignment", "()[B"⟩ : MethodName)) (z := (⟨"com/example/offst/offst/group/Member", "assignment", "()[B"⟩ : MethodName)) hO175 (mvT hZ175 (hw _ (List.mem_of_getElem? (i := 23) rfl))) (mvT hZ175 (hw _ (List.mem_of_getElem? (i := 24) rfl))) (notFace_of_selects (args := #[]) (mvT hZ175 (hw _ (List.mem_of_getElem? (i := 26) rfl)))) (mvT hZ175 (hw _ (List.mem_of_getElem? (i := 26) rfl))) (mvT hZ175 (hw _ (List.mem_of_getElem? (i := 25) rfl))) (by decide) (backOf (W := 0) (own_assignment l Z a0 hw [] b166 b162 T202.heap n0 Z202 Fq202_1) hZ175 (hw _ (List.mem_of_getElem? (i := 27) rfl)) (hw _ (List.mem_of_getElem? (i := 3) rfl)) (by decide) (by decide)) q208a q208c (g := (mkF m 195 #[.val (.long p0), .second, .val (.int p1), .val (.int p2), .val (.int p3), .val (.int (p1 &&& (7 : Int32))), .val (.int (p2 &&& (7 : Int32))), .val (.int (1 : Int32)), .val (.int (1 : Int32)), .val (.ref b162), .val (.ref b162), .val (.int (p1 &&& (7 : Int32))), .val (.ref b166), .val (.long p0), .second, .val (.int (1 : Int32)), .val (.int (1 : Int32)), .unset] [(.ref b166)])) rfl (by rw [hml]; rfl) (Steps.refl _) (argsL := []) (rest := []) (lenOf own_pd50 rfl) rfl (by show 2 * 0 + _ ≤ _; exact Nat.le_of_eq rfl) (hb hby at_195) (fun _ _ => ⟨rfl, e207, (by decide : 4 + 0 ≤ _), (by decide : 22 + 0 ≤ _)⟩)
      dsimp only [Pt.U, Pt.locs, Pt.cells, Pt.slots] at X208 l208 y208 z208 st208 hQ208
      subst l208 y208 z208
      obtain ⟨rfl, Nq208, eq208⟩ := hQ208
      have N208 := Fr.app N207 Nq208
      have e208 : T208.heap = T202.heap := eq208
      refine own_go (fun t k => st208.trans k) ?_
      show OwnG p.tables e below _ (T208.setTop (mkF m 198 #[.val (.long p0), .second, .val (.int p1), .val (.int p2), .val (.int p3), .val (.int (p1 &&& (7 : Int32))), .val (.int (p2 &&& (7 : Int32))), .val (.int (1 : Int32)), .val (.int (1 : Int32)), .val (.ref b162), .val (.ref b162), .val (.int (p1 &&& (7 : Int32))), .val (.ref b166), .val (.long p0), .second, .val (.int (1 : Int32)), .val (.int (1 : Int32)), .unset] [(.ref b162)]))
      refine own_go (fun t k => XS.aload X208.here hx rfl (hb hby at_198) rfl rfl k) ?_
      show OwnG p.tables e below _ (T208.setTop (mkF m 200 #[.val (.long p0), .second, .val (.int p1), .val (.int p2), .val (.int p3), .val (.int (p1 &&& (7 : Int32))), .val (.int (p2 &&& (7 : Int32))), .val (.int (1 : Int32)), .val (.int (1 : Int32)), .val (.ref b162), .val (.ref b162), .val (.int (p1 &&& (7 : Int32))), .val (.ref b166), .val (.long p0), .second, .val (.int (1 : Int32)), .val (.int (1 : Int32)), .unset] [(.ref b162), (.ref b162)]))
      refine own_go (fun t k => Jvm.RoadKit.acmp (g := (mkF m 200 #[.val (.long p0), .second, .val (.int p1), .val (.int p2), .val (.int p3), .val (.int (p1 &&& (7 : Int32))), .val (.int (p2 &&& (7 : Int32))), .val (.int (1 : Int32)), .val (.int (1 : Int32)), .val (.ref b162), .val (.ref b162), .val (.int (p1 &&& (7 : Int32))), .val (.ref b166), .val (.long p0), .second, .val (.int (1 : Int32)), .val (.int (1 : Int32)), .unset] [(.ref b162), (.ref b162)])) X208 hx rfl rfl rfl (pc0 := 200) (pc' := 203) (same := true) rfl (hb hby at_200) rfl (decide_eq_true rfl) (by decide) (by decide) k) ?_
      show OwnG p.tables e below _ (T208.setTop (mkF m 203 #[.val (.long p0), .second, .val (.int p1), .val (.int p2), .val (.int p3), .val (.int (p1 &&& (7 : Int32))), .val (.int (p2 &&& (7 : Int32))), .val (.int (1 : Int32)), .val (.int (1 : Int32)), .val (.ref b162), .val (.ref b162), .val (.int (p1 &&& (7 : Int32))), .val (.ref b166), .val (.long p0), .second, .val (.int (1 : Int32)), .val (.int (1 : Int32)), .unset] []))
      refine own_go (fun t k => XS.iconst X208.here hx rfl (hb hby at_203) k) ?_
      show OwnG p.tables e below _ (T208.setTop (mkF m 204 #[.val (.long p0), .second, .val (.int p1), .val (.int p2), .val (.int p3), .val (.int (p1 &&& (7 : Int32))), .val (.int (p2 &&& (7 : Int32))), .val (.int (1 : Int32)), .val (.int (1 : Int32)), .val (.ref b162), .val (.ref b162), .val (.int (p1 &&& (7 : Int32))), .val (.ref b166), .val (.long p0), .second, .val (.int (1 : Int32)), .val (.int (1 : Int32)), .unset] [(.int (1 : Int32))]))
      refine own_go (fun t k => XS.goto X208.here hx rfl (pc0 := 204) (pc' := 208) rfl (hb hby at_204) (by decide) (by decide) k) ?_
      show OwnG p.tables e below _ (T208.setTop (mkF m 208 #[.val (.long p0), .second, .val (.int p1), .val (.int p2), .val (.int p3), .val (.int (p1 &&& (7 : Int32))), .val (.int (p2 &&& (7 : Int32))), .val (.int (1 : Int32)), .val (.int (1 : Int32)), .val (.ref b162), .val (.ref b162), .val (.int (p1 &&& (7 : Int32))), .val (.ref b166), .val (.long p0), .second, .val (.int (1 : Int32)), .val (.int (1 : Int32)), .unset] [(.int (1 : Int32))]))
      refine own_go (fun t k => XS.istore X208.here hx rfl (hb hby at_208) rfl (l' := #[.val (.long p0), .second, .val (.int p1), .val (.int p2), .val (.int p3), .val (.int (p1 &&& (7 : Int32))), .val (.int (p2 &&& (7 : Int32))), .val (.int (1 : Int32)), .val (.int (1 : Int32)), .val (.ref b162), .val (.ref b162), .val (.int (p1 &&& (7 : Int32))), .val (.ref b166), .val (.long p0), .second, .val (.int (1 : Int32)), .val (.int (1 : Int32)), .val (.int (1 : Int32))]) rfl k) ?_
      show OwnG p.tables e below _ (T208.setTop (mkF m 210 #[.val (.long p0), .second, .val (.int p1), .val (.int p2), .val (.int p3), .val (.int (p1 &&& (7 : Int32))), .val (.int (p2 &&& (7 : Int32))), .val (.int (1 : Int32)), .val (.int (1 : Int32)), .val (.ref b162), .val (.ref b162), .val (.int (p1 &&& (7 : Int32))), .val (.ref b166), .val (.long p0), .second, .val (.int (1 : Int32)), .val (.int (1 : Int32)), .val (.int (1 : Int32))] []))
      refine own_go (fun t k => XS.iload X208.here hx rfl (hb hby at_210) rfl  k) ?_
      show OwnG p.tables e below _ (T208.setTop (mkF m 212 #[.val (.long p0), .second, .val (.int p1), .val (.int p2), .val (.int p3), .val (.int (p1 &&& (7 : Int32))), .val (.int (p2 &&& (7 : Int32))), .val (.int (1 : Int32)), .val (.int (1 : Int32)), .val (.ref b162), .val (.ref b162), .val (.int (p1 &&& (7 : Int32))), .val (.ref b166), .val (.long p0), .second, .val (.int (1 : Int32)), .val (.int (1 : Int32)), .val (.int (1 : Int32))] [(.int (1 : Int32))]))
      refine own_go (fun t k => XS.ifNo X208.here hx rfl (hb hby at_212) rfl ((if0 _ _).trans (feq (by decide : ¬ ((1 : Int32) = (0 : Int32)))).1) k) ?_
      show OwnG p.tables e below _ (T208.setTop (mkF m 215 #[.val (.long p0), .second, .val (.int p1), .val (.int p2), .val (.int p3), .val (.int (p1 &&& (7 : Int32))), .val (.int (p2 &&& (7 : Int32))), .val (.int (1 : Int32)), .val (.int (1 : Int32)), .val (.ref b162), .val (.ref b162), .val (.int (p1 &&& (7 : Int32))), .val (.ref b166), .val (.long p0), .second, .val (.int (1 : Int32)), .val (.int (1 : Int32)), .val (.int (1 : Int32))] []))
      refine own_go (fun t k => XS.iload X208.here hx rfl (hb hby at_215) rfl  k) ?_
      show OwnG p.tables e below _ (T208.setTop (mkF m 217 #[.val (.long p0), .second, .val (.int p1), .val (.int p2), .val (.int p3), .val (.int (p1 &&& (7 : Int32))), .val (.int (p2 &&& (7 : Int32))), .val (.int (1 : Int32)), .val (.int (1 : Int32)), .val (.ref b162), .val (.ref b162), .val (.int (p1 &&& (7 : Int32))), .val (.ref b166), .val (.long p0), .second, .val (.int (1 : Int32)), .val (.int (1 : Int32)), .val (.int (1 : Int32))] [(.int (1 : Int32))]))
      refine own_go (fun t k => XS.ifNo X208.here hx rfl (hb hby at_217) rfl ((if0 _ _).trans (feq (by decide : ¬ ((1 : Int32) = (0 : Int32)))).1) k) ?_
      show OwnG p.tables e below _ (T208.setTop (mkF m 220 #[.val (.long p0), .second, .val (.int p1), .val (.int p2), .val (.int p3), .val (.int (p1 &&& (7 : Int32))), .val (.int (p2 &&& (7 : Int32))), .val (.int (1 : Int32)), .val (.int (1 : Int32)), .val (.ref b162), .val (.ref b162), .val (.int (p1 &&& (7 : Int32))), .val (.ref b166), .val (.long p0), .second, .val (.int (1 : Int32)), .val (.int (1 : Int32)), .val (.int (1 : Int32))] []))
      refine own_go (fun t k => XS.iload X208.here hx rfl (hb hby at_220) rfl  k) ?_
      show OwnG p.tables e below _ (T208.setTop (mkF m 222 #[.val (.long p0), .second, .val (.int p1), .val (.int p2), .val (.int p3), .val (.int (p1 &&& (7 : Int32))), .val (.int (p2 &&& (7 : Int32))), .val (.int (1 : Int32)), .val (.int (1 : Int32)), .val (.ref b162), .val (.ref b162), .val (.int (p1 &&& (7 : Int32))), .val (.ref b166), .val (.long p0), .second, .val (.int (1 : Int32)), .val (.int (1 : Int32)), .val (.int (1 : Int32))] [(.int (1 : Int32))]))
      refine own_go (fun t k => XS.ifNo X208.here hx rfl (hb hby at_222) rfl ((if0 _ _).trans (feq (by decide : ¬ ((1 : Int32) = (0 : Int32)))).1) k) ?_
      show OwnG p.tables e below _ (T208.setTop (mkF m 225 #[.val (.long p0), .second, .val (.int p1), .val (.int p2), .val (.int p3), .val (.int (p1 &&& (7 : Int32))), .val (.int (p2 &&& (7 : Int32))), .val (.int (1 : Int32)), .val (.int (1 : Int32)), .val (.ref b162), .val (.ref b162), .val (.int (p1 &&& (7 : Int32))), .val (.ref b166), .val (.long p0), .second, .val (.int (1 : Int32)), .val (.int (1 : Int32)), .val (.int (1 : Int32))] []))
      refine own_go (fun t k => XS.iconst X208.here hx rfl (hb hby at_225) k) ?_
      show OwnG p.tables e below _ (T208.setTop (mkF m 226 #[.val (.long p0), .second, .val (.int p1), .val (.int p2), .val (.int p3), .val (.int (p1 &&& (7 : Int32))), .val (.int (p2 &&& (7 : Int32))), .val (.int (1 : Int32)), .val (.int (1 : Int32)), .val (.ref b162), .val (.ref b162), .val (.int (p1 &&& (7 : Int32))), .val (.ref b166), .val (.long p0), .second, .val (.int (1 : Int32)), .val (.int (1 : Int32)), .val (.int (1 : Int32))] [(.int (1 : Int32))]))
      refine own_go (fun t k => XS.goto X208.here hx rfl (pc0 := 226) (pc' := 230) rfl (hb hby at_226) (by decide) (by decide) k) ?_
      show OwnG p.tables e below _ (T208.setTop (mkF m 230 #[.val (.long p0), .second, .val (.int p1), .val (.int p2), .val (.int p3), .val (.int (p1 &&& (7 : Int32))), .val (.int (p2 &&& (7 : Int32))), .val (.int (1 : Int32)), .val (.int (1 : Int32)), .val (.ref b162), .val (.ref b162), .val (.int (p1 &&& (7 : Int32))), .val (.ref b166), .val (.long p0), .second, .val (.int (1 : Int32)), .val (.int (1 : Int32)), .val (.int (1 : Int32))] [(.int (1 : Int32))]))
      obtain ⟨fs, hr, hrun, hended, ⟨-, hW2, hW3, hsame⟩⟩ := Jvm.Stand.leaveW (s := s) (vm₁ := T175.vm) X208 S175 (show _ ≤ T208.heap.size from by rw [e208]; exact hk202) (v := some (.int (1 : Int32))) (fun h => by rw [Bd.returns] at h; cases h)
      refine ⟨_, _, retN X208 hx (t := .boolean) Bd.returns (by simp) (hb hby at_230) hr, hrun, hended, _, _, rfl, ?_, ⟨_, rfl⟩, hW2, hW3, hsame.mono (by decide) (by decide)⟩
      show Q_own_law Z p0 p1 p2 p3 o_NO_ASSIGNMENT kc_o_NO_ASSIGNMENT h0 n0 _ T208.heap _
      rw [e208]
      exact ⟨rfl, N208⟩
set_option maxRecDepth 65536 in
set_option maxHeartbeats 40000000 in
theorem comes_1 {Post : Tables → Env → Array Value → State → Outcome → State → Prop} (hpost : ∀ tb e args s v u, (limb_1_1.after args s (.returned v) u = true ∧ limb_1_2.after args s (.returned v) u = true ∧ True) → ReturnedEndW s (.returned v) u (Jvm.fieldLocs frame_1_writes args s ++ Jvm.arrayLocs frame_1_arrays args s ++ Jvm.staticLocs frame_1_statics s) 16 1152 → Post tb e args s (.returned v) u) :
    ArmFor flags0 classFile x code maxLocals ret World_1 tables_1 room_1 Calls_1 rest_1 Pre_1 Post := by
  intro l hfl _ _ p e ha hc hk s m args below hf hA hF happ hP
  obtain ⟨hcalls, hrest, hpre⟩ := hP
  obtain ⟨-, -, -, hnamed, -, -, -, hat⟩ := (Spec.applies_iff hf).mp happ
  obtain ⟨hg, hn⟩ := and_e (Cond.before_iff.mp (show (Jvm.Cond.and given_1 narrow_1).before args s = true from hpre))
  obtain ⟨hcount, hg⟩ := and_e hg
  obtain ⟨ga0, hg⟩ := and_e hg
  obtain ⟨ga1, hg⟩ := and_e hg
  obtain ⟨ga2, hg⟩ := and_e hg
  have ga3 := hg
  obtain ⟨w0, w1, w2, w3, rfl⟩ : ∃ w0 w1 w2 w3 : Value, args = #[w0, w1, w2, w3] := by
    have hs : args.size = 4 := by simpa [Cond.value, given_1] using hcount
    obtain ⟨L⟩ := args
    match L, hs with
    | [w0, w1, w2, w3], _ => exact ⟨w0, w1, w2, w3, rfl⟩
  have hw := fun d (hd : d ∈ tables_1) => atoms_spec (ws := Jvm.Cond.code x code maxLocals ret :: tables_1) hat d (List.mem_cons_of_mem _ hd)
  have hfit : Fit s := fun {y c} hc i hi => by
    obtain ⟨ha, rfl⟩ := Array.getElem?_eq_some_iff.mp hc
    have q := List.all_eq_true.mp ((Array.all_eq_true_iff_forall_mem.mp hF) _ (Array.getElem_mem ha)) i (List.mem_range.mpr hi)
    simpa [Array.getElem?_eq_getElem hi] using q
  obtain ⟨i0, ei0⟩ := isL_v ga0
  obtain rfl : w0 = (.long i0) := Option.some.inj ei0
  obtain ⟨i1, ei1⟩ := is_v ga1
  obtain rfl : w1 = (.int i1) := Option.some.inj ei1
  obtain ⟨i2, ei2⟩ := is_v ga2
  obtain rfl : w2 = (.int i2) := Option.some.inj ei2
  obtain ⟨i3, ei3⟩ := is_v ga3
  obtain rfl : w3 = (.int i3) := Option.some.inj ei3
  obtain ⟨hn1, hn⟩ := and_e hn
  obtain ⟨o_NO_ASSIGNMENT, ev_o_NO_ASSIGNMENT⟩ := arr_v hn1
  have S_NO_ASSIGNMENT : Sta s s.heap "com/example/offst/offst/group/Member" "NO_ASSIGNMENT" "[B" (.ref o_NO_ASSIGNMENT) := Sta.start ev_o_NO_ASSIGNMENT (Or.inr ⟨(hw _ (List.mem_of_getElem? (i := 3) rfl)), (hw _ (List.mem_of_getElem? (i := 18) rfl))⟩)
  obtain ⟨cl_o_NO_ASSIGNMENT, Ar_o_NO_ASSIGNMENT⟩ := Arr.start ev_o_NO_ASSIGNMENT hn1
  obtain ⟨sm_o_NO_ASSIGNMENT, ln_o_NO_ASSIGNMENT⟩ := own_len ev_o_NO_ASSIGNMENT Ar_o_NO_ASSIGNMENT hn
  obtain ⟨kc_o_NO_ASSIGNMENT, V_o_NO_ASSIGNMENT⟩ : ∃ k, Arv s s.heap o_NO_ASSIGNMENT k .byte (0 : Int32) [] (.int (0 : Int32)) := ⟨_, Arv.start hfit Ar_o_NO_ASSIGNMENT sm_o_NO_ASSIGNMENT ln_o_NO_ASSIGNMENT (by decide) rfl trivial⟩
  obtain ⟨n, o, h1, h2, h3, _, L, rfl, ⟨rfl, N⟩, hq⟩ := own_law l s _ hw tables_1 i0 i1 i2 i3 o_NO_ASSIGNMENT kc_o_NO_ASSIGNMENT s.heap s.heap.size (Nat.le_refl _) (Old.start s) S_NO_ASSIGNMENT V_o_NO_ASSIGNMENT  p e ha hc hk s m _ below hf ((Spec.applies_iff_loose hf).mp happ).1 ⟨rfl, State.Warmed39.refl s, rfl⟩ trivial
  refine ⟨n, _, h1, h2, h3, hpost _ _ _ _ _ _ ⟨Cond.after_iff.mpr rfl, Cond.after_iff.mpr (eq_i res_at (Term.int_eval (1)) rfl), trivial⟩ ⟨hq.1, hq.2.1, hq.2.2.1, (hq.2.2.2.sift fun y hy => Or.inr (N y hy)).mono (by decide) (by decide)⟩⟩
theorem main_1_1 : Claimed_1_1 := comes_1 fun _ _ _ _ _ _ h hF => ⟨h.1, hF⟩
theorem main_1_2 : Claimed_1_2 := comes_1 fun _ _ _ _ _ _ h hF => ⟨h.2.1, hF⟩
end Jvm.Pilot.@@N@@
namespace Jvm.Pilot.@@N@@
open Jvm Jvm.ClassFile Sem Op Lib Jvm.Free Jvm.Stand Jvm.Pilot.@@N@@.Jvm.D
/-! MADE BY PROGRAM (witnessworld.py) out of the Statement's table words and the real class files: 14 classes; the members and pool entries that the words name. The judged class is class 1, her method 1. -/
namespace start1
open Jvm.ClassFile
def u (s : String) : CpInfo := .utf8 (stringToUtf16 s)
/-- a pool by its gaps: so many unusable entries, then the entry; so many at the end -/
def gap : Nat → List CpInfo → List CpInfo
  | 0, r => r
  | n + 1, r => .unusable :: gap n r
def poolList (es : List (Nat × CpInfo)) (last : Nat) : List CpInfo := es.foldr (fun e r => gap e.1 (e.2 :: r)) (gap last [])
def pool (es : List (Nat × CpInfo)) (last : Nat) : Array CpInfo := ⟨poolList es last⟩
def fileOf (pool : Array CpInfo) (this : Nat) (attrs : Array Attribute := #[]) (ms : Array MethodInfo := #[]) (fl : Nat := 33) (sup : Nat := 0) (ifs : Array Nat := #[]) (fds : Array FieldInfo := #[]) : ClassFile where
  minorVersion := 0
  majorVersion := 65
  constantPool := pool
  accessFlags := fl
  thisClass := this
  superClass := sup
  interfaces := ifs
  fields := fds
  methods := ms
  attributes := attrs
def plain (name : String) (sup : Option ClassId) : Class where
  name := name
  kind := .ordinary
  loader := none
  accessFlags := 33
  super := sup
  interfaces := #[]
  cf := none
  fields := #[]
  methods := #[]
  instanceTypes := #[]
  staticTypes := #[]
  resolved := #[]
  callSites := []
  init := .initialized
  statics := none
  mirror := none

def pool0 : Array CpInfo := pool [(5, u "<init>"), (0, u "()V"), (1, .class_ 10), (1, u "java/lang/Object")] 113

def k0c0 : Code := { maxStack := 0, maxLocals := 1, code := object_method_1_code, exceptionTable := #[], attributes := #[] }
def k0m0 : Method := { name := "<init>", desc := "()V", sig := { parameters := [], returnType := none }, accessFlags := 1, code := some k0c0 }
/-- java/lang/Object -/
def k0 : Class := { plain "java/lang/Object" none with
  accessFlags := 33
  interfaces := #[]
  cf := some (fileOf pool0 8 #[] #[{ accessFlags := 1, nameIndex := 5, descriptorIndex := 6, attributes := #[] }] 33 0 #[] #[])
  fields := #[]
  methods := #[k0m0]
  instanceTypes := #[]
  staticTypes := #[]
  resolved := Array.replicate 124 none
  statics := none }

def pool1 : Array CpInfo := pool [(2, .class_ 4), (1, u "java/lang/Object"), (0, u "<init>"), (0, u "()V"), (0, .class_ 8), (0, u "com/example/offst/offst/group/Member"), (0, .string 10), (0, u "m"), (0, .methodref 7 12), (0, .nameAndType 5 13), (0, u "(Ljava/lang/String;)V"), (0, .methodref 7 15), (0, .nameAndType 16 17), (0, u "joinWith"), (0, u "(Lcom/example/offst/offst/protocol/JoinGroupRequest;J)V"), (0, .methodref 7 19), (0, .nameAndType 20 21), (0, u "assignment"), (0, u "()[B"), (0, .methodref 7 23), (0, .nameAndType 24 25), (0, u "heldBytes"), (0, u "()J"), (0, .methodref 7 27), (0, .nameAndType 28 29), (0, u "assign"), (0, u "([B)V"), (0, .class_ 31), (0, u "com/example/offst/offst/group/MemberAssignPinLaw"), (2, u "law"), (0, u "(JIII)Z")] 5

def k1m0 : Method := { name := "<init>", desc := "()V", sig := { parameters := [], returnType := none }, accessFlags := 1, code := none }
def k1c1 : Code := { maxStack := 6, maxLocals := 18, code := code, exceptionTable := #[], attributes := #[] }
def k1m1 : Method := { name := "law", desc := "(JIII)Z", sig := { parameters := [.long, .int, .int, .int], returnType := some .boolean }, accessFlags := 9, code := some k1c1 }
/-- com/example/offst/offst/group/MemberAssignPinLaw -/
def k1 : Class := { plain "com/example/offst/offst/group/MemberAssignPinLaw" (some 0) with
  accessFlags := 49
  interfaces := #[]
  cf := some (fileOf pool1 30 #[] #[{ accessFlags := 1, nameIndex := 5, descriptorIndex := 6, attributes := #[] }, { accessFlags := 9, nameIndex := 34, descriptorIndex := 35, attributes := #[] }] 49 2 #[] #[])
  fields := #[]
  methods := #[k1m0, k1m1]
  instanceTypes := #[]
  staticTypes := #[]
  resolved := Array.replicate 41 none
  statics := none }

def pool2 : Array CpInfo := pool [(1, .methodref 2 3), (0, .class_ 4), (0, .nameAndType 5 6), (0, u "java/lang/Object"), (0, u "<init>"), (0, u "()V"), (0, .fieldref 8 9), (0, .class_ 10), (0, .nameAndType 11 12), (0, u "com/example/offst/offst/group/Member"), (0, u "NO_ASSIGNMENT"), (0, u "[B"), (0, .fieldref 8 14), (0, .nameAndType 15 12), (0, u "assignment"), (0, .fieldref 8 17), (0, .nameAndType 18 19), (0, u "id"), (0, u "Ljava/lang/String;"), (48, u "()[B"), (0, .fieldref 8 70), (0, .nameAndType 71 72), (0, u "joinedWith"), (0, u "Lcom/example/offst/offst/protocol/JoinGroupRequest;"), (0, .fieldref 8 74), (0, .nameAndType 75 76), (0, u "heldBytes"), (0, u "J"), (29, u "(Ljava/lang/String;)V"), (15, u "sessionDeadline"), (2, u "joining"), (0, u "Ljava/util/concurrent/CompletableFuture;"), (2, u "syncing"), (9, u "()J"), (0, u "joinWith"), (0, u "(Lcom/example/offst/offst/protocol/JoinGroupRequest;J)V"), (15, u "assign"), (0, u "([B)V")] 31

def k2c0 : Code := { maxStack := 2, maxLocals := 2, code := prog_26_method_1_code, exceptionTable := #[], attributes := #[] }
def k2m0 : Method := { name := "<init>", desc := "(Ljava/lang/String;)V", sig := { parameters := [(.object "java/lang/String")], returnType := none }, accessFlags := 0, code := some k2c0 }
def k2c1 : Code := { maxStack := 2, maxLocals := 1, code := prog_26_method_5_code, exceptionTable := #[], attributes := #[] }
def k2m1 : Method := { name := "heldBytes", desc := "()J", sig := { parameters := [], returnType := some .long }, accessFlags := 0, code := some k2c1 }
def k2c2 : Code := { maxStack := 3, maxLocals := 4, code := prog_26_method_6_code, exceptionTable := #[], attributes := #[] }
def k2m2 : Method := { name := "joinWith", desc := "(Lcom/example/offst/offst/protocol/JoinGroupRequest;J)V", sig := { parameters := [(.object "com/example/offst/offst/protocol/JoinGroupRequest"), .long], returnType := none }, accessFlags := 0, code := some k2c2 }
def k2c3 : Code := { maxStack := 1, maxLocals := 1, code := prog_26_method_14_code, exceptionTable := #[], attributes := #[] }
def k2m3 : Method := { name := "assignment", desc := "()[B", sig := { parameters := [], returnType := some (.array .byte) }, accessFlags := 0, code := some k2c3 }
def k2c4 : Code := { maxStack := 5, maxLocals := 2, code := prog_26_method_15_code, exceptionTable := #[], attributes := #[] }
def k2m4 : Method := { name := "assign", desc := "([B)V", sig := { parameters := [(.array .byte)], returnType := none }, accessFlags := 0, code := some k2c4 }
/-- com/example/offst/offst/group/Member -/
def k2 : Class := { plain "com/example/offst/offst/group/Member" (some 0) with
  accessFlags := 48
  interfaces := #[]
  cf := some (fileOf pool2 8 #[] #[{ accessFlags := 0, nameIndex := 5, descriptorIndex := 106, attributes := #[] }, { accessFlags := 0, nameIndex := 75, descriptorIndex := 139, attributes := #[] }, { accessFlags := 0, nameIndex := 140, descriptorIndex := 141, attributes := #[] }, { accessFlags := 0, nameIndex := 15, descriptorIndex := 68, attributes := #[] }, { accessFlags := 0, nameIndex := 157, descriptorIndex := 158, attributes := #[] }] 48 2 #[] #[{ accessFlags := 26, nameIndex := 11, descriptorIndex := 12, attributes := #[] }, { accessFlags := 18, nameIndex := 18, descriptorIndex := 19, attributes := #[] }, { accessFlags := 2, nameIndex := 71, descriptorIndex := 72, attributes := #[] }, { accessFlags := 2, nameIndex := 75, descriptorIndex := 76, attributes := #[] }, { accessFlags := 2, nameIndex := 122, descriptorIndex := 76, attributes := #[] }, { accessFlags := 2, nameIndex := 125, descriptorIndex := 126, attributes := #[] }, { accessFlags := 2, nameIndex := 129, descriptorIndex := 126, attributes := #[] }, { accessFlags := 2, nameIndex := 15, descriptorIndex := 12, attributes := #[] }])
  fields := #[{ name := "NO_ASSIGNMENT", type := (.array .byte), accessFlags := 26, slot := 0, constantValue := 0 }, { name := "id", type := (.object "java/lang/String"), accessFlags := 18, slot := 0, constantValue := 0 }, { name := "joinedWith", type := (.object "com/example/offst/offst/protocol/JoinGroupRequest"), accessFlags := 2, slot := 1, constantValue := 0 }, { name := "heldBytes", type := .long, accessFlags := 2, slot := 2, constantValue := 0 }, { name := "sessionDeadline", type := .long, accessFlags := 2, slot := 3, constantValue := 0 }, { name := "joining", type := (.object "java/util/concurrent/CompletableFuture"), accessFlags := 2, slot := 4, constantValue := 0 }, { name := "syncing", type := (.object "java/util/concurrent/CompletableFuture"), accessFlags := 2, slot := 5, constantValue := 0 }, { name := "assignment", type := (.array .byte), accessFlags := 2, slot := 6, constantValue := 0 }]
  methods := #[k2m0, k2m1, k2m2, k2m3, k2m4]
  instanceTypes := #[(.object "java/lang/String"), (.object "com/example/offst/offst/protocol/JoinGroupRequest"), .long, .long, (.object "java/util/concurrent/CompletableFuture"), (.object "java/util/concurrent/CompletableFuture"), (.array .byte)]
  staticTypes := #[(.array .byte)]
  resolved := Array.replicate 190 none
  statics := some 0 }

def pool3 : Array CpInfo := pool [(1, .class_ 2), (0, u "java/io/Serializable"), (0, .class_ 4), (0, u "java/lang/Object")] 2

/-- java/io/Serializable -/
def k3 : Class := { plain "java/io/Serializable" (some 0) with
  accessFlags := 1537
  interfaces := #[]
  cf := some (fileOf pool3 1 #[] #[] 1537 3 #[] #[])
  fields := #[]
  methods := #[]
  instanceTypes := #[]
  staticTypes := #[]
  resolved := Array.replicate 7 none
  statics := none }

def pool4 : Array CpInfo := pool [(1, .class_ 2), (0, u "java/lang/Comparable"), (0, .class_ 4), (0, u "java/lang/Object")] 7

/-- java/lang/Comparable -/
def k4 : Class := { plain "java/lang/Comparable" (some 0) with
  accessFlags := 1537
  interfaces := #[]
  cf := some (fileOf pool4 1 #[] #[] 1537 3 #[] #[])
  fields := #[]
  methods := #[]
  instanceTypes := #[]
  staticTypes := #[]
  resolved := Array.replicate 12 none
  statics := none }

def pool5 : Array CpInfo := pool [(2, .class_ 4), (1, u "java/lang/CharSequence"), (42, .class_ 48), (0, u "java/lang/CharSequence$1CodePointIterator"), (10, .class_ 60), (0, u "java/lang/CharSequence$1CharIterator"), (5, .class_ 67), (0, u "java/lang/Object")] 63

/-- java/lang/CharSequence -/
def k5 : Class := { plain "java/lang/CharSequence" (some 0) with
  accessFlags := 1537
  interfaces := #[]
  cf := some (fileOf pool5 2 #[.nestMembers #[47, 59]] #[] 1537 66 #[] #[])
  fields := #[]
  methods := #[]
  instanceTypes := #[]
  staticTypes := #[]
  resolved := Array.replicate 131 none
  statics := none }

def pool6 : Array CpInfo := pool [(1, .class_ 2), (0, u "java/lang/constant/Constable"), (0, .class_ 4), (0, u "java/lang/Object")] 6

/-- java/lang/constant/Constable -/
def k6 : Class := { plain "java/lang/constant/Constable" (some 0) with
  accessFlags := 1537
  interfaces := #[]
  cf := some (fileOf pool6 1 #[] #[] 1537 3 #[] #[])
  fields := #[]
  methods := #[]
  instanceTypes := #[]
  staticTypes := #[]
  resolved := Array.replicate 11 none
  statics := none }

def pool7 : Array CpInfo := pool [(1, .class_ 2), (0, u "java/lang/constant/ConstantDesc"), (0, .class_ 4), (0, u "java/lang/Object")] 32

/-- java/lang/constant/ConstantDesc -/
def k7 : Class := { plain "java/lang/constant/ConstantDesc" (some 0) with
  accessFlags := 1537
  interfaces := #[]
  cf := some (fileOf pool7 1 #[] #[] 1537 3 #[] #[])
  fields := #[]
  methods := #[]
  instanceTypes := #[]
  staticTypes := #[]
  resolved := Array.replicate 37 none
  statics := none }

def pool8 : Array CpInfo := pool [(2, .class_ 4), (1, u "java/lang/Object"), (0, u "<init>"), (0, u "()V"), (3, .class_ 12), (1, u "java/lang/String"), (0, u "value"), (0, u "[B"), (2, u "coder"), (0, u "B"), (2, u "hash"), (0, u "I"), (2, u "hashIsZero"), (0, u "Z"), (13, u "COMPACT_STRINGS"), (534, .class_ 576), (0, u "java/lang/CharSequence"), (22, u "CASE_INSENSITIVE_ORDER"), (0, u "Ljava/util/Comparator;"), (500, u "serialPersistentFields"), (0, u "[Ljava/io/ObjectStreamField;"), (0, .class_ 1104), (0, u "java/lang/String$CaseInsensitiveComparator"), (1, .class_ 1107), (0, u "java/io/Serializable"), (0, .class_ 1109), (0, u "java/lang/Comparable"), (0, .class_ 1111), (0, u "java/lang/constant/Constable"), (0, .class_ 1113), (0, u "java/lang/constant/ConstantDesc"), (2, u "serialVersionUID"), (0, u "J"), (3, u "REPL"), (0, u "C"), (2, u "LATIN1"), (1, u "UTF16")] 323

def k8m0 : Method := { name := "<init>", desc := "()V", sig := { parameters := [], returnType := none }, accessFlags := 1, code := none }
/-- java/lang/String -/
def k8 : Class := { plain "java/lang/String" (some 0) with
  accessFlags := 49
  interfaces := #[3, 4, 5, 6, 7]
  cf := some (fileOf pool8 10 #[.nestMembers #[1103]] #[{ accessFlags := 1, nameIndex := 5, descriptorIndex := 6, attributes := #[] }] 49 2 #[1106, 1108, 575, 1110, 1112] #[{ accessFlags := 18, nameIndex := 13, descriptorIndex := 14, attributes := #[] }, { accessFlags := 18, nameIndex := 17, descriptorIndex := 18, attributes := #[] }, { accessFlags := 2, nameIndex := 21, descriptorIndex := 22, attributes := #[] }, { accessFlags := 2, nameIndex := 25, descriptorIndex := 26, attributes := #[] }, { accessFlags := 26, nameIndex := 1116, descriptorIndex := 1117, attributes := #[] }, { accessFlags := 24, nameIndex := 40, descriptorIndex := 26, attributes := #[] }, { accessFlags := 26, nameIndex := 1101, descriptorIndex := 1102, attributes := #[] }, { accessFlags := 26, nameIndex := 1121, descriptorIndex := 1122, attributes := #[] }, { accessFlags := 25, nameIndex := 599, descriptorIndex := 600, attributes := #[] }, { accessFlags := 24, nameIndex := 1125, descriptorIndex := 18, attributes := #[] }, { accessFlags := 24, nameIndex := 1127, descriptorIndex := 18, attributes := #[] }])
  fields := #[{ name := "value", type := (.array .byte), accessFlags := 18, slot := 0, constantValue := 0 }, { name := "coder", type := .byte, accessFlags := 18, slot := 1, constantValue := 0 }, { name := "hash", type := .int, accessFlags := 2, slot := 2, constantValue := 0 }, { name := "hashIsZero", type := .boolean, accessFlags := 2, slot := 3, constantValue := 0 }, { name := "serialVersionUID", type := .long, accessFlags := 26, slot := 0, constantValue := 0 }, { name := "COMPACT_STRINGS", type := .boolean, accessFlags := 24, slot := 1, constantValue := 0 }, { name := "serialPersistentFields", type := (.array (.object "java/io/ObjectStreamField")), accessFlags := 26, slot := 2, constantValue := 0 }, { name := "REPL", type := .char, accessFlags := 26, slot := 3, constantValue := 0 }, { name := "CASE_INSENSITIVE_ORDER", type := (.object "java/util/Comparator"), accessFlags := 25, slot := 4, constantValue := 0 }, { name := "LATIN1", type := .byte, accessFlags := 24, slot := 5, constantValue := 0 }, { name := "UTF16", type := .byte, accessFlags := 24, slot := 6, constantValue := 0 }]
  methods := #[k8m0]
  instanceTypes := #[(.array .byte), .byte, .int, .boolean]
  staticTypes := #[.long, .boolean, (.array (.object "java/io/ObjectStreamField")), .char, (.object "java/util/Comparator"), .byte, .byte]
  resolved := Array.replicate 1451 none
  statics := none }

def pool9 : Array CpInfo := pool [(1, u "java/lang/Cloneable"), (0, .class_ 1), (0, u "java/lang/Object"), (0, .class_ 3)] 3

/-- java/lang/Cloneable -/
def k9 : Class := { plain "java/lang/Cloneable" (some 0) with
  accessFlags := 1537
  interfaces := #[]
  cf := some (fileOf pool9 2 #[] #[] 1537 4 #[] #[])
  fields := #[]
  methods := #[]
  instanceTypes := #[]
  staticTypes := #[]
  resolved := Array.replicate 8 none
  statics := none }

/-- the primitive byte -/
def k10 : Class := { plain "byte" none with kind := .primitive 'B', accessFlags := 0x411 }
/-- [B -/
def k11 : Class := { plain "[B" (some 0) with kind := .array 10 .byte, interfaces := #[9, 3], accessFlags := 1041 }

/-- the primitive int -/
def k12 : Class := { plain "int" none with kind := .primitive 'I', accessFlags := 0x411 }
/-- [I -/
def k13 : Class := { plain "[I" (some 0) with kind := .array 12 .int, interfaces := #[9, 3], accessFlags := 1041 }

def heap : Heap := #[{ cls := 2, slots := #[.ref 1], vm := .statics 2 },
  { cls := 11, slots := #[], vm := .none }]
def classes : Array Class := #[k0, k1, k2, k3, k4, k5, k6, k7, k8, k9, k10, k11, k12, k13]
def interned : List (Array UInt16 × Addr) := []
def slotsUsed : Nat := 1
def theMethod : MethodId := ⟨1, 1⟩
def args0 : Array Value := #[.long 10, .int 3, .int 4, .int 3]
def aboutOver (below : List Frame) : State where
  vm := { classes := classes, interned := interned.toArray }
  heap := heap
  slotsUsed := slotsUsed
  threads := #[{ frames := .invoking theMethod args0 :: below }]
def below0 : List Frame := [.native { method := ⟨0, 0⟩, args := #[] }]
def about1 : State := aboutOver below0
def p0 : Program := .bare "" "" ""
def e0 : Env := launch0.env 0 0 0
theorem w_frames : about1.frames = Frame.invoking theMethod args0 :: below0 := rfl
set_option maxRecDepth 65536 in
theorem w_args : argsFit about1.vm theMethod args0 = true := by decide +kernel
set_option maxRecDepth 65536 in
theorem w_heap : heapFits about1 = true := by decide +kernel
set_option maxRecDepth 65536 in
theorem w_runnable : about1.curStatus? = some .runnable := by decide +kernel
set_option maxRecDepth 65536 in
theorem w_alone : about1.alone = true := by decide +kernel
set_option maxRecDepth 65536 in
theorem w_named : about1.methodNamed? x = some theMethod := by decide +kernel
set_option maxRecDepth 65536 in
theorem w_hears : about1.hears theMethod below0 = true := by decide +kernel
set_option maxRecDepth 65536 in
theorem w_ripe : about1.ripe theMethod args0 below0 = true := by decide +kernel
theorem w_running : about1.status = .running := rfl
set_option maxRecDepth 65536 in
theorem w_room : about1.hasRoom e0.platform room_1 = true :=
  launch0.hasRoom_least _ room_1 (by decide +kernel) (by decide +kernel) (by decide +kernel) (by decide +kernel) (by decide +kernel) (by decide +kernel)
theorem allAtoms_all (ts : List Jvm.Cond) (a : Array Jvm.Value) (st : Jvm.State) : (allAtoms ts).before a st = ts.all (fun c => c.before a st) := by
  induction ts with
  | nil => rfl
  | cons c t ih =>
    show (Jvm.Cond.and c (allAtoms t)).before a st = _
    rw [Jvm.Cond.before_and, ih, List.all_cons]
def words1 : List Jvm.Cond := Jvm.Cond.code x code maxLocals ret :: tables_1
/-- a 'code' word, met by the world's own term for the bytes: nothing is compared byte by byte -/
theorem code_word {y : MethodName} {bytes : ByteArray} {mx : Nat} {rt : Option FieldType} {a : Array Value} {s : State} {m : MethodId} {meth : Method} {c : Code} (h1 : s.methodNamed? y = some m) (h2 : s.vm.method? m = some meth) (h3 : meth.code = some c) (h4 : c.code = bytes)
    (h5 : (c.maxLocals == mx && c.exceptionTable.isEmpty && decide (c.maxStack ≤ mostOperands) && decide (meth.sig.returnType = rt) && !meth.locks && decide (parseMethodDescriptor y.desc = some meth.sig)) = true) : (Jvm.Cond.code y bytes mx rt).before a s = true := by
  simp only [Bool.and_eq_true, beq_iff_eq, Bool.not_eq_true', decide_eq_true_eq] at h5
  obtain ⟨⟨⟨⟨⟨g1, g2⟩, g3⟩, g4⟩, g5⟩, g6⟩ := h5
  simp [Cond.before, Cond.holds, Cond.value, h1, h2, h3, h4, g1, g2, g3, g4, g5, g6]
def isCode : Jvm.Cond → Bool
  | .code _ _ _ _ => true
  | _ => false
theorem all_split {L : List Jvm.Cond} {P : Jvm.Cond → Bool} (h1 : L.all (fun c => isCode c || P c) = true) (h2 : ∀ c ∈ L.filter isCode, P c = true) : L.all P = true := by
  refine List.all_eq_true.mpr fun c hc => ?_
  have h := List.all_eq_true.mp h1 c hc
  rcases Bool.eq_false_or_eq_true (isCode c) with hi | hi
  · exact h2 c (List.mem_filter.mpr ⟨hc, hi⟩)
  · simpa [hi] using h
set_option maxRecDepth 65536 in
theorem w_c0 : (Jvm.Cond.code x code maxLocals ret).before args0 about1 = true := code_word (m := ⟨1, 1⟩) (meth := k1m1) (c := k1c1) (by decide +kernel) rfl rfl rfl (by decide +kernel)
set_option maxRecDepth 65536 in
theorem w_c1 : (Jvm.Cond.code ({ cls := "com/example/offst/offst/group/Member", name := "<init>", desc := "(Ljava/lang/String;)V" } : Jvm.MethodName) prog_26_method_1_code (2 : Nat) (Option.none : Option Jvm.ClassFile.FieldType)).before args0 about1 = true := code_word (m := ⟨2, 0⟩) (meth := k2m0) (c := k2c0) (by decide +kernel) rfl rfl rfl (by decide +kernel)
set_option maxRecDepth 65536 in
theorem w_c2 : (Jvm.Cond.code ({ cls := "java/lang/Object", name := "<init>", desc := "()V" } : Jvm.MethodName) object_method_1_code (1 : Nat) (Option.none : Option Jvm.ClassFile.FieldType)).before args0 about1 = true := code_word (m := ⟨0, 0⟩) (meth := k0m0) (c := k0c0) (by decide +kernel) rfl rfl rfl (by decide +kernel)
set_option maxRecDepth 65536 in
theorem w_c3 : (Jvm.Cond.code ({ cls := "com/example/offst/offst/group/Member", name := "assignment", desc := "()[B" } : Jvm.MethodName) prog_26_method_14_code (1 : Nat) (Option.some (Jvm.ClassFile.FieldType.array Jvm.ClassFile.FieldType.byte))).before args0 about1 = true := code_word (m := ⟨2, 3⟩) (meth := k2m3) (c := k2c3) (by decide +kernel) rfl rfl rfl (by decide +kernel)
set_option maxRecDepth 65536 in
theorem w_c4 : (Jvm.Cond.code ({ cls := "com/example/offst/offst/group/Member", name := "heldBytes", desc := "()J" } : Jvm.MethodName) prog_26_method_5_code (1 : Nat) (Option.some Jvm.ClassFile.FieldType.long)).before args0 about1 = true := code_word (m := ⟨2, 1⟩) (meth := k2m1) (c := k2c1) (by decide +kernel) rfl rfl rfl (by decide +kernel)
set_option maxRecDepth 65536 in
theorem w_c5 : (Jvm.Cond.code ({ cls := "com/example/offst/offst/group/Member", name := "assign", desc := "([B)V" } : Jvm.MethodName) prog_26_method_15_code (2 : Nat) (Option.none : Option Jvm.ClassFile.FieldType)).before args0 about1 = true := code_word (m := ⟨2, 4⟩) (meth := k2m4) (c := k2c4) (by decide +kernel) rfl rfl rfl (by decide +kernel)
set_option maxRecDepth 65536 in
theorem w_c6 : (Jvm.Cond.code ({ cls := "com/example/offst/offst/group/Member", name := "joinWith", desc := "(Lcom/example/offst/offst/protocol/JoinGroupRequest;J)V" } : Jvm.MethodName) prog_26_method_6_code (4 : Nat) (Option.none : Option Jvm.ClassFile.FieldType)).before args0 about1 = true := code_word (m := ⟨2, 2⟩) (meth := k2m2) (c := k2c2) (by decide +kernel) rfl rfl rfl (by decide +kernel)
def codes1 : List Jvm.Cond := [Jvm.Cond.code x code maxLocals ret, Jvm.Cond.code ({ cls := "com/example/offst/offst/group/Member", name := "<init>", desc := "(Ljava/lang/String;)V" } : Jvm.MethodName) prog_26_method_1_code (2 : Nat) (Option.none : Option Jvm.ClassFile.FieldType), Jvm.Cond.code ({ cls := "java/lang/Object", name := "<init>", desc := "()V" } : Jvm.MethodName) object_method_1_code (1 : Nat) (Option.none : Option Jvm.ClassFile.FieldType), Jvm.Cond.code ({ cls := "com/example/offst/offst/group/Member", name := "assignment", desc := "()[B" } : Jvm.MethodName) prog_26_method_14_code (1 : Nat) (Option.some (Jvm.ClassFile.FieldType.array Jvm.ClassFile.FieldType.byte)), Jvm.Cond.code ({ cls := "com/example/offst/offst/group/Member", name := "heldBytes", desc := "()J" } : Jvm.MethodName) prog_26_method_5_code (1 : Nat) (Option.some Jvm.ClassFile.FieldType.long), Jvm.Cond.code ({ cls := "com/example/offst/offst/group/Member", name := "assign", desc := "([B)V" } : Jvm.MethodName) prog_26_method_15_code (2 : Nat) (Option.none : Option Jvm.ClassFile.FieldType), Jvm.Cond.code ({ cls := "com/example/offst/offst/group/Member", name := "joinWith", desc := "(Lcom/example/offst/offst/protocol/JoinGroupRequest;J)V" } : Jvm.MethodName) prog_26_method_6_code (4 : Nat) (Option.none : Option Jvm.ClassFile.FieldType)]
set_option maxRecDepth 65536 in
theorem codes_eq : words1.filter isCode = codes1 := rfl
theorem w_codes : ∀ c ∈ words1.filter isCode, c.before args0 about1 = true := by
  rw [codes_eq]
  intro c hc
  simp only [codes1, List.mem_cons, List.not_mem_nil, or_false] at hc
  rcases hc with rfl | rfl | rfl | rfl | rfl | rfl | rfl
  · exact w_c0
  · exact w_c1
  · exact w_c2
  · exact w_c3
  · exact w_c4
  · exact w_c5
  · exact w_c6
set_option maxRecDepth 65536 in
theorem w_t1 : (words1.take 24).all (fun c => isCode c || c.before args0 about1) = true := by decide +kernel
set_option maxRecDepth 65536 in
theorem w_t2 : (words1.drop 24).all (fun c => isCode c || c.before args0 about1) = true := by decide +kernel
theorem w_tables : (allAtoms (Jvm.Cond.code x code maxLocals ret :: tables_1)).before args0 about1 = true := by
  rw [allAtoms_all]
  show words1.all (fun c => c.before args0 about1) = true
  refine all_split ?_ w_codes
  rw [← List.take_append_drop 24 words1, List.all_append, w_t1, w_t2]
  rfl
set_option maxRecDepth 65536 in
theorem w_case : (Jvm.Cond.and given_1 narrow_1).before args0 about1 = true := by decide +kernel
theorem w_applies : (headSpec (Jvm.Cond.code x code maxLocals ret :: tables_1) room_1).applies x e0.platform about1 = true :=
  (Spec.applies_iff w_frames).mpr ⟨w_running, w_runnable, w_alone, w_named, w_hears, w_ripe, w_room, w_tables⟩
theorem atStart : AtStart classFile x code maxLocals ret World_1 tables_1 room_1 Calls_1 rest_1 Pre_1 launch0 p0 e0 about1 theMethod args0 below0 :=
  ⟨lists_1, trivial, launch0.admits_env _ _ _, launch0.least_env, fairChoices_fair.cas, fairChoices_fair.clock, w_frames, w_args, w_heap, w_applies, trivial, trivial, w_case⟩
end start1
theorem witness_1 : WitnessClaimed_1 := ⟨start1.p0, start1.e0, start1.about1, start1.theMethod, start1.args0, start1.below0, start1.atStart⟩
end Jvm.Pilot.@@N@@
