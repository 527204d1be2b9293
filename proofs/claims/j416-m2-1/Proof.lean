import JvmDerived
import JvmDerived.Pilot.@@N@@Statement
import JvmDerived.Pilot.@@N@@Code
set_option linter.unusedVariables false
set_option linter.unusedSimpArgs false
namespace Jvm.RoadKit
open Sem ClassFile Op Lib Jvm.Stand Jvm.Free Jvm.LawKit
section New
variable {p : Program} {l : Launch} {e : Env} {R : Room} {s : State} {m : MethodId} {args : Array Value} {below : List Frame} {meth : Method} {c : Code} {T : State} {locs : List Loc} {cells slots : Nat}
theorem retI (X : Stand p l e R s m args below meth c T locs cells slots) (hx : p.tables.exec = Jvm.exec) {pc : Nat} {Ls : Array Slot} {z : Int32} {rest : List Value} (hret : meth.sig.returnType = some .int) (hd : decode c.code pc = .ok (.ireturn, 1)) {fs : List Frame}
    (hl : ∀ (f : JFrame) (acts : List Action), f.method = m → f.locked = none → f.entered = [] → (doReturn e (T.setTop f) acts (some (.int z))).1 = T.setFrames fs) : Steps p.tables e below (T.setTop (mkF m pc Ls (.int z :: rest))) (T.setFrames fs) := by
  have hm' : T.vm.method? m = some meth := X.method'
  have hn : narrow .int (.int z) = .int z := rfl
  show Steps p.tables e below (T.setTop { method := m, pc := pc, locals := Ls, stack := _ :: rest, locked := none }) _
  jvm_step X.here [X.here.top, hx, hd, hm', hret, hn]
  first | (intro acts; rw [hl _ acts rfl rfl rfl]) | rw [hl _ _ rfl rfl rfl]
  exact Steps.refl _
end New
end Jvm.RoadKit
namespace Jvm.Pilot.@@N@@
open Jvm Jvm.ClassFile Sem Op Lib Jvm.Free Jvm.Stand Jvm.LawKit Jvm.RoadKit Bundle Jvm.Pilot.@@N@@.Jvm.D
abbrev OwnG (tb : Tables) (e : Env) (below : List Frame) (R : State → Outcome → Prop) (cur : State) : Prop := ∃ s₂ o, Steps tb e below cur s₂ ∧ R s₂ o
theorem own_go {tb : Tables} {e : Env} {below : List Frame} {R : State → Outcome → Prop} {cur nxt : State} (h : ∀ t, Steps tb e below nxt t → Steps tb e below cur t) (k : OwnG tb e below R nxt) : OwnG tb e below R cur := by
  obtain ⟨s₂, o, h1, h2⟩ := k
  exact ⟨s₂, o, h _ h1, h2⟩
theorem own_pick {α : Type} (c : Prop) (a b : α) : ∃ z : α, (c → z = a) ∧ (¬ c → z = b) := by
  by_cases h : c
  · exact ⟨a, fun _ => rfl, fun q => absurd h q⟩
  · exact ⟨b, fun q => absurd q h, fun _ => rfl⟩
theorem own_ne_or {a d x n : Nat} (h : x = d ∨ n ≤ x) (h1 : a ≠ d) (h2 : a < n) : a ≠ x := by
  rcases h with h | h <;> omega
theorem own_ge_or {d x n k : Nat} (h : x = d ∨ n ≤ x) (h1 : k ≤ d) (h2 : k ≤ n) : k ≤ x := by
  rcases h with h | h <;> omega
theorem own_in_or {d x n k : Nat} {ws : List Nat} (h : x = d ∨ n ≤ x) (h1 : d ∈ ws) (h2 : k ≤ n) : x ∈ ws ∨ k ≤ x := by
  rcases h with rfl | h
  · exact Or.inl h1
  · exact Or.inr (Nat.le_trans h2 h)
theorem own_iw_or {d x n k : Nat} {ws : List Nat} (h : x = d ∨ n ≤ x) (h1 : d ∈ ws ∨ k ≤ d) (h2 : k ≤ n) : x ∈ ws ∨ k ≤ x := by
  rcases h with rfl | h
  · exact h1
  · exact Or.inr (Nat.le_trans h2 h)
section OwnStat
variable {args : Array Value} {s : State} {t u w : Term} {a b : Addr} {cl : Cell} {ty : FieldType}
theorem own_eqI {v : Int32} (h : (Cond.eq t (.int v)).value args s none s [] = some true) : t.eval args s none [] s = some (.int v) := by
  cases hx : t.eval args s none [] s with
  | none => simp [Cond.value, Term.eval, hx] at h
  | some y => cases y <;> simp [Cond.value, Term.eval, hx] at h; rw [h]
theorem own_eqJ {v : Int64} (h : (Cond.eq t (.long v)).value args s none s [] = some true) : t.eval args s none [] s = some (.long v) := by
  cases hx : t.eval args s none [] s with
  | none => simp [Cond.value, Term.eval, hx] at h
  | some y => cases y <;> simp [Cond.value, Term.eval, hx] at h; rw [h]
theorem own_eqR (h : (Cond.eq t u).value args s none s [] = some true) (hu : u.eval args s none [] s = some (.ref b)) : t.eval args s none [] s = some (.ref b) := by
  cases hx : t.eval args s none [] s with
  | none => simp [Cond.value, hu, hx] at h
  | some y => cases y <;> simp [Cond.value, hu, hx] at h; rw [h]
theorem own_neI {i v : Int32} (h : (Cond.not (.eq t (.int v))).value args s none s [] = some true) (ev : t.eval args s none [] s = some (.int i)) : i ≠ v := by
  intro e
  subst e
  simp [Cond.value, ev, Term.eval] at h
theorem own_len {n : Int32} (ev : t.eval args s none [] s = some (.ref a)) (A : Arr s s.heap a cl ty) (h : (Cond.eq (.length t) (.int n)).value args s none s [] = some true) : cl.slots.size < 2 ^ 31 ∧ cl.slots.size.toInt32 = n := by
  have e := own_eqI h
  have hA : s.arrayAt? a = some cl := A.fin (Vm.Alike.refl _)
  by_cases q : cl.slots.size < 2 ^ 31
  · rw [len_f ev hA q] at e
    exact ⟨q, by cases e; rfl⟩
  · simp [Term.eval, ev, hA, q] at e
theorem own_elem {j : Int32} {v : Value} (hj : ¬ j < 0) (ev : t.eval args s none [] s = some (.ref a)) (A : Arr s s.heap a cl ty) (h : (Term.elem t (.int j)).eval args s none [] s = some v) : cl.slots[j.toNatClampNeg]? = some v := by
  rw [elem_f (a := .int j) ev rfl (A.fin (Vm.Alike.refl _)) hj] at h; exact h
theorem own_fld {C n d : String} {v : Value} (ev : t.eval args s none [] s = some (.ref a)) (h : (Term.field t C n d).eval args s none [] s = some v) : Fld s s.heap a C n d v :=
  Fld.start (by rw [← fld_at ev]; exact h)
end OwnStat

def own_val (c : Int32) (a b d : Addr) : Value := if c = (44 : Int32) then .ref a else if c = (124 : Int32) then .ref b else if c = (38 : Int32) then .ref d else .null
theorem own_val_or (c : Int32) (a b d : Addr) : own_val c a b d = .ref a ∨ own_val c a b d = .ref b ∨ own_val c a b d = .ref d ∨ own_val c a b d = .null := by
  unfold own_val; repeat' split
  all_goals simp
theorem own_ef0 (m : MethodId) (p1 : Int32) : entryFrame m #[(.int p1)] 5 = mkF m 0 #[.val (.int p1), .unset, .unset, .unset, .unset] [] := by first | (simp [entryFrame, mkF, argsToLocals, Value.category]; done) | rfl
theorem own_pn1 : plainName "com/example/vigilant_grammar/vigilantgrammar/ModelGroup$Connector" = true := by first | (simp [plainName, overriddenIn]; done) | decide +kernel
theorem own_d2 : decode prog_98_method_4_code 0 = .ok (.getstatic 46, 3) := by decide +kernel
theorem own_d3 : decode prog_98_method_4_code 3 = .ok (.astore_n 1, 1) := by decide +kernel
theorem own_d4 : decode prog_98_method_4_code 4 = .ok (.aload_n 1, 1) := by decide +kernel
theorem own_d5 : decode prog_98_method_4_code 5 = .ok (.arraylength, 1) := by decide +kernel
theorem own_d6 : decode prog_98_method_4_code 6 = .ok (.istore_n 2, 1) := by decide +kernel
theorem own_d7 : decode prog_98_method_4_code 7 = .ok (.iconst 0, 1) := by decide +kernel
theorem own_d8 : decode prog_98_method_4_code 8 = .ok (.istore_n 3, 1) := by decide +kernel
theorem own_d9 : decode prog_98_method_4_code 9 = .ok (.iload_n 3, 1) := by decide +kernel
theorem own_d10 : decode prog_98_method_4_code 10 = .ok (.iload_n 2, 1) := by decide +kernel
theorem own_d11 : decode prog_98_method_4_code 11 = .ok (.if_icmp .ge 26, 3) := by decide +kernel
theorem own_d12 : decode prog_98_method_4_code 14 = .ok (.aload_n 1, 1) := by decide +kernel
theorem own_d13 : decode prog_98_method_4_code 15 = .ok (.iload_n 3, 1) := by decide +kernel
theorem own_d14 : decode prog_98_method_4_code 16 = .ok (.aaload, 1) := by decide +kernel
theorem own_d15 : decode prog_98_method_4_code 17 = .ok (.astore 4, 2) := by decide +kernel
theorem own_d16 : decode prog_98_method_4_code 19 = .ok (.aload 4, 2) := by decide +kernel
theorem own_d17 : decode prog_98_method_4_code 21 = .ok (.getfield 42, 3) := by decide +kernel
theorem own_d18 : decode prog_98_method_4_code 24 = .ok (.iload_n 0, 1) := by decide +kernel
theorem own_d19 : decode prog_98_method_4_code 25 = .ok (.if_icmp .ne 6, 3) := by decide +kernel
theorem own_d20 : decode prog_98_method_4_code 28 = .ok (.aload 4, 2) := by decide +kernel
theorem own_d21 : decode prog_98_method_4_code 30 = .ok (.areturn, 1) := by decide +kernel
theorem own_d22 : decode prog_98_method_4_code 31 = .ok (.iinc 3 1, 3) := by decide +kernel
theorem own_d23 : decode prog_98_method_4_code 34 = .ok (.goto (-25), 3) := by decide +kernel
theorem own_d24 : decode prog_98_method_4_code 37 = .ok (.aconst_null, 1) := by decide +kernel
theorem own_d25 : decode prog_98_method_4_code 38 = .ok (.areturn, 1) := by decide +kernel
def Q_own_written (Z : State) (p1 : Int32) (o_CONNECTORS : Addr) (o_SEQ : Addr) (o_OR : Addr) (o_AND : Addr) (kc_o_CONNECTORS : ClassId) (h0 : Heap) (n0 : Nat) (v : Option Value) (h : Heap) (L : List Loc) : Prop := v = some (own_val p1 o_SEQ o_OR o_AND) ∧ Fr n0 L ∧ h = h0
set_option maxRecDepth 65536 in
set_option maxHeartbeats 40000000 in
theorem own_written (l : Launch) (Z : State) (a0 : Array Value) (hw : ∀ d ∈ tables_1, d.before a0 Z = true) (ws : List Jvm.Cond) (p1 : Int32) (o_CONNECTORS : Addr) (o_SEQ : Addr) (o_OR : Addr) (o_AND : Addr) (kc_o_CONNECTORS : ClassId) (h0 : Heap) (n0 : Nat) (Z0 : n0 ≤ h0.size) (O0 : Old Z n0 h0) (S_CONNECTORS : Sta Z Z.heap "com/example/vigilant_grammar/vigilantgrammar/ModelGroup$Connector" "CONNECTORS" "[Lcom/example/vigilant_grammar/vigilantgrammar/ModelGroup$Connector;" (.ref o_CONNECTORS)) (S_SEQ : Sta Z Z.heap "com/example/vigilant_grammar/vigilantgrammar/ModelGroup$Connector" "SEQ" "Lcom/example/vigilant_grammar/vigilantgrammar/ModelGroup$Connector;" (.ref o_SEQ)) (E_o_SEQ : Exa Z Z.heap o_SEQ "com/example/vigilant_grammar/vigilantgrammar/ModelGroup$Connector") (F_o_SEQ_mark : Fld Z Z.heap o_SEQ "com/example/vigilant_grammar/vigilantgrammar/ModelGroup$Connector" "mark" "C" (.int (44 : Int32))) (S_OR : Sta Z Z.heap "com/example/vigilant_grammar/vigilantgrammar/ModelGroup$Connector" "OR" "Lcom/example/vigilant_grammar/vigilantgrammar/ModelGroup$Connector;" (.ref o_OR)) (E_o_OR : Exa Z Z.heap o_OR "com/example/vigilant_grammar/vigilantgrammar/ModelGroup$Connector") (F_o_OR_mark : Fld Z Z.heap o_OR "com/example/vigilant_grammar/vigilantgrammar/ModelGroup$Connector" "mark" "C" (.int (124 : Int32))) (S_AND : Sta Z Z.heap "com/example/vigilant_grammar/vigilantgrammar/ModelGroup$Connector" "AND" "Lcom/example/vigilant_grammar/vigilantgrammar/ModelGroup$Connector;" (.ref o_AND)) (E_o_AND : Exa Z Z.heap o_AND "com/example/vigilant_grammar/vigilantgrammar/ModelGroup$Connector") (F_o_AND_mark : Fld Z Z.heap o_AND "com/example/vigilant_grammar/vigilantgrammar/ModelGroup$Connector" "mark" "C" (.int (38 : Int32))) (V_o_CONNECTORS : Arv Z Z.heap o_CONNECTORS kc_o_CONNECTORS (.object "com/example/vigilant_grammar/vigilantgrammar/ModelGroup$Connector") (3 : Int32) [(.ref o_SEQ), (.ref o_OR), (.ref o_AND)] .null) :
    MetFree l (⟨"com/example/vigilant_grammar/vigilantgrammar/ModelGroup$Connector", "writtenAs", "(I)Lcom/example/vigilant_grammar/vigilantgrammar/ModelGroup$Connector;"⟩ : MethodName) (head1 (Jvm.Cond.code (⟨"com/example/vigilant_grammar/vigilantgrammar/ModelGroup$Connector", "writtenAs", "(I)Lcom/example/vigilant_grammar/vigilantgrammar/ModelGroup$Connector;"⟩ : MethodName) prog_98_method_4_code 5 (some (.object "com/example/vigilant_grammar/vigilantgrammar/ModelGroup$Connector")) :: ws) ({ frames := 0, cells := 0, slots := 0, locals := 0 } : Room)) (fun a U => a = #[(.int p1)] ∧ Z.Warmed39 U.vm ∧ U.heap = h0) (fun _ _ _ _ _ => True) (fun _ U o U' => ∃ v L, o = .returned v ∧ Q_own_written Z p1 o_CONNECTORS o_SEQ o_OR o_AND kc_o_CONNECTORS h0 n0 v U'.heap L ∧ FrameEnd U o U' L ({ frames := 0, cells := 0, slots := 0, locals := 0 } : Room).cells ({ frames := 0, cells := 0, slots := 0, locals := 0 } : Room).slots) := by
  refine MetFree.of_bodySF (plainFor_of_name own_pn1) hisR ?_
  intro p e s m args below meth c s₁ Bd hml0 hP hK
  obtain ⟨rfl, hZ, hh⟩ := hP
  have hx := Bd.exec
  have hby := Bd.bytes
  have hml : c.maxLocals = 5 := hml0
  have hown : s.vm.findClass "com/example/vigilant_grammar/vigilantgrammar/ModelGroup$Connector" = some m.cls := findClass_of_methodNamed Bd.named
  have hnm := (name_of_methodNamed Bd.named Bd.method).1
  have X0 : Stand p l e ({ frames := 0, cells := 0, slots := 0, locals := 0 } : Room) s m #[(.int p1)] below meth c s₁ [] 0 0 := Stand.of_body Bd
  have e0 : s₁.heap = h0 := by rw [← hh, Bd.state]; rfl
  have N0 := Fr.nil n0
  have K0 := Keep.refl h0 []
  refine own_go (fun t k => castTop (own_ef0 m p1) k) ?_
  show OwnG p.tables e below _ (s₁.setTop (mkF m 0 #[.val (.int p1), .unset, .unset, .unset, .unset] []))
  obtain ⟨T1, X1, e1, st1⟩ := getS2 X0 hx hZ hown (host := "") (Or.inl (hw _ (List.mem_of_getElem? (i := 4) rfl))) Via.refl e0 (S_CONNECTORS.ext O0.2) (g := (mkF m 0 #[.val (.int p1), .unset, .unset, .unset, .unset] [])) rfl (hb hby own_d2)
  refine own_go (fun t k => st1 t k) ?_
  show OwnG p.tables e below _ (T1.setTop (mkF m 3 #[.val (.int p1), .unset, .unset, .unset, .unset] [(.ref o_CONNECTORS)]))
  refine own_go (fun t k => XS.astoreN X1.here hx rfl (hb hby own_d3) rfl rfl (l' := #[.val (.int p1), .val (.ref o_CONNECTORS), .unset, .unset, .unset]) rfl k) ?_
  show OwnG p.tables e below _ (T1.setTop (mkF m 4 #[.val (.int p1), .val (.ref o_CONNECTORS), .unset, .unset, .unset] []))
  refine own_go (fun t k => XS.aloadN X1.here hx rfl (hb hby own_d4) rfl rfl k) ?_
  show OwnG p.tables e below _ (T1.setTop (mkF m 5 #[.val (.int p1), .val (.ref o_CONNECTORS), .unset, .unset, .unset] [(.ref o_CONNECTORS)]))
  obtain ⟨cl2, Ar2, qk2, Sz2, Nn2, Hs2, Gs2⟩ := (V_o_CONNECTORS.ext O0.2)
  have st2 : ∀ t, Steps p.tables e below (T1.setTop (mkF m 6 #[.val (.int p1), .val (.ref o_CONNECTORS), .unset, .unset, .unset] [(.int (3 : Int32))])) t → Steps p.tables e below (T1.setTop (mkF m 5 #[.val (.int p1), .val (.ref o_CONNECTORS), .unset, .unset, .unset] [(.ref o_CONNECTORS)])) t := fun t k => by
    refine X1.arraylength hx (by rw [e1]; exact Ar2.1) (State.isArrayOf_alike hZ.alike Ar2.2.1) (g := (mkF m 5 #[.val (.int p1), .val (.ref o_CONNECTORS), .unset, .unset, .unset] [(.ref o_CONNECTORS)])) rfl rfl (hb hby own_d5) _ ?_
    rw [len_of Sz2 Nn2]
    exact k
  refine own_go (fun t k => st2 t k) ?_
  show OwnG p.tables e below _ (T1.setTop (mkF m 6 #[.val (.int p1), .val (.ref o_CONNECTORS), .unset, .unset, .unset] [(.int (3 : Int32))]))
  refine own_go (fun t k => XS.istoreN X1.here hx rfl (hb hby own_d6) rfl (l' := #[.val (.int p1), .val (.ref o_CONNECTORS), .val (.int (3 : Int32)), .unset, .unset]) rfl k) ?_
  show OwnG p.tables e below _ (T1.setTop (mkF m 7 #[.val (.int p1), .val (.ref o_CONNECTORS), .val (.int (3 : Int32)), .unset, .unset] []))
  refine own_go (fun t k => XS.iconst X1.here hx rfl (hb hby own_d7) k) ?_
  show OwnG p.tables e below _ (T1.setTop (mkF m 8 #[.val (.int p1), .val (.ref o_CONNECTORS), .val (.int (3 : Int32)), .unset, .unset] [(.int (0 : Int32))]))
  refine own_go (fun t k => XS.istoreN X1.here hx rfl (hb hby own_d8) rfl (l' := #[.val (.int p1), .val (.ref o_CONNECTORS), .val (.int (3 : Int32)), .val (.int (0 : Int32)), .unset]) rfl k) ?_
  show OwnG p.tables e below _ (T1.setTop (mkF m 9 #[.val (.int p1), .val (.ref o_CONNECTORS), .val (.int (3 : Int32)), .val (.int (0 : Int32)), .unset] []))
  refine own_go (fun t k => XS.iloadN X1.here hx rfl (hb hby own_d9) rfl  k) ?_
  show OwnG p.tables e below _ (T1.setTop (mkF m 10 #[.val (.int p1), .val (.ref o_CONNECTORS), .val (.int (3 : Int32)), .val (.int (0 : Int32)), .unset] [(.int (0 : Int32))]))
  refine own_go (fun t k => XS.iloadN X1.here hx rfl (hb hby own_d10) rfl  k) ?_
  show OwnG p.tables e below _ (T1.setTop (mkF m 11 #[.val (.int p1), .val (.ref o_CONNECTORS), .val (.int (3 : Int32)), .val (.int (0 : Int32)), .unset] [(.int (3 : Int32)), (.int (0 : Int32))]))
  refine own_go (fun t k => XS.icmpNo X1.here hx rfl (hb hby own_d11) rfl (tlt (by decide : (0 : Int32) < (3 : Int32))).2.1 k) ?_
  show OwnG p.tables e below _ (T1.setTop (mkF m 14 #[.val (.int p1), .val (.ref o_CONNECTORS), .val (.int (3 : Int32)), .val (.int (0 : Int32)), .unset] []))
  refine own_go (fun t k => XS.aloadN X1.here hx rfl (hb hby own_d12) rfl rfl k) ?_
  show OwnG p.tables e below _ (T1.setTop (mkF m 15 #[.val (.int p1), .val (.ref o_CONNECTORS), .val (.int (3 : Int32)), .val (.int (0 : Int32)), .unset] [(.ref o_CONNECTORS)]))
  refine own_go (fun t k => XS.iloadN X1.here hx rfl (hb hby own_d13) rfl  k) ?_
  show OwnG p.tables e below _ (T1.setTop (mkF m 16 #[.val (.int p1), .val (.ref o_CONNECTORS), .val (.int (3 : Int32)), .val (.int (0 : Int32)), .unset] [(.int (0 : Int32)), (.ref o_CONNECTORS)]))
  obtain ⟨cl3, Ar3, qk3, Sz3, Nn3, Hs3, Gs3⟩ := (V_o_CONNECTORS.ext O0.2)
  have hin3 : ¬ ((0 : Int32) < 0 ∨ cl3.slots.size ≤ ((0 : Int32)).toNatClampNeg) := inb_of Sz3 ⟨by decide, by decide⟩
  have hat3 : cl3.slots[((0 : Int32)).toNatClampNeg]? = some (.ref o_SEQ) := Hs3.at hin3 rfl
  refine own_go (fun t k => (X1.aaload hx (j := (0 : Int32)) (v := (.ref o_SEQ)) (by rw [e1]; exact Ar3.1) (State.isArrayOf_alike hZ.alike Ar3.2.1) rfl Ar3.2.2 hin3 hat3 (g := (mkF m 16 #[.val (.int p1), .val (.ref o_CONNECTORS), .val (.int (3 : Int32)), .val (.int (0 : Int32)), .unset] [(.int (0 : Int32)), (.ref o_CONNECTORS)])) rfl rfl (hb hby own_d14)) t k) ?_
  show OwnG p.tables e below _ (T1.setTop (mkF m 17 #[.val (.int p1), .val (.ref o_CONNECTORS), .val (.int (3 : Int32)), .val (.int (0 : Int32)), .unset] [(.ref o_SEQ)]))
  refine own_go (fun t k => XS.astore X1.here hx rfl (hb hby own_d15) rfl rfl (l' := #[.val (.int p1), .val (.ref o_CONNECTORS), .val (.int (3 : Int32)), .val (.int (0 : Int32)), .val (.ref o_SEQ)]) rfl k) ?_
  show OwnG p.tables e below _ (T1.setTop (mkF m 19 #[.val (.int p1), .val (.ref o_CONNECTORS), .val (.int (3 : Int32)), .val (.int (0 : Int32)), .val (.ref o_SEQ)] []))
  refine own_go (fun t k => XS.aload X1.here hx rfl (hb hby own_d16) rfl rfl k) ?_
  show OwnG p.tables e below _ (T1.setTop (mkF m 21 #[.val (.int p1), .val (.ref o_CONNECTORS), .val (.int (3 : Int32)), .val (.int (0 : Int32)), .val (.ref o_SEQ)] [(.ref o_SEQ)]))
  obtain ⟨T4, X4, e4, st4⟩ := getF X1 hx hZ hown (host := "") (Or.inl (hw _ (List.mem_of_getElem? (i := 7) rfl))) Via.refl e1 (F_o_SEQ_mark.ext O0.2) (g := (mkF m 21 #[.val (.int p1), .val (.ref o_CONNECTORS), .val (.int (3 : Int32)), .val (.int (0 : Int32)), .val (.ref o_SEQ)] [(.ref o_SEQ)])) rfl rfl (hb hby own_d17)
  refine own_go (fun t k => st4 t k) ?_
  show OwnG p.tables e below _ (T4.setTop (mkF m 24 #[.val (.int p1), .val (.ref o_CONNECTORS), .val (.int (3 : Int32)), .val (.int (0 : Int32)), .val (.ref o_SEQ)] [(.int (44 : Int32))]))
  refine own_go (fun t k => XS.iloadN X4.here hx rfl (hb hby own_d18) rfl  k) ?_
  show OwnG p.tables e below _ (T4.setTop (mkF m 25 #[.val (.int p1), .val (.ref o_CONNECTORS), .val (.int (3 : Int32)), .val (.int (0 : Int32)), .val (.ref o_SEQ)] [(.int p1), (.int (44 : Int32))]))
  by_cases hc5 : (44 : Int32) = p1
  · refine own_go (fun t k => XS.icmpNo X4.here hx rfl (hb hby own_d19) rfl (teq hc5).2 k) ?_
    show OwnG p.tables e below _ (T4.setTop (mkF m 28 #[.val (.int p1), .val (.ref o_CONNECTORS), .val (.int (3 : Int32)), .val (.int (0 : Int32)), .val (.ref o_SEQ)] []))
    refine own_go (fun t k => XS.aload X4.here hx rfl (hb hby own_d20) rfl rfl k) ?_
    show OwnG p.tables e below _ (T4.setTop (mkF m 30 #[.val (.int p1), .val (.ref o_CONNECTORS), .val (.int (3 : Int32)), .val (.int (0 : Int32)), .val (.ref o_SEQ)] [(.ref o_SEQ)]))
    obtain ⟨fs, hr, hrun, hended, hW, hsame⟩ := X4.leave (v := some (.ref o_SEQ)) (fun h => by rw [Bd.returns] at h; cases h)
    have hlast : Steps p.tables e below (T4.setTop (mkF m 30 #[.val (.int p1), .val (.ref o_CONNECTORS), .val (.int (3 : Int32)), .val (.int (0 : Int32)), .val (.ref o_SEQ)] [(.ref o_SEQ)])) (T4.setFrames fs) := by
      exact retOut X4 hx (t := (.object "com/example/vigilant_grammar/vigilantgrammar/ModelGroup$Connector")) Bd.returns rfl (Or.inr (Or.inr (Or.inr (Or.inr ⟨rfl, rfl, rfl⟩)))) (hb hby own_d21) hr
    refine ⟨_, _, hlast, hrun, hended, _, _, rfl, ?_, ⟨_, rfl⟩, hW, hsame.mono (by decide) (by decide)⟩
    show Q_own_written Z p1 o_CONNECTORS o_SEQ o_OR o_AND kc_o_CONNECTORS h0 n0 _ T4.heap _
    rw [e4]
    exact ⟨by simp [own_val, hc5.symm], N0, rfl⟩
  · refine own_go (fun t k => XS.icmpYes X4.here hx rfl (pc0 := 25) (pc' := 31) rfl (hb hby own_d19) rfl (feq hc5).2 (by decide) (by decide) k) ?_
    show OwnG p.tables e below _ (T4.setTop (mkF m 31 #[.val (.int p1), .val (.ref o_CONNECTORS), .val (.int (3 : Int32)), .val (.int (0 : Int32)), .val (.ref o_SEQ)] []))
    refine own_go (fun t k => XS.iinc X4.here hx rfl (hb hby own_d22) rfl (l' := #[.val (.int p1), .val (.ref o_CONNECTORS), .val (.int (3 : Int32)), .val (.int ((0 : Int32) + (1 : Int32))), .val (.ref o_SEQ)]) rfl k) ?_
    show OwnG p.tables e below _ (T4.setTop (mkF m 34 #[.val (.int p1), .val (.ref o_CONNECTORS), .val (.int (3 : Int32)), .val (.int ((0 : Int32) + (1 : Int32))), .val (.ref o_SEQ)] []))
    rw [show ((0 : Int32) + (1 : Int32)) = (1 : Int32) from by decide]
    show OwnG p.tables e below _ (T4.setTop (mkF m 34 #[.val (.int p1), .val (.ref o_CONNECTORS), .val (.int (3 : Int32)), .val (.int (1 : Int32)), .val (.ref o_SEQ)] []))
    refine own_go (fun t k => XS.goto X4.here hx rfl (pc0 := 34) (pc' := 9) rfl (hb hby own_d23) (by decide) (by decide) k) ?_
    show OwnG p.tables e below _ (T4.setTop (mkF m 9 #[.val (.int p1), .val (.ref o_CONNECTORS), .val (.int (3 : Int32)), .val (.int (1 : Int32)), .val (.ref o_SEQ)] []))
    refine own_go (fun t k => XS.iloadN X4.here hx rfl (hb hby own_d9) rfl  k) ?_
    show OwnG p.tables e below _ (T4.setTop (mkF m 10 #[.val (.int p1), .val (.ref o_CONNECTORS), .val (.int (3 : Int32)), .val (.int (1 : Int32)), .val (.ref o_SEQ)] [(.int (1 : Int32))]))
    refine own_go (fun t k => XS.iloadN X4.here hx rfl (hb hby own_d10) rfl  k) ?_
    show OwnG p.tables e below _ (T4.setTop (mkF m 11 #[.val (.int p1), .val (.ref o_CONNECTORS), .val (.int (3 : Int32)), .val (.int (1 : Int32)), .val (.ref o_SEQ)] [(.int (3 : Int32)), (.int (1 : Int32))]))
    refine own_go (fun t k => XS.icmpNo X4.here hx rfl (hb hby own_d11) rfl (tlt (by decide : (1 : Int32) < (3 : Int32))).2.1 k) ?_
    show OwnG p.tables e below _ (T4.setTop (mkF m 14 #[.val (.int p1), .val (.ref o_CONNECTORS), .val (.int (3 : Int32)), .val (.int (1 : Int32)), .val (.ref o_SEQ)] []))
    refine own_go (fun t k => XS.aloadN X4.here hx rfl (hb hby own_d12) rfl rfl k) ?_
    show OwnG p.tables e below _ (T4.setTop (mkF m 15 #[.val (.int p1), .val (.ref o_CONNECTORS), .val (.int (3 : Int32)), .val (.int (1 : Int32)), .val (.ref o_SEQ)] [(.ref o_CONNECTORS)]))
    refine own_go (fun t k => XS.iloadN X4.here hx rfl (hb hby own_d13) rfl  k) ?_
    show OwnG p.tables e below _ (T4.setTop (mkF m 16 #[.val (.int p1), .val (.ref o_CONNECTORS), .val (.int (3 : Int32)), .val (.int (1 : Int32)), .val (.ref o_SEQ)] [(.int (1 : Int32)), (.ref o_CONNECTORS)]))
    obtain ⟨cl6, Ar6, qk6, Sz6, Nn6, Hs6, Gs6⟩ := (V_o_CONNECTORS.ext O0.2)
    have hin6 : ¬ ((1 : Int32) < 0 ∨ cl6.slots.size ≤ ((1 : Int32)).toNatClampNeg) := inb_of Sz6 ⟨by decide, by decide⟩
    have hat6 : cl6.slots[((1 : Int32)).toNatClampNeg]? = some (.ref o_OR) := Hs6.at hin6 rfl
    refine own_go (fun t k => (X4.aaload hx (j := (1 : Int32)) (v := (.ref o_OR)) (by rw [e4]; exact Ar6.1) (State.isArrayOf_alike hZ.alike Ar6.2.1) rfl Ar6.2.2 hin6 hat6 (g := (mkF m 16 #[.val (.int p1), .val (.ref o_CONNECTORS), .val (.int (3 : Int32)), .val (.int (1 : Int32)), .val (.ref o_SEQ)] [(.int (1 : Int32)), (.ref o_CONNECTORS)])) rfl rfl (hb hby own_d14)) t k) ?_
    show OwnG p.tables e below _ (T4.setTop (mkF m 17 #[.val (.int p1), .val (.ref o_CONNECTORS), .val (.int (3 : Int32)), .val (.int (1 : Int32)), .val (.ref o_SEQ)] [(.ref o_OR)]))
    refine own_go (fun t k => XS.astore X4.here hx rfl (hb hby own_d15) rfl rfl (l' := #[.val (.int p1), .val (.ref o_CONNECTORS), .val (.int (3 : Int32)), .val (.int (1 : Int32)), .val (.ref o_OR)]) rfl k) ?_
    show OwnG p.tables e below _ (T4.setTop (mkF m 19 #[.val (.int p1), .val (.ref o_CONNECTORS), .val (.int (3 : Int32)), .val (.int (1 : Int32)), .val (.ref o_OR)] []))
    refine own_go (fun t k => XS.aload X4.here hx rfl (hb hby own_d16) rfl rfl k) ?_
    show OwnG p.tables e below _ (T4.setTop (mkF m 21 #[.val (.int p1), .val (.ref o_CONNECTORS), .val (.int (3 : Int32)), .val (.int (1 : Int32)), .val (.ref o_OR)] [(.ref o_OR)]))
    obtain ⟨T7, X7, e7, st7⟩ := getF X4 hx hZ hown (host := "") (Or.inl (hw _ (List.mem_of_getElem? (i := 7) rfl))) Via.refl e4 (F_o_OR_mark.ext O0.2) (g := (mkF m 21 #[.val (.int p1), .val (.ref o_CONNECTORS), .val (.int (3 : Int32)), .val (.int (1 : Int32)), .val (.ref o_OR)] [(.ref o_OR)])) rfl rfl (hb hby own_d17)
    refine own_go (fun t k => st7 t k) ?_
    show OwnG p.tables e below _ (T7.setTop (mkF m 24 #[.val (.int p1), .val (.ref o_CONNECTORS), .val (.int (3 : Int32)), .val (.int (1 : Int32)), .val (.ref o_OR)] [(.int (124 : Int32))]))
    refine own_go (fun t k => XS.iloadN X7.here hx rfl (hb hby own_d18) rfl  k) ?_
    show OwnG p.tables e below _ (T7.setTop (mkF m 25 #[.val (.int p1), .val (.ref o_CONNECTORS), .val (.int (3 : Int32)), .val (.int (1 : Int32)), .val (.ref o_OR)] [(.int p1), (.int (124 : Int32))]))
    by_cases hc8 : (124 : Int32) = p1
    · refine own_go (fun t k => XS.icmpNo X7.here hx rfl (hb hby own_d19) rfl (teq hc8).2 k) ?_
      show OwnG p.tables e below _ (T7.setTop (mkF m 28 #[.val (.int p1), .val (.ref o_CONNECTORS), .val (.int (3 : Int32)), .val (.int (1 : Int32)), .val (.ref o_OR)] []))
      refine own_go (fun t k => XS.aload X7.here hx rfl (hb hby own_d20) rfl rfl k) ?_
      show OwnG p.tables e below _ (T7.setTop (mkF m 30 #[.val (.int p1), .val (.ref o_CONNECTORS), .val (.int (3 : Int32)), .val (.int (1 : Int32)), .val (.ref o_OR)] [(.ref o_OR)]))
      obtain ⟨fs, hr, hrun, hended, hW, hsame⟩ := X7.leave (v := some (.ref o_OR)) (fun h => by rw [Bd.returns] at h; cases h)
      have hlast : Steps p.tables e below (T7.setTop (mkF m 30 #[.val (.int p1), .val (.ref o_CONNECTORS), .val (.int (3 : Int32)), .val (.int (1 : Int32)), .val (.ref o_OR)] [(.ref o_OR)])) (T7.setFrames fs) := by
        exact retOut X7 hx (t := (.object "com/example/vigilant_grammar/vigilantgrammar/ModelGroup$Connector")) Bd.returns rfl (Or.inr (Or.inr (Or.inr (Or.inr ⟨rfl, rfl, rfl⟩)))) (hb hby own_d21) hr
      refine ⟨_, _, hlast, hrun, hended, _, _, rfl, ?_, ⟨_, rfl⟩, hW, hsame.mono (by decide) (by decide)⟩
      show Q_own_written Z p1 o_CONNECTORS o_SEQ o_OR o_AND kc_o_CONNECTORS h0 n0 _ T7.heap _
      rw [e7]
      exact ⟨by simp [own_val, Ne.symm hc5, hc8.symm], N0, rfl⟩
    · refine own_go (fun t k => XS.icmpYes X7.here hx rfl (pc0 := 25) (pc' := 31) rfl (hb hby own_d19) rfl (feq hc8).2 (by decide) (by decide) k) ?_
      show OwnG p.tables e below _ (T7.setTop (mkF m 31 #[.val (.int p1), .val (.ref o_CONNECTORS), .val (.int (3 : Int32)), .val (.int (1 : Int32)), .val (.ref o_OR)] []))
      refine own_go (fun t k => XS.iinc X7.here hx rfl (hb hby own_d22) rfl (l' := #[.val (.int p1), .val (.ref o_CONNECTORS), .val (.int (3 : Int32)), .val (.int ((1 : Int32) + (1 : Int32))), .val (.ref o_OR)]) rfl k) ?_
      show OwnG p.tables e below _ (T7.setTop (mkF m 34 #[.val (.int p1), .val (.ref o_CONNECTORS), .val (.int (3 : Int32)), .val (.int ((1 : Int32) + (1 : Int32))), .val (.ref o_OR)] []))
      rw [show ((1 : Int32) + (1 : Int32)) = (2 : Int32) from by decide]
      show OwnG p.tables e below _ (T7.setTop (mkF m 34 #[.val (.int p1), .val (.ref o_CONNECTORS), .val (.int (3 : Int32)), .val (.int (2 : Int32)), .val (.ref o_OR)] []))
      refine own_go (fun t k => XS.goto X7.here hx rfl (pc0 := 34) (pc' := 9) rfl (hb hby own_d23) (by decide) (by decide) k) ?_
      show OwnG p.tables e below _ (T7.setTop (mkF m 9 #[.val (.int p1), .val (.ref o_CONNECTORS), .val (.int (3 : Int32)), .val (.int (2 : Int32)), .val (.ref o_OR)] []))
      refine own_go (fun t k => XS.iloadN X7.here hx rfl (hb hby own_d9) rfl  k) ?_
      show OwnG p.tables e below _ (T7.setTop (mkF m 10 #[.val (.int p1), .val (.ref o_CONNECTORS), .val (.int (3 : Int32)), .val (.int (2 : Int32)), .val (.ref o_OR)] [(.int (2 : Int32))]))
      refine own_go (fun t k => XS.iloadN X7.here hx rfl (hb hby own_d10) rfl  k) ?_
      show OwnG p.tables e below _ (T7.setTop (mkF m 11 #[.val (.int p1), .val (.ref o_CONNECTORS), .val (.int (3 : Int32)), .val (.int (2 : Int32)), .val (.ref o_OR)] [(.int (3 : Int32)), (.int (2 : Int32))]))
      refine own_go (fun t k => XS.icmpNo X7.here hx rfl (hb hby own_d11) rfl (tlt (by decide : (2 : Int32) < (3 : Int32))).2.1 k) ?_
      show OwnG p.tables e below _ (T7.setTop (mkF m 14 #[.val (.int p1), .val (.ref o_CONNECTORS), .val (.int (3 : Int32)), .val (.int (2 : Int32)), .val (.ref o_OR)] []))
      refine own_go (fun t k => XS.aloadN X7.here hx rfl (hb hby own_d12) rfl rfl k) ?_
      show OwnG p.tables e below _ (T7.setTop (mkF m 15 #[.val (.int p1), .val (.ref o_CONNECTORS), .val (.int (3 : Int32)), .val (.int (2 : Int32)), .val (.ref o_OR)] [(.ref o_CONNECTORS)]))
      refine own_go (fun t k => XS.iloadN X7.here hx rfl (hb hby own_d13) rfl  k) ?_
      show OwnG p.tables e below _ (T7.setTop (mkF m 16 #[.val (.int p1), .val (.ref o_CONNECTORS), .val (.int (3 : Int32)), .val (.int (2 : Int32)), .val (.ref o_OR)] [(.int (2 : Int32)), (.ref o_CONNECTORS)]))
      obtain ⟨cl9, Ar9, qk9, Sz9, Nn9, Hs9, Gs9⟩ := (V_o_CONNECTORS.ext O0.2)
      have hin9 : ¬ ((2 : Int32) < 0 ∨ cl9.slots.size ≤ ((2 : Int32)).toNatClampNeg) := inb_of Sz9 ⟨by decide, by decide⟩
      have hat9 : cl9.slots[((2 : Int32)).toNatClampNeg]? = some (.ref o_AND) := Hs9.at hin9 rfl
      refine own_go (fun t k => (X7.aaload hx (j := (2 : Int32)) (v := (.ref o_AND)) (by rw [e7]; exact Ar9.1) (State.isArrayOf_alike hZ.alike Ar9.2.1) rfl Ar9.2.2 hin9 hat9 (g := (mkF m 16 #[.val (.int p1), .val (.ref o_CONNECTORS), .val (.int (3 : Int32)), .val (.int (2 : Int32)), .val (.ref o_OR)] [(.int (2 : Int32)), (.ref o_CONNECTORS)])) rfl rfl (hb hby own_d14)) t k) ?_
      show OwnG p.tables e below _ (T7.setTop (mkF m 17 #[.val (.int p1), .val (.ref o_CONNECTORS), .val (.int (3 : Int32)), .val (.int (2 : Int32)), .val (.ref o_OR)] [(.ref o_AND)]))
      refine own_go (fun t k => XS.astore X7.here hx rfl (hb hby own_d15) rfl rfl (l' := #[.val (.int p1), .val (.ref o_CONNECTORS), .val (.int (3 : Int32)), .val (.int (2 : Int32)), .val (.ref o_AND)]) rfl k) ?_
      show OwnG p.tables e below _ (T7.setTop (mkF m 19 #[.val (.int p1), .val (.ref o_CONNECTORS), .val (.int (3 : Int32)), .val (.int (2 : Int32)), .val (.ref o_AND)] []))
      refine own_go (fun t k => XS.aload X7.here hx rfl (hb hby own_d16) rfl rfl k) ?_
      show OwnG p.tables e below _ (T7.setTop (mkF m 21 #[.val (.int p1), .val (.ref o_CONNECTORS), .val (.int (3 : Int32)), .val (.int (2 : Int32)), .val (.ref o_AND)] [(.ref o_AND)]))
      obtain ⟨T10, X10, e10, st10⟩ := getF X7 hx hZ hown (host := "") (Or.inl (hw _ (List.mem_of_getElem? (i := 7) rfl))) Via.refl e7 (F_o_AND_mark.ext O0.2) (g := (mkF m 21 #[.val (.int p1), .val (.ref o_CONNECTORS), .val (.int (3 : Int32)), .val (.int (2 : Int32)), .val (.ref o_AND)] [(.ref o_AND)])) rfl rfl (hb hby own_d17)
      refine own_go (fun t k => st10 t k) ?_
      show OwnG p.tables e below _ (T10.setTop (mkF m 24 #[.val (.int p1), .val (.ref o_CONNECTORS), .val (.int (3 : Int32)), .val (.int (2 : Int32)), .val (.ref o_AND)] [(.int (38 : Int32))]))
      refine own_go (fun t k => XS.iloadN X10.here hx rfl (hb hby own_d18) rfl  k) ?_
      show OwnG p.tables e below _ (T10.setTop (mkF m 25 #[.val (.int p1), .val (.ref o_CONNECTORS), .val (.int (3 : Int32)), .val (.int (2 : Int32)), .val (.ref o_AND)] [(.int p1), (.int (38 : Int32))]))
      by_cases hc11 : (38 : Int32) = p1
      · refine own_go (fun t k => XS.icmpNo X10.here hx rfl (hb hby own_d19) rfl (teq hc11).2 k) ?_
        show OwnG p.tables e below _ (T10.setTop (mkF m 28 #[.val (.int p1), .val (.ref o_CONNECTORS), .val (.int (3 : Int32)), .val (.int (2 : Int32)), .val (.ref o_AND)] []))
        refine own_go (fun t k => XS.aload X10.here hx rfl (hb hby own_d20) rfl rfl k) ?_
        show OwnG p.tables e below _ (T10.setTop (mkF m 30 #[.val (.int p1), .val (.ref o_CONNECTORS), .val (.int (3 : Int32)), .val (.int (2 : Int32)), .val (.ref o_AND)] [(.ref o_AND)]))
        obtain ⟨fs, hr, hrun, hended, hW, hsame⟩ := X10.leave (v := some (.ref o_AND)) (fun h => by rw [Bd.returns] at h; cases h)
        have hlast : Steps p.tables e below (T10.setTop (mkF m 30 #[.val (.int p1), .val (.ref o_CONNECTORS), .val (.int (3 : Int32)), .val (.int (2 : Int32)), .val (.ref o_AND)] [(.ref o_AND)])) (T10.setFrames fs) := by
          exact retOut X10 hx (t := (.object "com/example/vigilant_grammar/vigilantgrammar/ModelGroup$Connector")) Bd.returns rfl (Or.inr (Or.inr (Or.inr (Or.inr ⟨rfl, rfl, rfl⟩)))) (hb hby own_d21) hr
        refine ⟨_, _, hlast, hrun, hended, _, _, rfl, ?_, ⟨_, rfl⟩, hW, hsame.mono (by decide) (by decide)⟩
        show Q_own_written Z p1 o_CONNECTORS o_SEQ o_OR o_AND kc_o_CONNECTORS h0 n0 _ T10.heap _
        rw [e10]
        exact ⟨by simp [own_val, Ne.symm hc5, Ne.symm hc8, hc11.symm], N0, rfl⟩
      · refine own_go (fun t k => XS.icmpYes X10.here hx rfl (pc0 := 25) (pc' := 31) rfl (hb hby own_d19) rfl (feq hc11).2 (by decide) (by decide) k) ?_
        show OwnG p.tables e below _ (T10.setTop (mkF m 31 #[.val (.int p1), .val (.ref o_CONNECTORS), .val (.int (3 : Int32)), .val (.int (2 : Int32)), .val (.ref o_AND)] []))
        refine own_go (fun t k => XS.iinc X10.here hx rfl (hb hby own_d22) rfl (l' := #[.val (.int p1), .val (.ref o_CONNECTORS), .val (.int (3 : Int32)), .val (.int ((2 : Int32) + (1 : Int32))), .val (.ref o_AND)]) rfl k) ?_
        show OwnG p.tables e below _ (T10.setTop (mkF m 34 #[.val (.int p1), .val (.ref o_CONNECTORS), .val (.int (3 : Int32)), .val (.int ((2 : Int32) + (1 : Int32))), .val (.ref o_AND)] []))
        rw [show ((2 : Int32) + (1 : Int32)) = (3 : Int32) from by decide]
        show OwnG p.tables e below _ (T10.setTop (mkF m 34 #[.val (.int p1), .val (.ref o_CONNECTORS), .val (.int (3 : Int32)), .val (.int (3 : Int32)), .val (.ref o_AND)] []))
        refine own_go (fun t k => XS.goto X10.here hx rfl (pc0 := 34) (pc' := 9) rfl (hb hby own_d23) (by decide) (by decide) k) ?_
        show OwnG p.tables e below _ (T10.setTop (mkF m 9 #[.val (.int p1), .val (.ref o_CONNECTORS), .val (.int (3 : Int32)), .val (.int (3 : Int32)), .val (.ref o_AND)] []))
        refine own_go (fun t k => XS.iloadN X10.here hx rfl (hb hby own_d9) rfl  k) ?_
        show OwnG p.tables e below _ (T10.setTop (mkF m 10 #[.val (.int p1), .val (.ref o_CONNECTORS), .val (.int (3 : Int32)), .val (.int (3 : Int32)), .val (.ref o_AND)] [(.int (3 : Int32))]))
        refine own_go (fun t k => XS.iloadN X10.here hx rfl (hb hby own_d10) rfl  k) ?_
        show OwnG p.tables e below _ (T10.setTop (mkF m 11 #[.val (.int p1), .val (.ref o_CONNECTORS), .val (.int (3 : Int32)), .val (.int (3 : Int32)), .val (.ref o_AND)] [(.int (3 : Int32)), (.int (3 : Int32))]))
        refine own_go (fun t k => XS.icmpYes X10.here hx rfl (pc0 := 11) (pc' := 37) rfl (hb hby own_d11) rfl (flt (by decide : ¬ ((3 : Int32) < (3 : Int32)))).2.1 (by decide) (by decide) k) ?_
        show OwnG p.tables e below _ (T10.setTop (mkF m 37 #[.val (.int p1), .val (.ref o_CONNECTORS), .val (.int (3 : Int32)), .val (.int (3 : Int32)), .val (.ref o_AND)] []))
        refine own_go (fun t k => XS.aconstNull X10.here hx rfl (hb hby own_d24) k) ?_
        show OwnG p.tables e below _ (T10.setTop (mkF m 38 #[.val (.int p1), .val (.ref o_CONNECTORS), .val (.int (3 : Int32)), .val (.int (3 : Int32)), .val (.ref o_AND)] [.null]))
        obtain ⟨fs, hr, hrun, hended, hW, hsame⟩ := X10.leave (v := some .null) (fun h => by rw [Bd.returns] at h; cases h)
        have hlast : Steps p.tables e below (T10.setTop (mkF m 38 #[.val (.int p1), .val (.ref o_CONNECTORS), .val (.int (3 : Int32)), .val (.int (3 : Int32)), .val (.ref o_AND)] [.null])) (T10.setFrames fs) := by
          exact retOut X10 hx (t := (.object "com/example/vigilant_grammar/vigilantgrammar/ModelGroup$Connector")) Bd.returns rfl (Or.inr (Or.inr (Or.inr (Or.inr ⟨rfl, rfl, rfl⟩)))) (hb hby own_d25) hr
        refine ⟨_, _, hlast, hrun, hended, _, _, rfl, ?_, ⟨_, rfl⟩, hW, hsame.mono (by decide) (by decide)⟩
        show Q_own_written Z p1 o_CONNECTORS o_SEQ o_OR o_AND kc_o_CONNECTORS h0 n0 _ T10.heap _
        rw [e10]
        exact ⟨by simp [own_val, Ne.symm hc5, Ne.symm hc8, Ne.symm hc11], N0, rfl⟩
theorem own_ef26 (m : MethodId) (p1 : Int32) : entryFrame m #[(.int p1)] 1 = mkF m 0 #[.val (.int p1)] [] := by first | (simp [entryFrame, mkF, argsToLocals, Value.category]; done) | rfl
theorem own_pn27 : plainName "com/example/vigilant_grammar/vigilantgrammar/ConnectorWrittenAsPinLaw" = true := by first | (simp [plainName, overriddenIn]; done) | decide +kernel
theorem own_d28 : decode method_3_code 0 = .ok (.iload_n 0, 1) := by decide +kernel
theorem own_d29 : decode method_3_code 1 = .ok (.bipush 44, 2) := by decide +kernel
theorem own_d30 : decode method_3_code 3 = .ok (.if_icmp .ne 7, 3) := by decide +kernel
theorem own_d31 : decode method_3_code 6 = .ok (.getstatic 8, 3) := by decide +kernel
theorem own_d32 : decode method_3_code 9 = .ok (.areturn, 1) := by decide +kernel
theorem own_d33 : decode method_3_code 10 = .ok (.iload_n 0, 1) := by decide +kernel
theorem own_d34 : decode method_3_code 11 = .ok (.bipush 124, 2) := by decide +kernel
theorem own_d35 : decode method_3_code 13 = .ok (.if_icmp .ne 7, 3) := by decide +kernel
theorem own_d36 : decode method_3_code 16 = .ok (.getstatic 14, 3) := by decide +kernel
theorem own_d37 : decode method_3_code 19 = .ok (.areturn, 1) := by decide +kernel
theorem own_d38 : decode method_3_code 20 = .ok (.iload_n 0, 1) := by decide +kernel
theorem own_d39 : decode method_3_code 21 = .ok (.bipush 38, 2) := by decide +kernel
theorem own_d40 : decode method_3_code 23 = .ok (.if_icmp .ne 7, 3) := by decide +kernel
theorem own_d41 : decode method_3_code 26 = .ok (.getstatic 17, 3) := by decide +kernel
theorem own_d42 : decode method_3_code 29 = .ok (.areturn, 1) := by decide +kernel
theorem own_d43 : decode method_3_code 30 = .ok (.aconst_null, 1) := by decide +kernel
theorem own_d44 : decode method_3_code 31 = .ok (.areturn, 1) := by decide +kernel
def Q_own_expected (Z : State) (p1 : Int32) (o_CONNECTORS : Addr) (o_SEQ : Addr) (o_OR : Addr) (o_AND : Addr) (kc_o_CONNECTORS : ClassId) (h0 : Heap) (n0 : Nat) (v : Option Value) (h : Heap) (L : List Loc) : Prop := v = some (own_val p1 o_SEQ o_OR o_AND) ∧ Fr n0 L ∧ h = h0
set_option maxRecDepth 65536 in
set_option maxHeartbeats 40000000 in
theorem own_expected (l : Launch) (Z : State) (a0 : Array Value) (hw : ∀ d ∈ tables_1, d.before a0 Z = true) (ws : List Jvm.Cond) (p1 : Int32) (o_CONNECTORS : Addr) (o_SEQ : Addr) (o_OR : Addr) (o_AND : Addr) (kc_o_CONNECTORS : ClassId) (h0 : Heap) (n0 : Nat) (Z0 : n0 ≤ h0.size) (O0 : Old Z n0 h0) (S_CONNECTORS : Sta Z Z.heap "com/example/vigilant_grammar/vigilantgrammar/ModelGroup$Connector" "CONNECTORS" "[Lcom/example/vigilant_grammar/vigilantgrammar/ModelGroup$Connector;" (.ref o_CONNECTORS)) (S_SEQ : Sta Z Z.heap "com/example/vigilant_grammar/vigilantgrammar/ModelGroup$Connector" "SEQ" "Lcom/example/vigilant_grammar/vigilantgrammar/ModelGroup$Connector;" (.ref o_SEQ)) (E_o_SEQ : Exa Z Z.heap o_SEQ "com/example/vigilant_grammar/vigilantgrammar/ModelGroup$Connector") (F_o_SEQ_mark : Fld Z Z.heap o_SEQ "com/example/vigilant_grammar/vigilantgrammar/ModelGroup$Connector" "mark" "C" (.int (44 : Int32))) (S_OR : Sta Z Z.heap "com/example/vigilant_grammar/vigilantgrammar/ModelGroup$Connector" "OR" "Lcom/example/vigilant_grammar/vigilantgrammar/ModelGroup$Connector;" (.ref o_OR)) (E_o_OR : Exa Z Z.heap o_OR "com/example/vigilant_grammar/vigilantgrammar/ModelGroup$Connector") (F_o_OR_mark : Fld Z Z.heap o_OR "com/example/vigilant_grammar/vigilantgrammar/ModelGroup$Connector" "mark" "C" (.int (124 : Int32))) (S_AND : Sta Z Z.heap "com/example/vigilant_grammar/vigilantgrammar/ModelGroup$Connector" "AND" "Lcom/example/vigilant_grammar/vigilantgrammar/ModelGroup$Connector;" (.ref o_AND)) (E_o_AND : Exa Z Z.heap o_AND "com/example/vigilant_grammar/vigilantgrammar/ModelGroup$Connector") (F_o_AND_mark : Fld Z Z.heap o_AND "com/example/vigilant_grammar/vigilantgrammar/ModelGroup$Connector" "mark" "C" (.int (38 : Int32))) (V_o_CONNECTORS : Arv Z Z.heap o_CONNECTORS kc_o_CONNECTORS (.object "com/example/vigilant_grammar/vigilantgrammar/ModelGroup$Connector") (3 : Int32) [(.ref o_SEQ), (.ref o_OR), (.ref o_AND)] .null) :
    MetFree l (⟨"com/example/vigilant_grammar/vigilantgrammar/ConnectorWrittenAsPinLaw", "expected", "(I)Lcom/example/vigilant_grammar/vigilantgrammar/ModelGroup$Connector;"⟩ : MethodName) (head1 (Jvm.Cond.code (⟨"com/example/vigilant_grammar/vigilantgrammar/ConnectorWrittenAsPinLaw", "expected", "(I)Lcom/example/vigilant_grammar/vigilantgrammar/ModelGroup$Connector;"⟩ : MethodName) method_3_code 1 (some (.object "com/example/vigilant_grammar/vigilantgrammar/ModelGroup$Connector")) :: ws) ({ frames := 0, cells := 0, slots := 0, locals := 0 } : Room)) (fun a U => a = #[(.int p1)] ∧ Z.Warmed39 U.vm ∧ U.heap = h0) (fun _ _ _ _ _ => True) (fun _ U o U' => ∃ v L, o = .returned v ∧ Q_own_expected Z p1 o_CONNECTORS o_SEQ o_OR o_AND kc_o_CONNECTORS h0 n0 v U'.heap L ∧ FrameEnd U o U' L ({ frames := 0, cells := 0, slots := 0, locals := 0 } : Room).cells ({ frames := 0, cells := 0, slots := 0, locals := 0 } : Room).slots) := by
  refine MetFree.of_bodySF (plainFor_of_name own_pn27) hisR ?_
  intro p e s m args below meth c s₁ Bd hml0 hP hK
  obtain ⟨rfl, hZ, hh⟩ := hP
  have hx := Bd.exec
  have hby := Bd.bytes
  have hml : c.maxLocals = 1 := hml0
  have hown : s.vm.findClass "com/example/vigilant_grammar/vigilantgrammar/ConnectorWrittenAsPinLaw" = some m.cls := findClass_of_methodNamed Bd.named
  have hnm := (name_of_methodNamed Bd.named Bd.method).1
  have X0 : Stand p l e ({ frames := 0, cells := 0, slots := 0, locals := 0 } : Room) s m #[(.int p1)] below meth c s₁ [] 0 0 := Stand.of_body Bd
  have e0 : s₁.heap = h0 := by rw [← hh, Bd.state]; rfl
  have N0 := Fr.nil n0
  have K0 := Keep.refl h0 []
  refine own_go (fun t k => castTop (own_ef26 m p1) k) ?_
  show OwnG p.tables e below _ (s₁.setTop (mkF m 0 #[.val (.int p1)] []))
  refine own_go (fun t k => XS.iloadN X0.here hx rfl (hb hby own_d28) rfl  k) ?_
  show OwnG p.tables e below _ (s₁.setTop (mkF m 1 #[.val (.int p1)] [(.int p1)]))
  refine own_go (fun t k => XS.bipush X0.here hx rfl (hb hby own_d29) k) ?_
  show OwnG p.tables e below _ (s₁.setTop (mkF m 3 #[.val (.int p1)] [(.int (44 : Int32)), (.int p1)]))
  by_cases hc1 : p1 = (44 : Int32)
  · refine own_go (fun t k => XS.icmpNo X0.here hx rfl (hb hby own_d30) rfl (teq hc1).2 k) ?_
    show OwnG p.tables e below _ (s₁.setTop (mkF m 6 #[.val (.int p1)] []))
    obtain ⟨T2, X2, e2, st2⟩ := getS2 X0 hx hZ hown (host := "") (Or.inl (hw _ (List.mem_of_getElem? (i := 13) rfl))) Via.refl e0 (S_SEQ.ext O0.2) (g := (mkF m 6 #[.val (.int p1)] [])) rfl (hb hby own_d31)
    refine own_go (fun t k => st2 t k) ?_
    show OwnG p.tables e below _ (T2.setTop (mkF m 9 #[.val (.int p1)] [(.ref o_SEQ)]))
    obtain ⟨fs, hr, hrun, hended, hW, hsame⟩ := X2.leave (v := some (.ref o_SEQ)) (fun h => by rw [Bd.returns] at h; cases h)
    have hlast : Steps p.tables e below (T2.setTop (mkF m 9 #[.val (.int p1)] [(.ref o_SEQ)])) (T2.setFrames fs) := by
      exact retOut X2 hx (t := (.object "com/example/vigilant_grammar/vigilantgrammar/ModelGroup$Connector")) Bd.returns rfl (Or.inr (Or.inr (Or.inr (Or.inr ⟨rfl, rfl, rfl⟩)))) (hb hby own_d32) hr
    refine ⟨_, _, hlast, hrun, hended, _, _, rfl, ?_, ⟨_, rfl⟩, hW, hsame.mono (by decide) (by decide)⟩
    show Q_own_expected Z p1 o_CONNECTORS o_SEQ o_OR o_AND kc_o_CONNECTORS h0 n0 _ T2.heap _
    rw [e2]
    exact ⟨by simp [own_val, hc1], N0, rfl⟩
  · refine own_go (fun t k => XS.icmpYes X0.here hx rfl (pc0 := 3) (pc' := 10) rfl (hb hby own_d30) rfl (feq hc1).2 (by decide) (by decide) k) ?_
    show OwnG p.tables e below _ (s₁.setTop (mkF m 10 #[.val (.int p1)] []))
    refine own_go (fun t k => XS.iloadN X0.here hx rfl (hb hby own_d33) rfl  k) ?_
    show OwnG p.tables e below _ (s₁.setTop (mkF m 11 #[.val (.int p1)] [(.int p1)]))
    refine own_go (fun t k => XS.bipush X0.here hx rfl (hb hby own_d34) k) ?_
    show OwnG p.tables e below _ (s₁.setTop (mkF m 13 #[.val (.int p1)] [(.int (124 : Int32)), (.int p1)]))
    by_cases hc3 : p1 = (124 : Int32)
    · refine own_go (fun t k => XS.icmpNo X0.here hx rfl (hb hby own_d35) rfl (teq hc3).2 k) ?_
      show OwnG p.tables e below _ (s₁.setTop (mkF m 16 #[.val (.int p1)] []))
      obtain ⟨T4, X4, e4, st4⟩ := getS2 X0 hx hZ hown (host := "") (Or.inl (hw _ (List.mem_of_getElem? (i := 21) rfl))) Via.refl e0 (S_OR.ext O0.2) (g := (mkF m 16 #[.val (.int p1)] [])) rfl (hb hby own_d36)
      refine own_go (fun t k => st4 t k) ?_
      show OwnG p.tables e below _ (T4.setTop (mkF m 19 #[.val (.int p1)] [(.ref o_OR)]))
      obtain ⟨fs, hr, hrun, hended, hW, hsame⟩ := X4.leave (v := some (.ref o_OR)) (fun h => by rw [Bd.returns] at h; cases h)
      have hlast : Steps p.tables e below (T4.setTop (mkF m 19 #[.val (.int p1)] [(.ref o_OR)])) (T4.setFrames fs) := by
        exact retOut X4 hx (t := (.object "com/example/vigilant_grammar/vigilantgrammar/ModelGroup$Connector")) Bd.returns rfl (Or.inr (Or.inr (Or.inr (Or.inr ⟨rfl, rfl, rfl⟩)))) (hb hby own_d37) hr
      refine ⟨_, _, hlast, hrun, hended, _, _, rfl, ?_, ⟨_, rfl⟩, hW, hsame.mono (by decide) (by decide)⟩
      show Q_own_expected Z p1 o_CONNECTORS o_SEQ o_OR o_AND kc_o_CONNECTORS h0 n0 _ T4.heap _
      rw [e4]
      exact ⟨by simp [own_val, hc1, hc3], N0, rfl⟩
    · refine own_go (fun t k => XS.icmpYes X0.here hx rfl (pc0 := 13) (pc' := 20) rfl (hb hby own_d35) rfl (feq hc3).2 (by decide) (by decide) k) ?_
      show OwnG p.tables e below _ (s₁.setTop (mkF m 20 #[.val (.int p1)] []))
      refine own_go (fun t k => XS.iloadN X0.here hx rfl (hb hby own_d38) rfl  k) ?_
      show OwnG p.tables e below _ (s₁.setTop (mkF m 21 #[.val (.int p1)] [(.int p1)]))
      refine own_go (fun t k => XS.bipush X0.here hx rfl (hb hby own_d39) k) ?_
      show OwnG p.tables e below _ (s₁.setTop (mkF m 23 #[.val (.int p1)] [(.int (38 : Int32)), (.int p1)]))
      by_cases hc5 : p1 = (38 : Int32)
      · refine own_go (fun t k => XS.icmpNo X0.here hx rfl (hb hby own_d40) rfl (teq hc5).2 k) ?_
        show OwnG p.tables e below _ (s₁.setTop (mkF m 26 #[.val (.int p1)] []))
        obtain ⟨T6, X6, e6, st6⟩ := getS2 X0 hx hZ hown (host := "") (Or.inl (hw _ (List.mem_of_getElem? (i := 22) rfl))) Via.refl e0 (S_AND.ext O0.2) (g := (mkF m 26 #[.val (.int p1)] [])) rfl (hb hby own_d41)
        refine own_go (fun t k => st6 t k) ?_
        show OwnG p.tables e below _ (T6.setTop (mkF m 29 #[.val (.int p1)] [(.ref o_AND)]))
        obtain ⟨fs, hr, hrun, hended, hW, hsame⟩ := X6.leave (v := some (.ref o_AND)) (fun h => by rw [Bd.returns] at h; cases h)
        have hlast : Steps p.tables e below (T6.setTop (mkF m 29 #[.val (.int p1)] [(.ref o_AND)])) (T6.setFrames fs) := by
          exact retOut X6 hx (t := (.object "com/example/vigilant_grammar/vigilantgrammar/ModelGroup$Connector")) Bd.returns rfl (Or.inr (Or.inr (Or.inr (Or.inr ⟨rfl, rfl, rfl⟩)))) (hb hby own_d42) hr
        refine ⟨_, _, hlast, hrun, hended, _, _, rfl, ?_, ⟨_, rfl⟩, hW, hsame.mono (by decide) (by decide)⟩
        show Q_own_expected Z p1 o_CONNECTORS o_SEQ o_OR o_AND kc_o_CONNECTORS h0 n0 _ T6.heap _
        rw [e6]
        exact ⟨by simp [own_val, hc1, hc3, hc5], N0, rfl⟩
      · refine own_go (fun t k => XS.icmpYes X0.here hx rfl (pc0 := 23) (pc' := 30) rfl (hb hby own_d40) rfl (feq hc5).2 (by decide) (by decide) k) ?_
        show OwnG p.tables e below _ (s₁.setTop (mkF m 30 #[.val (.int p1)] []))
        refine own_go (fun t k => XS.aconstNull X0.here hx rfl (hb hby own_d43) k) ?_
        show OwnG p.tables e below _ (s₁.setTop (mkF m 31 #[.val (.int p1)] [.null]))
        obtain ⟨fs, hr, hrun, hended, hW, hsame⟩ := X0.leave (v := some .null) (fun h => by rw [Bd.returns] at h; cases h)
        have hlast : Steps p.tables e below (s₁.setTop (mkF m 31 #[.val (.int p1)] [.null])) (s₁.setFrames fs) := by
          exact retOut X0 hx (t := (.object "com/example/vigilant_grammar/vigilantgrammar/ModelGroup$Connector")) Bd.returns rfl (Or.inr (Or.inr (Or.inr (Or.inr ⟨rfl, rfl, rfl⟩)))) (hb hby own_d44) hr
        refine ⟨_, _, hlast, hrun, hended, _, _, rfl, ?_, ⟨_, rfl⟩, hW, hsame.mono (by decide) (by decide)⟩
        show Q_own_expected Z p1 o_CONNECTORS o_SEQ o_OR o_AND kc_o_CONNECTORS h0 n0 _ s₁.heap _
        rw [e0]
        exact ⟨by simp [own_val, hc1, hc3, hc5], N0, rfl⟩
theorem own_ef45 (m : MethodId) (p1 : Int32) : entryFrame m #[(.int p1)] 2 = mkF m 0 #[.val (.int p1), .unset] [] := by first | (simp [entryFrame, mkF, argsToLocals, Value.category]; done) | rfl
theorem own_d46 : decode method_2_code 0 = .ok (.iload_n 0, 1) := by decide +kernel
theorem own_d47 : decode method_2_code 1 = .ok (.ldc 7, 2) := by decide +kernel
theorem own_d48 : decode method_2_code 3 = .ok (.iand, 1) := by decide +kernel
theorem own_d49 : decode method_2_code 4 = .ok (.iconst 3, 1) := by decide +kernel
theorem own_d50 : decode method_2_code 5 = .ok (.irem, 1) := by decide +kernel
theorem own_d51 : decode method_2_code 6 = .ok (.istore_n 1, 1) := by decide +kernel
theorem own_d52 : decode method_2_code 7 = .ok (.iload_n 1, 1) := by decide +kernel
theorem own_d53 : decode method_2_code 8 = .ok (.ifCond .ne 6, 3) := by decide +kernel
theorem own_d54 : decode method_2_code 11 = .ok (.bipush 44, 2) := by decide +kernel
theorem own_d55 : decode method_2_code 13 = .ok (.ireturn, 1) := by decide +kernel
theorem own_d56 : decode method_2_code 14 = .ok (.iload_n 1, 1) := by decide +kernel
theorem own_d57 : decode method_2_code 15 = .ok (.iconst 1, 1) := by decide +kernel
theorem own_d58 : decode method_2_code 16 = .ok (.if_icmp .ne 6, 3) := by decide +kernel
theorem own_d59 : decode method_2_code 19 = .ok (.bipush 124, 2) := by decide +kernel
theorem own_d60 : decode method_2_code 21 = .ok (.ireturn, 1) := by decide +kernel
theorem own_d61 : decode method_2_code 22 = .ok (.bipush 38, 2) := by decide +kernel
theorem own_d62 : decode method_2_code 24 = .ok (.ireturn, 1) := by decide +kernel
def Q_own_mark (Z : State) (p1 : Int32) (h0 : Heap) (n0 : Nat) (v : Option Value) (h : Heap) (L : List Loc) : Prop := ∃ zm : Int32, v = some (.int zm) ∧ Fr n0 L ∧ h = h0
set_option maxRecDepth 65536 in
set_option maxHeartbeats 40000000 in
theorem own_mark (l : Launch) (Z : State) (a0 : Array Value) (hw : ∀ d ∈ tables_1, d.before a0 Z = true) (ws : List Jvm.Cond) (p1 : Int32) (h0 : Heap) (n0 : Nat) (Z0 : n0 ≤ h0.size) :
    MetFree l (⟨"com/example/vigilant_grammar/vigilantgrammar/ConnectorWrittenAsPinLaw", "mark", "(I)I"⟩ : MethodName) (head1 (Jvm.Cond.code (⟨"com/example/vigilant_grammar/vigilantgrammar/ConnectorWrittenAsPinLaw", "mark", "(I)I"⟩ : MethodName) method_2_code 2 (some .int) :: ws) ({ frames := 0, cells := 0, slots := 0, locals := 0 } : Room)) (fun a U => a = #[(.int p1)] ∧ Z.Warmed39 U.vm ∧ U.heap = h0) (fun _ _ _ _ _ => True) (fun _ U o U' => ∃ v L, o = .returned v ∧ Q_own_mark Z p1 h0 n0 v U'.heap L ∧ FrameEnd U o U' L ({ frames := 0, cells := 0, slots := 0, locals := 0 } : Room).cells ({ frames := 0, cells := 0, slots := 0, locals := 0 } : Room).slots) := by
  refine MetFree.of_bodySF (plainFor_of_name own_pn27) hisR ?_
  intro p e s m args below meth c s₁ Bd hml0 hP hK
  obtain ⟨rfl, hZ, hh⟩ := hP
  have hx := Bd.exec
  have hby := Bd.bytes
  have hml : c.maxLocals = 2 := hml0
  have hown : s.vm.findClass "com/example/vigilant_grammar/vigilantgrammar/ConnectorWrittenAsPinLaw" = some m.cls := findClass_of_methodNamed Bd.named
  have hnm := (name_of_methodNamed Bd.named Bd.method).1
  have X0 : Stand p l e ({ frames := 0, cells := 0, slots := 0, locals := 0 } : Room) s m #[(.int p1)] below meth c s₁ [] 0 0 := Stand.of_body Bd
  have e0 : s₁.heap = h0 := by rw [← hh, Bd.state]; rfl
  have N0 := Fr.nil n0
  have K0 := Keep.refl h0 []
  refine own_go (fun t k => castTop (own_ef45 m p1) k) ?_
  show OwnG p.tables e below _ (s₁.setTop (mkF m 0 #[.val (.int p1), .unset] []))
  refine own_go (fun t k => XS.iloadN X0.here hx rfl (hb hby own_d46) rfl  k) ?_
  show OwnG p.tables e below _ (s₁.setTop (mkF m 1 #[.val (.int p1), .unset] [(.int p1)]))
  refine own_go (fun t k => (X0.ldcInt hx hown (mvT hZ (hw _ (List.mem_of_getElem? (i := 19) rfl))) (g := (mkF m 1 #[.val (.int p1), .unset] [(.int p1)])) rfl (hb hby own_d47)) t k) ?_
  show OwnG p.tables e below _ (s₁.setTop (mkF m 3 #[.val (.int p1), .unset] [(.int (2147483647 : Int32)), (.int p1)]))
  refine own_go (fun t k => XS.iand X0.here hx rfl (hb hby own_d48) rfl k) ?_
  show OwnG p.tables e below _ (s₁.setTop (mkF m 4 #[.val (.int p1), .unset] [(.int (p1 &&& (2147483647 : Int32)))]))
  refine own_go (fun t k => XS.iconst X0.here hx rfl (hb hby own_d49) k) ?_
  show OwnG p.tables e below _ (s₁.setTop (mkF m 5 #[.val (.int p1), .unset] [(.int (3 : Int32)), (.int (p1 &&& (2147483647 : Int32)))]))
  refine own_go (fun t k => XS.irem X0.here hx rfl (hb hby own_d50) rfl (by decide) k) ?_
  show OwnG p.tables e below _ (s₁.setTop (mkF m 6 #[.val (.int p1), .unset] [(.int ((p1 &&& (2147483647 : Int32)) - (p1 &&& (2147483647 : Int32)) / (3 : Int32) * (3 : Int32)))]))
  refine own_go (fun t k => XS.istoreN X0.here hx rfl (hb hby own_d51) rfl (l' := #[.val (.int p1), .val (.int ((p1 &&& (2147483647 : Int32)) - (p1 &&& (2147483647 : Int32)) / (3 : Int32) * (3 : Int32)))]) rfl k) ?_
  show OwnG p.tables e below _ (s₁.setTop (mkF m 7 #[.val (.int p1), .val (.int ((p1 &&& (2147483647 : Int32)) - (p1 &&& (2147483647 : Int32)) / (3 : Int32) * (3 : Int32)))] []))
  refine own_go (fun t k => XS.iloadN X0.here hx rfl (hb hby own_d52) rfl  k) ?_
  show OwnG p.tables e below _ (s₁.setTop (mkF m 8 #[.val (.int p1), .val (.int ((p1 &&& (2147483647 : Int32)) - (p1 &&& (2147483647 : Int32)) / (3 : Int32) * (3 : Int32)))] [(.int ((p1 &&& (2147483647 : Int32)) - (p1 &&& (2147483647 : Int32)) / (3 : Int32) * (3 : Int32)))]))
  by_cases hc1 : ((p1 &&& (2147483647 : Int32)) - (p1 &&& (2147483647 : Int32)) / (3 : Int32) * (3 : Int32)) = (0 : Int32)
  · refine own_go (fun t k => XS.ifNo X0.here hx rfl (hb hby own_d53) rfl ((if0 _ _).trans (teq hc1).2) k) ?_
    show OwnG p.tables e below _ (s₁.setTop (mkF m 11 #[.val (.int p1), .val (.int ((p1 &&& (2147483647 : Int32)) - (p1 &&& (2147483647 : Int32)) / (3 : Int32) * (3 : Int32)))] []))
    refine own_go (fun t k => XS.bipush X0.here hx rfl (hb hby own_d54) k) ?_
    show OwnG p.tables e below _ (s₁.setTop (mkF m 13 #[.val (.int p1), .val (.int ((p1 &&& (2147483647 : Int32)) - (p1 &&& (2147483647 : Int32)) / (3 : Int32) * (3 : Int32)))] [(.int (44 : Int32))]))
    obtain ⟨fs, hr, hrun, hended, hW, hsame⟩ := X0.leave (v := some (.int (44 : Int32))) (fun h => by rw [Bd.returns] at h; cases h)
    refine ⟨_, _, retI X0 hx Bd.returns (hb hby own_d55) hr, hrun, hended, _, _, rfl, ?_, ⟨_, rfl⟩, hW, hsame.mono (by decide) (by decide)⟩
    show Q_own_mark Z p1 h0 n0 _ s₁.heap _
    rw [e0]
    exact ⟨_, rfl, N0, rfl⟩
  · refine own_go (fun t k => XS.ifYes X0.here hx rfl (pc0 := 8) (pc' := 14) rfl (hb hby own_d53) rfl ((if0 _ _).trans (feq hc1).2) (by decide) (by decide) k) ?_
    show OwnG p.tables e below _ (s₁.setTop (mkF m 14 #[.val (.int p1), .val (.int ((p1 &&& (2147483647 : Int32)) - (p1 &&& (2147483647 : Int32)) / (3 : Int32) * (3 : Int32)))] []))
    refine own_go (fun t k => XS.iloadN X0.here hx rfl (hb hby own_d56) rfl  k) ?_
    show OwnG p.tables e below _ (s₁.setTop (mkF m 15 #[.val (.int p1), .val (.int ((p1 &&& (2147483647 : Int32)) - (p1 &&& (2147483647 : Int32)) / (3 : Int32) * (3 : Int32)))] [(.int ((p1 &&& (2147483647 : Int32)) - (p1 &&& (2147483647 : Int32)) / (3 : Int32) * (3 : Int32)))]))
    refine own_go (fun t k => XS.iconst X0.here hx rfl (hb hby own_d57) k) ?_
    show OwnG p.tables e below _ (s₁.setTop (mkF m 16 #[.val (.int p1), .val (.int ((p1 &&& (2147483647 : Int32)) - (p1 &&& (2147483647 : Int32)) / (3 : Int32) * (3 : Int32)))] [(.int (1 : Int32)), (.int ((p1 &&& (2147483647 : Int32)) - (p1 &&& (2147483647 : Int32)) / (3 : Int32) * (3 : Int32)))]))
    by_cases hc2 : ((p1 &&& (2147483647 : Int32)) - (p1 &&& (2147483647 : Int32)) / (3 : Int32) * (3 : Int32)) = (1 : Int32)
    · refine own_go (fun t k => XS.icmpNo X0.here hx rfl (hb hby own_d58) rfl (teq hc2).2 k) ?_
      show OwnG p.tables e below _ (s₁.setTop (mkF m 19 #[.val (.int p1), .val (.int ((p1 &&& (2147483647 : Int32)) - (p1 &&& (2147483647 : Int32)) / (3 : Int32) * (3 : Int32)))] []))
      refine own_go (fun t k => XS.bipush X0.here hx rfl (hb hby own_d59) k) ?_
      show OwnG p.tables e below _ (s₁.setTop (mkF m 21 #[.val (.int p1), .val (.int ((p1 &&& (2147483647 : Int32)) - (p1 &&& (2147483647 : Int32)) / (3 : Int32) * (3 : Int32)))] [(.int (124 : Int32))]))
      obtain ⟨fs, hr, hrun, hended, hW, hsame⟩ := X0.leave (v := some (.int (124 : Int32))) (fun h => by rw [Bd.returns] at h; cases h)
      refine ⟨_, _, retI X0 hx Bd.returns (hb hby own_d60) hr, hrun, hended, _, _, rfl, ?_, ⟨_, rfl⟩, hW, hsame.mono (by decide) (by decide)⟩
      show Q_own_mark Z p1 h0 n0 _ s₁.heap _
      rw [e0]
      exact ⟨_, rfl, N0, rfl⟩
    · refine own_go (fun t k => XS.icmpYes X0.here hx rfl (pc0 := 16) (pc' := 22) rfl (hb hby own_d58) rfl (feq hc2).2 (by decide) (by decide) k) ?_
      show OwnG p.tables e below _ (s₁.setTop (mkF m 22 #[.val (.int p1), .val (.int ((p1 &&& (2147483647 : Int32)) - (p1 &&& (2147483647 : Int32)) / (3 : Int32) * (3 : Int32)))] []))
      refine own_go (fun t k => XS.bipush X0.here hx rfl (hb hby own_d61) k) ?_
      show OwnG p.tables e below _ (s₁.setTop (mkF m 24 #[.val (.int p1), .val (.int ((p1 &&& (2147483647 : Int32)) - (p1 &&& (2147483647 : Int32)) / (3 : Int32) * (3 : Int32)))] [(.int (38 : Int32))]))
      obtain ⟨fs, hr, hrun, hended, hW, hsame⟩ := X0.leave (v := some (.int (38 : Int32))) (fun h => by rw [Bd.returns] at h; cases h)
      refine ⟨_, _, retI X0 hx Bd.returns (hb hby own_d62) hr, hrun, hended, _, _, rfl, ?_, ⟨_, rfl⟩, hW, hsame.mono (by decide) (by decide)⟩
      show Q_own_mark Z p1 h0 n0 _ s₁.heap _
      rw [e0]
      exact ⟨_, rfl, N0, rfl⟩
theorem own_ef63 (m : MethodId) (p0 : Int32) (p1 : Int32) : entryFrame m #[(.int p0), (.int p1)] maxLocals = mkF m 0 #[.val (.int p0), .val (.int p1), .unset, .unset, .unset] [] := by first | (simp [entryFrame, mkF, argsToLocals, Value.category, maxLocals]; done) | rfl
theorem own_pd64 : parseMethodDescriptor "(I)Lcom/example/vigilant_grammar/vigilantgrammar/ModelGroup$Connector;" = some ⟨[.int], some (.object "com/example/vigilant_grammar/vigilantgrammar/ModelGroup$Connector")⟩ := by decide +kernel
theorem own_pd65 : parseMethodDescriptor "(I)I" = some ⟨[.int], some .int⟩ := by decide +kernel
def Q_own_law (Z : State) (p0 : Int32) (p1 : Int32) (o_CONNECTORS : Addr) (o_SEQ : Addr) (o_OR : Addr) (o_AND : Addr) (kc_o_CONNECTORS : ClassId) (h0 : Heap) (n0 : Nat) (v : Option Value) (h : Heap) (L : List Loc) : Prop := v = some (.int (1 : Int32)) ∧ Fr n0 L
set_option maxRecDepth 65536 in
set_option maxHeartbeats 40000000 in
theorem own_law (l : Launch) (Z : State) (a0 : Array Value) (hw : ∀ d ∈ tables_1, d.before a0 Z = true) (ws : List Jvm.Cond) (p0 : Int32) (p1 : Int32) (o_CONNECTORS : Addr) (o_SEQ : Addr) (o_OR : Addr) (o_AND : Addr) (kc_o_CONNECTORS : ClassId) (h0 : Heap) (n0 : Nat) (Z0 : n0 ≤ h0.size) (O0 : Old Z n0 h0) (S_CONNECTORS : Sta Z Z.heap "com/example/vigilant_grammar/vigilantgrammar/ModelGroup$Connector" "CONNECTORS" "[Lcom/example/vigilant_grammar/vigilantgrammar/ModelGroup$Connector;" (.ref o_CONNECTORS)) (S_SEQ : Sta Z Z.heap "com/example/vigilant_grammar/vigilantgrammar/ModelGroup$Connector" "SEQ" "Lcom/example/vigilant_grammar/vigilantgrammar/ModelGroup$Connector;" (.ref o_SEQ)) (E_o_SEQ : Exa Z Z.heap o_SEQ "com/example/vigilant_grammar/vigilantgrammar/ModelGroup$Connector") (F_o_SEQ_mark : Fld Z Z.heap o_SEQ "com/example/vigilant_grammar/vigilantgrammar/ModelGroup$Connector" "mark" "C" (.int (44 : Int32))) (S_OR : Sta Z Z.heap "com/example/vigilant_grammar/vigilantgrammar/ModelGroup$Connector" "OR" "Lcom/example/vigilant_grammar/vigilantgrammar/ModelGroup$Connector;" (.ref o_OR)) (E_o_OR : Exa Z Z.heap o_OR "com/example/vigilant_grammar/vigilantgrammar/ModelGroup$Connector") (F_o_OR_mark : Fld Z Z.heap o_OR "com/example/vigilant_grammar/vigilantgrammar/ModelGroup$Connector" "mark" "C" (.int (124 : Int32))) (S_AND : Sta Z Z.heap "com/example/vigilant_grammar/vigilantgrammar/ModelGroup$Connector" "AND" "Lcom/example/vigilant_grammar/vigilantgrammar/ModelGroup$Connector;" (.ref o_AND)) (E_o_AND : Exa Z Z.heap o_AND "com/example/vigilant_grammar/vigilantgrammar/ModelGroup$Connector") (F_o_AND_mark : Fld Z Z.heap o_AND "com/example/vigilant_grammar/vigilantgrammar/ModelGroup$Connector" "mark" "C" (.int (38 : Int32))) (V_o_CONNECTORS : Arv Z Z.heap o_CONNECTORS kc_o_CONNECTORS (.object "com/example/vigilant_grammar/vigilantgrammar/ModelGroup$Connector") (3 : Int32) [(.ref o_SEQ), (.ref o_OR), (.ref o_AND)] .null) :
    MetFree l x (head1 (Jvm.Cond.code x code maxLocals ret :: ws) room_1) (fun a U => a = #[(.int p0), (.int p1)] ∧ Z.Warmed39 U.vm ∧ U.heap = h0) (fun _ _ _ _ _ => True) (fun _ U o U' => ∃ v L, o = .returned v ∧ Q_own_law Z p0 p1 o_CONNECTORS o_SEQ o_OR o_AND kc_o_CONNECTORS h0 n0 v U'.heap L ∧ FrameEnd U o U' L room_1.cells room_1.slots) := by
  refine MetFree.of_bodySF (plainFor_of_name own_pn27) hisR ?_
  intro p e s m args below meth c s₁ Bd hml0 hP hK
  obtain ⟨rfl, hZ, hh⟩ := hP
  have hx := Bd.exec
  have hby := Bd.bytes
  have hml : c.maxLocals = 5 := hml0
  have hown : s.vm.findClass "com/example/vigilant_grammar/vigilantgrammar/ConnectorWrittenAsPinLaw" = some m.cls := findClass_of_methodNamed Bd.named
  have hnm := (name_of_methodNamed Bd.named Bd.method).1
  have X0 : Stand p l e room_1 s m #[(.int p0), (.int p1)] below meth c s₁ [] 0 0 := Stand.of_body Bd
  have e0 : s₁.heap = h0 := by rw [← hh, Bd.state]; rfl
  have N0 := Fr.nil n0
  have K0 := Keep.refl h0 []
  refine own_go (fun t k => castTop (own_ef63 m p0 p1) k) ?_
  show OwnG p.tables e below _ (s₁.setTop (mkF m 0 #[.val (.int p0), .val (.int p1), .unset, .unset, .unset] []))
  refine own_go (fun t k => XS.iloadN X0.here hx rfl (hb hby at_0) rfl  k) ?_
  show OwnG p.tables e below _ (s₁.setTop (mkF m 1 #[.val (.int p0), .val (.int p1), .unset, .unset, .unset] [(.int p0)]))
  refine own_go (fun t k => XS.bipush X0.here hx rfl (hb hby at_1) k) ?_
  show OwnG p.tables e below _ (s₁.setTop (mkF m 3 #[.val (.int p0), .val (.int p1), .unset, .unset, .unset] [(.int (7 : Int32)), (.int p0)]))
  refine own_go (fun t k => XS.iand X0.here hx rfl (hb hby at_3) rfl k) ?_
  show OwnG p.tables e below _ (s₁.setTop (mkF m 4 #[.val (.int p0), .val (.int p1), .unset, .unset, .unset] [(.int (p0 &&& (7 : Int32)))]))
  refine own_go (fun t k => XS.istoreN X0.here hx rfl (hb hby at_4) rfl (l' := #[.val (.int p0), .val (.int p1), .val (.int (p0 &&& (7 : Int32))), .unset, .unset]) rfl k) ?_
  show OwnG p.tables e below _ (s₁.setTop (mkF m 5 #[.val (.int p0), .val (.int p1), .val (.int (p0 &&& (7 : Int32))), .unset, .unset] []))
  refine own_go (fun t k => XS.iloadN X0.here hx rfl (hb hby at_5) rfl  k) ?_
  show OwnG p.tables e below _ (s₁.setTop (mkF m 6 #[.val (.int p0), .val (.int p1), .val (.int (p0 &&& (7 : Int32))), .unset, .unset] [(.int (p0 &&& (7 : Int32)))]))
  by_cases hc1 : (p0 &&& (7 : Int32)) = (0 : Int32)
  · refine own_go (fun t k => XS.ifNo X0.here hx rfl (hb hby at_6) rfl ((if0 _ _).trans (teq hc1).2) k) ?_
    show OwnG p.tables e below _ (s₁.setTop (mkF m 9 #[.val (.int p0), .val (.int p1), .val (.int (p0 &&& (7 : Int32))), .unset, .unset] []))
    refine own_go (fun t k => XS.bipush X0.here hx rfl (hb hby at_9) k) ?_
    show OwnG p.tables e below _ (s₁.setTop (mkF m 11 #[.val (.int p0), .val (.int p1), .val (.int (p0 &&& (7 : Int32))), .unset, .unset] [(.int (44 : Int32))]))
    refine own_go (fun t k => XS.istoreN X0.here hx rfl (hb hby at_11) rfl (l' := #[.val (.int p0), .val (.int p1), .val (.int (p0 &&& (7 : Int32))), .val (.int (44 : Int32)), .unset]) rfl k) ?_
    show OwnG p.tables e below _ (s₁.setTop (mkF m 12 #[.val (.int p0), .val (.int p1), .val (.int (p0 &&& (7 : Int32))), .val (.int (44 : Int32)), .unset] []))
    refine own_go (fun t k => XS.goto X0.here hx rfl (pc0 := 12) (pc' := 90) rfl (hb hby at_12) (by decide) (by decide) k) ?_
    show OwnG p.tables e below _ (s₁.setTop (mkF m 90 #[.val (.int p0), .val (.int p1), .val (.int (p0 &&& (7 : Int32))), .val (.int (44 : Int32)), .unset] []))
    refine own_go (fun t k => XS.iloadN X0.here hx rfl (hb hby at_90) rfl  k) ?_
    show OwnG p.tables e below _ (s₁.setTop (mkF m 91 #[.val (.int p0), .val (.int p1), .val (.int (p0 &&& (7 : Int32))), .val (.int (44 : Int32)), .unset] [(.int (44 : Int32))]))
    obtain ⟨_, _, ⟨T2, L2, k2, n2⟩, -, X2, ⟨Lc2, hQ2, l2, y2, z2⟩, st2⟩ := Jvm.LawKit.callS X0 hx (y := (⟨"com/example/vigilant_grammar/vigilantgrammar/ModelGroup$Connector", "writtenAs", "(I)Lcom/example/vigilant_grammar/vigilantgrammar/ModelGroup$Connector;"⟩ : MethodName)) hown (mvT hZ (hw _ (List.mem_of_getElem? (i := 0) rfl))) (mvT hZ (hw _ (List.mem_of_getElem? (i := 1) rfl))) (mvT hZ (hw _ (List.mem_of_getElem? (i := 2) rfl))) (mvT hZ (hw _ (List.mem_of_getElem? (i := 3) rfl))) (by decide) (backOf (W := 0) (own_written l Z a0 hw [] (44 : Int32) o_CONNECTORS o_SEQ o_OR o_AND kc_o_CONNECTORS h0 n0 Z0 O0 S_CONNECTORS S_SEQ E_o_SEQ F_o_SEQ_mark S_OR E_o_OR F_o_OR_mark S_AND E_o_AND F_o_AND_mark V_o_CONNECTORS) hZ (hw _ (List.mem_of_getElem? (i := 3) rfl)) (hw _ (List.mem_of_getElem? (i := 2) rfl)) (by decide) (by decide)) (g := (mkF m 91 #[.val (.int p0), .val (.int p1), .val (.int (p0 &&& (7 : Int32))), .val (.int (44 : Int32)), .unset] [(.int (44 : Int32))])) rfl (by rw [hml]; rfl) (argsL := [(.int (44 : Int32))]) (rest := []) (lenOf own_pd64 rfl) rfl (by show 2 * 0 + _ ≤ _; exact Nat.le_of_eq rfl) (hb hby at_91) (fun _ _ => ⟨rfl, e0, (by decide : 0 + 0 ≤ _), (by decide : 0 + 0 ≤ _)⟩)
    dsimp only [Pt.U, Pt.locs, Pt.cells, Pt.slots] at X2 l2 y2 z2 st2 hQ2
    subst l2 y2 z2
    obtain ⟨rfl, Nq2, eq2⟩ := hQ2
    have N2 := Fr.app N0 Nq2
    have e2 : T2.heap = h0 := eq2
    refine own_go (fun t k => st2 t k) ?_
    show OwnG p.tables e below _ (T2.setTop (mkF m 94 #[.val (.int p0), .val (.int p1), .val (.int (p0 &&& (7 : Int32))), .val (.int (44 : Int32)), .unset] [(own_val (44 : Int32) o_SEQ o_OR o_AND)]))
    rcases own_val_or (44 : Int32) o_SEQ o_OR o_AND with al3 | al3 | al3 | al3
    · rw [al3]
      show OwnG p.tables e below _ (T2.setTop (mkF m 94 #[.val (.int p0), .val (.int p1), .val (.int (p0 &&& (7 : Int32))), .val (.int (44 : Int32)), .unset] [(.ref o_SEQ)]))
      refine own_go (fun t k => XS.astore X2.here hx rfl (hb hby at_94) rfl rfl (l' := #[.val (.int p0), .val (.int p1), .val (.int (p0 &&& (7 : Int32))), .val (.int (44 : Int32)), .val (.ref o_SEQ)]) rfl k) ?_
      show OwnG p.tables e below _ (T2.setTop (mkF m 96 #[.val (.int p0), .val (.int p1), .val (.int (p0 &&& (7 : Int32))), .val (.int (44 : Int32)), .val (.ref o_SEQ)] []))
      refine own_go (fun t k => XS.aload X2.here hx rfl (hb hby at_96) rfl rfl k) ?_
      show OwnG p.tables e below _ (T2.setTop (mkF m 98 #[.val (.int p0), .val (.int p1), .val (.int (p0 &&& (7 : Int32))), .val (.int (44 : Int32)), .val (.ref o_SEQ)] [(.ref o_SEQ)]))
      refine own_go (fun t k => XS.iloadN X2.here hx rfl (hb hby at_98) rfl  k) ?_
      show OwnG p.tables e below _ (T2.setTop (mkF m 99 #[.val (.int p0), .val (.int p1), .val (.int (p0 &&& (7 : Int32))), .val (.int (44 : Int32)), .val (.ref o_SEQ)] [(.int (44 : Int32)), (.ref o_SEQ)]))
      obtain ⟨_, _, ⟨T4, L4, k4, n4⟩, -, X4, ⟨Lc4, hQ4, l4, y4, z4⟩, st4⟩ := Jvm.LawKit.callS X2 hx (y := (⟨"com/example/vigilant_grammar/vigilantgrammar/ConnectorWrittenAsPinLaw", "expected", "(I)Lcom/example/vigilant_grammar/vigilantgrammar/ModelGroup$Connector;"⟩ : MethodName)) hown (mvT hZ (hw _ (List.mem_of_getElem? (i := 9) rfl))) (mvT hZ (hw _ (List.mem_of_getElem? (i := 10) rfl))) (mvT hZ (hw _ (List.mem_of_getElem? (i := 11) rfl))) (mvT hZ (hw _ (List.mem_of_getElem? (i := 12) rfl))) (by decide) (backOf (W := 1) (own_expected l Z a0 hw [] (44 : Int32) o_CONNECTORS o_SEQ o_OR o_AND kc_o_CONNECTORS h0 n0 Z0 O0 S_CONNECTORS S_SEQ E_o_SEQ F_o_SEQ_mark S_OR E_o_OR F_o_OR_mark S_AND E_o_AND F_o_AND_mark V_o_CONNECTORS) hZ (hw _ (List.mem_of_getElem? (i := 12) rfl)) (hw _ (List.mem_of_getElem? (i := 11) rfl)) (by decide) (by decide)) (g := (mkF m 99 #[.val (.int p0), .val (.int p1), .val (.int (p0 &&& (7 : Int32))), .val (.int (44 : Int32)), .val (.ref o_SEQ)] [(.int (44 : Int32)), (.ref o_SEQ)])) rfl (by rw [hml]; rfl) (argsL := [(.int (44 : Int32))]) (rest := [(.ref o_SEQ)]) (lenOf own_pd64 rfl) rfl (by show 2 * 0 + _ ≤ _; exact Nat.le_of_eq rfl) (hb hby at_99) (fun _ _ => ⟨rfl, e2, (by decide : 0 + 0 ≤ _), (by decide : 0 + 0 ≤ _)⟩)
      dsimp only [Pt.U, Pt.locs, Pt.cells, Pt.slots] at X4 l4 y4 z4 st4 hQ4
      subst l4 y4 z4
      obtain ⟨rfl, Nq4, eq4⟩ := hQ4
      have N4 := Fr.app N2 Nq4
      have e4 : T4.heap = h0 := eq4
      refine own_go (fun t k => st4 t k) ?_
      show OwnG p.tables e below _ (T4.setTop (mkF m 102 #[.val (.int p0), .val (.int p1), .val (.int (p0 &&& (7 : Int32))), .val (.int (44 : Int32)), .val (.ref o_SEQ)] [(own_val (44 : Int32) o_SEQ o_OR o_AND), (.ref o_SEQ)]))
      rw [al3]
      show OwnG p.tables e below _ (T4.setTop (mkF m 102 #[.val (.int p0), .val (.int p1), .val (.int (p0 &&& (7 : Int32))), .val (.int (44 : Int32)), .val (.ref o_SEQ)] [(.ref o_SEQ), (.ref o_SEQ)]))
      refine own_go (fun t k => Jvm.RoadKit.acmp (g := (mkF m 102 #[.val (.int p0), .val (.int p1), .val (.int (p0 &&& (7 : Int32))), .val (.int (44 : Int32)), .val (.ref o_SEQ)] [(.ref o_SEQ), (.ref o_SEQ)])) X4 hx rfl rfl rfl (pc0 := 102) (pc' := 105) (same := true) rfl (hb hby at_102) rfl (decide_eq_true rfl) (by decide) (by decide) k) ?_
      show OwnG p.tables e below _ (T4.setTop (mkF m 105 #[.val (.int p0), .val (.int p1), .val (.int (p0 &&& (7 : Int32))), .val (.int (44 : Int32)), .val (.ref o_SEQ)] []))
      refine own_go (fun t k => XS.iconst X4.here hx rfl (hb hby at_105) k) ?_
      show OwnG p.tables e below _ (T4.setTop (mkF m 106 #[.val (.int p0), .val (.int p1), .val (.int (p0 &&& (7 : Int32))), .val (.int (44 : Int32)), .val (.ref o_SEQ)] [(.int (1 : Int32))]))
      refine own_go (fun t k => XS.goto X4.here hx rfl (pc0 := 106) (pc' := 110) rfl (hb hby at_106) (by decide) (by decide) k) ?_
      show OwnG p.tables e below _ (T4.setTop (mkF m 110 #[.val (.int p0), .val (.int p1), .val (.int (p0 &&& (7 : Int32))), .val (.int (44 : Int32)), .val (.ref o_SEQ)] [(.int (1 : Int32))]))
      obtain ⟨fs, hr, hrun, hended, hW, hsame⟩ := X4.leave (v := some (.int (1 : Int32))) (fun h => by rw [Bd.returns] at h; cases h)
      refine ⟨_, _, retN X4 hx (t := .boolean) Bd.returns (by simp) (hb hby at_110) hr, hrun, hended, _, _, rfl, ?_, ⟨_, rfl⟩, hW, hsame.mono (by decide) (by decide)⟩
      show Q_own_law Z p0 p1 o_CONNECTORS o_SEQ o_OR o_AND kc_o_CONNECTORS h0 n0 _ T4.heap _
      rw [e4]
      exact ⟨rfl, N4⟩
    · rw [al3]
      show OwnG p.tables e below _ (T2.setTop (mkF m 94 #[.val (.int p0), .val (.int p1), .val (.int (p0 &&& (7 : Int32))), .val (.int (44 : Int32)), .unset] [(.ref o_OR)]))
      refine own_go (fun t k => XS.astore X2.here hx rfl (hb hby at_94) rfl rfl (l' := #[.val (.int p0), .val (.int p1), .val (.int (p0 &&& (7 : Int32))), .val (.int (44 : Int32)), .val (.ref o_OR)]) rfl k) ?_
      show OwnG p.tables e below _ (T2.setTop (mkF m 96 #[.val (.int p0), .val (.int p1), .val (.int (p0 &&& (7 : Int32))), .val (.int (44 : Int32)), .val (.ref o_OR)] []))
      refine own_go (fun t k => XS.aload X2.here hx rfl (hb hby at_96) rfl rfl k) ?_
      show OwnG p.tables e below _ (T2.setTop (mkF m 98 #[.val (.int p0), .val (.int p1), .val (.int (p0 &&& (7 : Int32))), .val (.int (44 : Int32)), .val (.ref o_OR)] [(.ref o_OR)]))
      refine own_go (fun t k => XS.iloadN X2.here hx rfl (hb hby at_98) rfl  k) ?_
      show OwnG p.tables e below _ (T2.setTop (mkF m 99 #[.val (.int p0), .val (.int p1), .val (.int (p0 &&& (7 : Int32))), .val (.int (44 : Int32)), .val (.ref o_OR)] [(.int (44 : Int32)), (.ref o_OR)]))
      obtain ⟨_, _, ⟨T5, L5, k5, n5⟩, -, X5, ⟨Lc5, hQ5, l5, y5, z5⟩, st5⟩ := Jvm.LawKit.callS X2 hx (y := (⟨"com/example/vigilant_grammar/vigilantgrammar/ConnectorWrittenAsPinLaw", "expected", "(I)Lcom/example/vigilant_grammar/vigilantgrammar/ModelGroup$Connector;"⟩ : MethodName)) hown (mvT hZ (hw _ (List.mem_of_getElem? (i := 9) rfl))) (mvT hZ (hw _ (List.mem_of_getElem? (i := 10) rfl))) (mvT hZ (hw _ (List.mem_of_getElem? (i := 11) rfl))) (mvT hZ (hw _ (List.mem_of_getElem? (i := 12) rfl))) (by decide) (backOf (W := 1) (own_expected l Z a0 hw [] (44 : Int32) o_CONNECTORS o_SEQ o_OR o_AND kc_o_CONNECTORS h0 n0 Z0 O0 S_CONNECTORS S_SEQ E_o_SEQ F_o_SEQ_mark S_OR E_o_OR F_o_OR_mark S_AND E_o_AND F_o_AND_mark V_o_CONNECTORS) hZ (hw _ (List.mem_of_getElem? (i := 12) rfl)) (hw _ (List.mem_of_getElem? (i := 11) rfl)) (by decide) (by decide)) (g := (mkF m 99 #[.val (.int p0), .val (.int p1), .val (.int (p0 &&& (7 : Int32))), .val (.int (44 : Int32)), .val (.ref o_OR)] [(.int (44 : Int32)), (.ref o_OR)])) rfl (by rw [hml]; rfl) (argsL := [(.int (44 : Int32))]) (rest := [(.ref o_OR)]) (lenOf own_pd64 rfl) rfl (by show 2 * 0 + _ ≤ _; exact Nat.le_of_eq rfl) (hb hby at_99) (fun _ _ => ⟨rfl, e2, (by decide : 0 + 0 ≤ _), (by decide : 0 + 0 ≤ _)⟩)
      dsimp only [Pt.U, Pt.locs, Pt.cells, Pt.slots] at X5 l5 y5 z5 st5 hQ5
      subst l5 y5 z5
      obtain ⟨rfl, Nq5, eq5⟩ := hQ5
      have N5 := Fr.app N2 Nq5
      have e5 : T5.heap = h0 := eq5
      refine own_go (fun t k => st5 t k) ?_
      show OwnG p.tables e below _ (T5.setTop (mkF m 102 #[.val (.int p0), .val (.int p1), .val (.int (p0 &&& (7 : Int32))), .val (.int (44 : Int32)), .val (.ref o_OR)] [(own_val (44 : Int32) o_SEQ o_OR o_AND), (.ref o_OR)]))
      rw [al3]
      show OwnG p.tables e below _ (T5.setTop (mkF m 102 #[.val (.int p0), .val (.int p1), .val (.int (p0 &&& (7 : Int32))), .val (.int (44 : Int32)), .val (.ref o_OR)] [(.ref o_OR), (.ref o_OR)]))
      refine own_go (fun t k => Jvm.RoadKit.acmp (g := (mkF m 102 #[.val (.int p0), .val (.int p1), .val (.int (p0 &&& (7 : Int32))), .val (.int (44 : Int32)), .val (.ref o_OR)] [(.ref o_OR), (.ref o_OR)])) X5 hx rfl rfl rfl (pc0 := 102) (pc' := 105) (same := true) rfl (hb hby at_102) rfl (decide_eq_true rfl) (by decide) (by decide) k) ?_
      show OwnG p.tables e below _ (T5.setTop (mkF m 105 #[.val (.int p0), .val (.int p1), .val (.int (p0 &&& (7 : Int32))), .val (.int (44 : Int32)), .val (.ref o_OR)] []))
      refine own_go (fun t k => XS.iconst X5.here hx rfl (hb hby at_105) k) ?_
      show OwnG p.tables e below _ (T5.setTop (mkF m 106 #[.val (.int p0), .val (.int p1), .val (.int (p0 &&& (7 : Int32))), .val (.int (44 : Int32)), .val (.ref o_OR)] [(.int (1 : Int32))]))
      refine own_go (fun t k => XS.goto X5.here hx rfl (pc0 := 106) (pc' := 110) rfl (hb hby at_106) (by decide) (by decide) k) ?_
      show OwnG p.tables e below _ (T5.setTop (mkF m 110 #[.val (.int p0), .val (.int p1), .val (.int (p0 &&& (7 : Int32))), .val (.int (44 : Int32)), .val (.ref o_OR)] [(.int (1 : Int32))]))
      obtain ⟨fs, hr, hrun, hended, hW, hsame⟩ := X5.leave (v := some (.int (1 : Int32))) (fun h => by rw [Bd.returns] at h; cases h)
      refine ⟨_, _, retN X5 hx (t := .boolean) Bd.returns (by simp) (hb hby at_110) hr, hrun, hended, _, _, rfl, ?_, ⟨_, rfl⟩, hW, hsame.mono (by decide) (by decide)⟩
      show Q_own_law Z p0 p1 o_CONNECTORS o_SEQ o_OR o_AND kc_o_CONNECTORS h0 n0 _ T5.heap _
      rw [e5]
      exact ⟨rfl, N5⟩
    · rw [al3]
      show OwnG p.tables e below _ (T2.setTop (mkF m 94 #[.val (.int p0), .val (.int p1), .val (.int (p0 &&& (7 : Int32))), .val (.int (44 : Int32)), .unset] [(.ref o_AND)]))
      refine own_go (fun t k => XS.astore X2.here hx rfl (hb hby at_94) rfl rfl (l' := #[.val (.int p0), .val (.int p1), .val (.int (p0 &&& (7 : Int32))), .val (.int (44 : Int32)), .val (.ref o_AND)]) rfl k) ?_
      show OwnG p.tables e below _ (T2.setTop (mkF m 96 #[.val (.int p0), .val (.int p1), .val (.int (p0 &&& (7 : Int32))), .val (.int (44 : Int32)), .val (.ref o_AND)] []))
      refine own_go (fun t k => XS.aload X2.here hx rfl (hb hby at_96) rfl rfl k) ?_
      show OwnG p.tables e below _ (T2.setTop (mkF m 98 #[.val (.int p0), .val (.int p1), .val (.int (p0 &&& (7 : Int32))), .val (.int (44 : Int32)), .val (.ref o_AND)] [(.ref o_AND)]))
      refine own_go (fun t k => XS.iloadN X2.here hx rfl (hb hby at_98) rfl  k) ?_
      show OwnG p.tables e below _ (T2.setTop (mkF m 99 #[.val (.int p0), .val (.int p1), .val (.int (p0 &&& (7 : Int32))), .val (.int (44 : Int32)), .val (.ref o_AND)] [(.int (44 : Int32)), (.ref o_AND)]))
      obtain ⟨_, _, ⟨T6, L6, k6, n6⟩, -, X6, ⟨Lc6, hQ6, l6, y6, z6⟩, st6⟩ := Jvm.LawKit.callS X2 hx (y := (⟨"com/example/vigilant_grammar/vigilantgrammar/ConnectorWrittenAsPinLaw", "expected", "(I)Lcom/example/vigilant_grammar/vigilantgrammar/ModelGroup$Connector;"⟩ : MethodName)) hown (mvT hZ (hw _ (List.mem_of_getElem? (i := 9) rfl))) (mvT hZ (hw _ (List.mem_of_getElem? (i := 10) rfl))) (mvT hZ (hw _ (List.mem_of_getElem? (i := 11) rfl))) (mvT hZ (hw _ (List.mem_of_getElem? (i := 12) rfl))) (by decide) (backOf (W := 1) (own_expected l Z a0 hw [] (44 : Int32) o_CONNECTORS o_SEQ o_OR o_AND kc_o_CONNECTORS h0 n0 Z0 O0 S_CONNECTORS S_SEQ E_o_SEQ F_o_SEQ_mark S_OR E_o_OR F_o_OR_mark S_AND E_o_AND F_o_AND_mark V_o_CONNECTORS) hZ (hw _ (List.mem_of_getElem? (i := 12) rfl)) (hw _ (List.mem_of_getElem? (i := 11) rfl)) (by decide) (by decide)) (g := (mkF m 99 #[.val (.int p0), .val (.int p1), .val (.int (p0 &&& (7 : Int32))), .val (.int (44 : Int32)), .val (.ref o_AND)] [(.int (44 : Int32)), (.ref o_AND)])) rfl (by rw [hml]; rfl) (argsL := [(.int (44 : Int32))]) (rest := [(.ref o_AND)]) (lenOf own_pd64 rfl) rfl (by show 2 * 0 + _ ≤ _; exact Nat.le_of_eq rfl) (hb hby at_99) (fun _ _ => ⟨rfl, e2, (by decide : 0 + 0 ≤ _), (by decide : 0 + 0 ≤ _)⟩)
      dsimp only [Pt.U, Pt.locs, Pt.cells, Pt.slots] at X6 l6 y6 z6 st6 hQ6
      subst l6 y6 z6
      obtain ⟨rfl, Nq6, eq6⟩ := hQ6
      have N6 := Fr.app N2 Nq6
      have e6 : T6.heap = h0 := eq6
      refine own_go (fun t k => st6 t k) ?_
      show OwnG p.tables e below _ (T6.setTop (mkF m 102 #[.val (.int p0), .val (.int p1), .val (.int (p0 &&& (7 : Int32))), .val (.int (44 : Int32)), .val (.ref o_AND)] [(own_val (44 : Int32) o_SEQ o_OR o_AND), (.ref o_AND)]))
      rw [al3]
      show OwnG p.tables e below _ (T6.setTop (mkF m 102 #[.val (.int p0), .val (.int p1), .val (.int (p0 &&& (7 : Int32))), .val (.int (44 : Int32)), .val (.ref o_AND)] [(.ref o_AND), (.ref o_AND)]))
      refine own_go (fun t k => Jvm.RoadKit.acmp (g := (mkF m 102 #[.val (.int p0), .val (.int p1), .val (.int (p0 &&& (7 : Int32))), .val (.int (44 : Int32)), .val (.ref o_AND)] [(.ref o_AND), (.ref o_AND)])) X6 hx rfl rfl rfl (pc0 := 102) (pc' := 105) (same := true) rfl (hb hby at_102) rfl (decide_eq_true rfl) (by decide) (by decide) k) ?_
      show OwnG p.tables e below _ (T6.setTop (mkF m 105 #[.val (.int p0), .val (.int p1), .val (.int (p0 &&& (7 : Int32))), .val (.int (44 : Int32)), .val (.ref o_AND)] []))
      refine own_go (fun t k => XS.iconst X6.here hx rfl (hb hby at_105) k) ?_
      show OwnG p.tables e below _ (T6.setTop (mkF m 106 #[.val (.int p0), .val (.int p1), .val (.int (p0 &&& (7 : Int32))), .val (.int (44 : Int32)), .val (.ref o_AND)] [(.int (1 : Int32))]))
      refine own_go (fun t k => XS.goto X6.here hx rfl (pc0 := 106) (pc' := 110) rfl (hb hby at_106) (by decide) (by decide) k) ?_
      show OwnG p.tables e below _ (T6.setTop (mkF m 110 #[.val (.int p0), .val (.int p1), .val (.int (p0 &&& (7 : Int32))), .val (.int (44 : Int32)), .val (.ref o_AND)] [(.int (1 : Int32))]))
      obtain ⟨fs, hr, hrun, hended, hW, hsame⟩ := X6.leave (v := some (.int (1 : Int32))) (fun h => by rw [Bd.returns] at h; cases h)
      refine ⟨_, _, retN X6 hx (t := .boolean) Bd.returns (by simp) (hb hby at_110) hr, hrun, hended, _, _, rfl, ?_, ⟨_, rfl⟩, hW, hsame.mono (by decide) (by decide)⟩
      show Q_own_law Z p0 p1 o_CONNECTORS o_SEQ o_OR o_AND kc_o_CONNECTORS h0 n0 _ T6.heap _
      rw [e6]
      exact ⟨rfl, N6⟩
    · rw [al3]
      show OwnG p.tables e below _ (T2.setTop (mkF m 94 #[.val (.int p0), .val (.int p1), .val (.int (p0 &&& (7 : Int32))), .val (.int (44 : Int32)), .unset] [.null]))
      refine own_go (fun t k => XS.astore X2.here hx rfl (hb hby at_94) rfl rfl (l' := #[.val (.int p0), .val (.int p1), .val (.int (p0 &&& (7 : Int32))), .val (.int (44 : Int32)), .val .null]) rfl k) ?_
      show OwnG p.tables e below _ (T2.setTop (mkF m 96 #[.val (.int p0), .val (.int p1), .val (.int (p0 &&& (7 : Int32))), .val (.int (44 : Int32)), .val .null] []))
      refine own_go (fun t k => XS.aload X2.here hx rfl (hb hby at_96) rfl rfl k) ?_
      show OwnG p.tables e below _ (T2.setTop (mkF m 98 #[.val (.int p0), .val (.int p1), .val (.int (p0 &&& (7 : Int32))), .val (.int (44 : Int32)), .val .null] [.null]))
      refine own_go (fun t k => XS.iloadN X2.here hx rfl (hb hby at_98) rfl  k) ?_
      show OwnG p.tables e below _ (T2.setTop (mkF m 99 #[.val (.int p0), .val (.int p1), .val (.int (p0 &&& (7 : Int32))), .val (.int (44 : Int32)), .val .null] [(.int (44 : Int32)), .null]))
      obtain ⟨_, _, ⟨T7, L7, k7, n7⟩, -, X7, ⟨Lc7, hQ7, l7, y7, z7⟩, st7⟩ := Jvm.LawKit.callS X2 hx (y := (⟨"com/example/vigilant_grammar/vigilantgrammar/ConnectorWrittenAsPinLaw", "expected", "(I)Lcom/example/vigilant_grammar/vigilantgrammar/ModelGroup$Connector;"⟩ : MethodName)) hown (mvT hZ (hw _ (List.mem_of_getElem? (i := 9) rfl))) (mvT hZ (hw _ (List.mem_of_getElem? (i := 10) rfl))) (mvT hZ (hw _ (List.mem_of_getElem? (i := 11) rfl))) (mvT hZ (hw _ (List.mem_of_getElem? (i := 12) rfl))) (by decide) (backOf (W := 1) (own_expected l Z a0 hw [] (44 : Int32) o_CONNECTORS o_SEQ o_OR o_AND kc_o_CONNECTORS h0 n0 Z0 O0 S_CONNECTORS S_SEQ E_o_SEQ F_o_SEQ_mark S_OR E_o_OR F_o_OR_mark S_AND E_o_AND F_o_AND_mark V_o_CONNECTORS) hZ (hw _ (List.mem_of_getElem? (i := 12) rfl)) (hw _ (List.mem_of_getElem? (i := 11) rfl)) (by decide) (by decide)) (g := (mkF m 99 #[.val (.int p0), .val (.int p1), .val (.int (p0 &&& (7 : Int32))), .val (.int (44 : Int32)), .val .null] [(.int (44 : Int32)), .null])) rfl (by rw [hml]; rfl) (argsL := [(.int (44 : Int32))]) (rest := [.null]) (lenOf own_pd64 rfl) rfl (by show 2 * 0 + _ ≤ _; exact Nat.le_of_eq rfl) (hb hby at_99) (fun _ _ => ⟨rfl, e2, (by decide : 0 + 0 ≤ _), (by decide : 0 + 0 ≤ _)⟩)
      dsimp only [Pt.U, Pt.locs, Pt.cells, Pt.slots] at X7 l7 y7 z7 st7 hQ7
      subst l7 y7 z7
      obtain ⟨rfl, Nq7, eq7⟩ := hQ7
      have N7 := Fr.app N2 Nq7
      have e7 : T7.heap = h0 := eq7
      refine own_go (fun t k => st7 t k) ?_
      show OwnG p.tables e below _ (T7.setTop (mkF m 102 #[.val (.int p0), .val (.int p1), .val (.int (p0 &&& (7 : Int32))), .val (.int (44 : Int32)), .val .null] [(own_val (44 : Int32) o_SEQ o_OR o_AND), .null]))
      rw [al3]
      show OwnG p.tables e below _ (T7.setTop (mkF m 102 #[.val (.int p0), .val (.int p1), .val (.int (p0 &&& (7 : Int32))), .val (.int (44 : Int32)), .val .null] [.null, .null]))
      refine own_go (fun t k => Jvm.RoadKit.acmp (g := (mkF m 102 #[.val (.int p0), .val (.int p1), .val (.int (p0 &&& (7 : Int32))), .val (.int (44 : Int32)), .val .null] [.null, .null])) X7 hx rfl rfl rfl (pc0 := 102) (pc' := 105) (same := true) rfl (hb hby at_102) rfl (decide_eq_true rfl) (by decide) (by decide) k) ?_
      show OwnG p.tables e below _ (T7.setTop (mkF m 105 #[.val (.int p0), .val (.int p1), .val (.int (p0 &&& (7 : Int32))), .val (.int (44 : Int32)), .val .null] []))
      refine own_go (fun t k => XS.iconst X7.here hx rfl (hb hby at_105) k) ?_
      show OwnG p.tables e below _ (T7.setTop (mkF m 106 #[.val (.int p0), .val (.int p1), .val (.int (p0 &&& (7 : Int32))), .val (.int (44 : Int32)), .val .null] [(.int (1 : Int32))]))
      refine own_go (fun t k => XS.goto X7.here hx rfl (pc0 := 106) (pc' := 110) rfl (hb hby at_106) (by decide) (by decide) k) ?_
      show OwnG p.tables e below _ (T7.setTop (mkF m 110 #[.val (.int p0), .val (.int p1), .val (.int (p0 &&& (7 : Int32))), .val (.int (44 : Int32)), .val .null] [(.int (1 : Int32))]))
      obtain ⟨fs, hr, hrun, hended, hW, hsame⟩ := X7.leave (v := some (.int (1 : Int32))) (fun h => by rw [Bd.returns] at h; cases h)
      refine ⟨_, _, retN X7 hx (t := .boolean) Bd.returns (by simp) (hb hby at_110) hr, hrun, hended, _, _, rfl, ?_, ⟨_, rfl⟩, hW, hsame.mono (by decide) (by decide)⟩
      show Q_own_law Z p0 p1 o_CONNECTORS o_SEQ o_OR o_AND kc_o_CONNECTORS h0 n0 _ T7.heap _
      rw [e7]
      exact ⟨rfl, N7⟩
  · refine own_go (fun t k => XS.ifYes X0.here hx rfl (pc0 := 6) (pc' := 15) rfl (hb hby at_6) rfl ((if0 _ _).trans (feq hc1).2) (by decide) (by decide) k) ?_
    show OwnG p.tables e below _ (s₁.setTop (mkF m 15 #[.val (.int p0), .val (.int p1), .val (.int (p0 &&& (7 : Int32))), .unset, .unset] []))
    refine own_go (fun t k => XS.iloadN X0.here hx rfl (hb hby at_15) rfl  k) ?_
    show OwnG p.tables e below _ (s₁.setTop (mkF m 16 #[.val (.int p0), .val (.int p1), .val (.int (p0 &&& (7 : Int32))), .unset, .unset] [(.int (p0 &&& (7 : Int32)))]))
    refine own_go (fun t k => XS.iconst X0.here hx rfl (hb hby at_16) k) ?_
    show OwnG p.tables e below _ (s₁.setTop (mkF m 17 #[.val (.int p0), .val (.int p1), .val (.int (p0 &&& (7 : Int32))), .unset, .unset] [(.int (1 : Int32)), (.int (p0 &&& (7 : Int32)))]))
    by_cases hc8 : (p0 &&& (7 : Int32)) = (1 : Int32)
    · refine own_go (fun t k => XS.icmpNo X0.here hx rfl (hb hby at_17) rfl (teq hc8).2 k) ?_
      show OwnG p.tables e below _ (s₁.setTop (mkF m 20 #[.val (.int p0), .val (.int p1), .val (.int (p0 &&& (7 : Int32))), .unset, .unset] []))
      refine own_go (fun t k => XS.bipush X0.here hx rfl (hb hby at_20) k) ?_
      show OwnG p.tables e below _ (s₁.setTop (mkF m 22 #[.val (.int p0), .val (.int p1), .val (.int (p0 &&& (7 : Int32))), .unset, .unset] [(.int (124 : Int32))]))
      refine own_go (fun t k => XS.istoreN X0.here hx rfl (hb hby at_22) rfl (l' := #[.val (.int p0), .val (.int p1), .val (.int (p0 &&& (7 : Int32))), .val (.int (124 : Int32)), .unset]) rfl k) ?_
      show OwnG p.tables e below _ (s₁.setTop (mkF m 23 #[.val (.int p0), .val (.int p1), .val (.int (p0 &&& (7 : Int32))), .val (.int (124 : Int32)), .unset] []))
      refine own_go (fun t k => XS.goto X0.here hx rfl (pc0 := 23) (pc' := 90) rfl (hb hby at_23) (by decide) (by decide) k) ?_
      show OwnG p.tables e below _ (s₁.setTop (mkF m 90 #[.val (.int p0), .val (.int p1), .val (.int (p0 &&& (7 : Int32))), .val (.int (124 : Int32)), .unset] []))
      refine own_go (fun t k => XS.iloadN X0.here hx rfl (hb hby at_90) rfl  k) ?_
      show OwnG p.tables e below _ (s₁.setTop (mkF m 91 #[.val (.int p0), .val (.int p1), .val (.int (p0 &&& (7 : Int32))), .val (.int (124 : Int32)), .unset] [(.int (124 : Int32))]))
      obtain ⟨_, _, ⟨T9, L9, k9, n9⟩, -, X9, ⟨Lc9, hQ9, l9, y9, z9⟩, st9⟩ := Jvm.LawKit.callS X0 hx (y := (⟨"com/example/vigilant_grammar/vigilantgrammar/ModelGroup$Connector", "writtenAs", "(I)Lcom/example/vigilant_grammar/vigilantgrammar/ModelGroup$Connector;"⟩ : MethodName)) hown (mvT hZ (hw _ (List.mem_of_getElem? (i := 0) rfl))) (mvT hZ (hw _ (List.mem_of_getElem? (i := 1) rfl))) (mvT hZ (hw _ (List.mem_of_getElem? (i := 2) rfl))) (mvT hZ (hw _ (List.mem_of_getElem? (i := 3) rfl))) (by decide) (backOf (W := 0) (own_written l Z a0 hw [] (124 : Int32) o_CONNECTORS o_SEQ o_OR o_AND kc_o_CONNECTORS h0 n0 Z0 O0 S_CONNECTORS S_SEQ E_o_SEQ F_o_SEQ_mark S_OR E_o_OR F_o_OR_mark S_AND E_o_AND F_o_AND_mark V_o_CONNECTORS) hZ (hw _ (List.mem_of_getElem? (i := 3) rfl)) (hw _ (List.mem_of_getElem? (i := 2) rfl)) (by decide) (by decide)) (g := (mkF m 91 #[.val (.int p0), .val (.int p1), .val (.int (p0 &&& (7 : Int32))), .val (.int (124 : Int32)), .unset] [(.int (124 : Int32))])) rfl (by rw [hml]; rfl) (argsL := [(.int (124 : Int32))]) (rest := []) (lenOf own_pd64 rfl) rfl (by show 2 * 0 + _ ≤ _; exact Nat.le_of_eq rfl) (hb hby at_91) (fun _ _ => ⟨rfl, e0, (by decide : 0 + 0 ≤ _), (by decide : 0 + 0 ≤ _)⟩)
      dsimp only [Pt.U, Pt.locs, Pt.cells, Pt.slots] at X9 l9 y9 z9 st9 hQ9
      subst l9 y9 z9
      obtain ⟨rfl, Nq9, eq9⟩ := hQ9
      have N9 := Fr.app N0 Nq9
      have e9 : T9.heap = h0 := eq9
      refine own_go (fun t k => st9 t k) ?_
      show OwnG p.tables e below _ (T9.setTop (mkF m 94 #[.val (.int p0), .val (.int p1), .val (.int (p0 &&& (7 : Int32))), .val (.int (124 : Int32)), .unset] [(own_val (124 : Int32) o_SEQ o_OR o_AND)]))
      rcases own_val_or (124 : Int32) o_SEQ o_OR o_AND with al10 | al10 | al10 | al10
      · rw [al10]
        show OwnG p.tables e below _ (T9.setTop (mkF m 94 #[.val (.int p0), .val (.int p1), .val (.int (p0 &&& (7 : Int32))), .val (.int (124 : Int32)), .unset] [(.ref o_SEQ)]))
        refine own_go (fun t k => XS.astore X9.here hx rfl (hb hby at_94) rfl rfl (l' := #[.val (.int p0), .val (.int p1), .val (.int (p0 &&& (7 : Int32))), .val (.int (124 : Int32)), .val (.ref o_SEQ)]) rfl k) ?_
        show OwnG p.tables e below _ (T9.setTop (mkF m 96 #[.val (.int p0), .val (.int p1), .val (.int (p0 &&& (7 : Int32))), .val (.int (124 : Int32)), .val (.ref o_SEQ)] []))
        refine own_go (fun t k => XS.aload X9.here hx rfl (hb hby at_96) rfl rfl k) ?_
        show OwnG p.tables e below _ (T9.setTop (mkF m 98 #[.val (.int p0), .val (.int p1), .val (.int (p0 &&& (7 : Int32))), .val (.int (124 : Int32)), .val (.ref o_SEQ)] [(.ref o_SEQ)]))
        refine own_go (fun t k => XS.iloadN X9.here hx rfl (hb hby at_98) rfl  k) ?_
        show OwnG p.tables e below _ (T9.setTop (mkF m 99 #[.val (.int p0), .val (.int p1), .val (.int (p0 &&& (7 : Int32))), .val (.int (124 : Int32)), .val (.ref o_SEQ)] [(.int (124 : Int32)), (.ref o_SEQ)]))
        obtain ⟨_, _, ⟨T11, L11, k11, n11⟩, -, X11, ⟨Lc11, hQ11, l11, y11, z11⟩, st11⟩ := Jvm.LawKit.callS X9 hx (y := (⟨"com/example/vigilant_grammar/vigilantgrammar/ConnectorWrittenAsPinLaw", "expected", "(I)Lcom/example/vigilant_grammar/vigilantgrammar/ModelGroup$Connector;"⟩ : MethodName)) hown (mvT hZ (hw _ (List.mem_of_getElem? (i := 9) rfl))) (mvT hZ (hw _ (List.mem_of_getElem? (i := 10) rfl))) (mvT hZ (hw _ (List.mem_of_getElem? (i := 11) rfl))) (mvT hZ (hw _ (List.mem_of_getElem? (i := 12) rfl))) (by decide) (backOf (W := 1) (own_expected l Z a0 hw [] (124 : Int32) o_CONNECTORS o_SEQ o_OR o_AND kc_o_CONNECTORS h0 n0 Z0 O0 S_CONNECTORS S_SEQ E_o_SEQ F_o_SEQ_mark S_OR E_o_OR F_o_OR_mark S_AND E_o_AND F_o_AND_mark V_o_CONNECTORS) hZ (hw _ (List.mem_of_getElem? (i := 12) rfl)) (hw _ (List.mem_of_getElem? (i := 11) rfl)) (by decide) (by decide)) (g := (mkF m 99 #[.val (.int p0), .val (.int p1), .val (.int (p0 &&& (7 : Int32))), .val (.int (124 : Int32)), .val (.ref o_SEQ)] [(.int (124 : Int32)), (.ref o_SEQ)])) rfl (by rw [hml]; rfl) (argsL := [(.int (124 : Int32))]) (rest := [(.ref o_SEQ)]) (lenOf own_pd64 rfl) rfl (by show 2 * 0 + _ ≤ _; exact Nat.le_of_eq rfl) (hb hby at_99) (fun _ _ => ⟨rfl, e9, (by decide : 0 + 0 ≤ _), (by decide : 0 + 0 ≤ _)⟩)
        dsimp only [Pt.U, Pt.locs, Pt.cells, Pt.slots] at X11 l11 y11 z11 st11 hQ11
        subst l11 y11 z11
        obtain ⟨rfl, Nq11, eq11⟩ := hQ11
        have N11 := Fr.app N9 Nq11
        have e11 : T11.heap = h0 := eq11
        refine own_go (fun t k => st11 t k) ?_
        show OwnG p.tables e below _ (T11.setTop (mkF m 102 #[.val (.int p0), .val (.int p1), .val (.int (p0 &&& (7 : Int32))), .val (.int (124 : Int32)), .val (.ref o_SEQ)] [(own_val (124 : Int32) o_SEQ o_OR o_AND), (.ref o_SEQ)]))
        rw [al10]
        show OwnG p.tables e below _ (T11.setTop (mkF m 102 #[.val (.int p0), .val (.int p1), .val (.int (p0 &&& (7 : Int32))), .val (.int (124 : Int32)), .val (.ref o_SEQ)] [(.ref o_SEQ), (.ref o_SEQ)]))
        refine own_go (fun t k => Jvm.RoadKit.acmp (g := (mkF m 102 #[.val (.int p0), .val (.int p1), .val (.int (p0 &&& (7 : Int32))), .val (.int (124 : Int32)), .val (.ref o_SEQ)] [(.ref o_SEQ), (.ref o_SEQ)])) X11 hx rfl rfl rfl (pc0 := 102) (pc' := 105) (same := true) rfl (hb hby at_102) rfl (decide_eq_true rfl) (by decide) (by decide) k) ?_
        show OwnG p.tables e below _ (T11.setTop (mkF m 105 #[.val (.int p0), .val (.int p1), .val (.int (p0 &&& (7 : Int32))), .val (.int (124 : Int32)), .val (.ref o_SEQ)] []))
        refine own_go (fun t k => XS.iconst X11.here hx rfl (hb hby at_105) k) ?_
        show OwnG p.tables e below _ (T11.setTop (mkF m 106 #[.val (.int p0), .val (.int p1), .val (.int (p0 &&& (7 : Int32))), .val (.int (124 : Int32)), .val (.ref o_SEQ)] [(.int (1 : Int32))]))
        refine own_go (fun t k => XS.goto X11.here hx rfl (pc0 := 106) (pc' := 110) rfl (hb hby at_106) (by decide) (by decide) k) ?_
        show OwnG p.tables e below _ (T11.setTop (mkF m 110 #[.val (.int p0), .val (.int p1), .val (.int (p0 &&& (7 : Int32))), .val (.int (124 : Int32)), .val (.ref o_SEQ)] [(.int (1 : Int32))]))
        obtain ⟨fs, hr, hrun, hended, hW, hsame⟩ := X11.leave (v := some (.int (1 : Int32))) (fun h => by rw [Bd.returns] at h; cases h)
        refine ⟨_, _, retN X11 hx (t := .boolean) Bd.returns (by simp) (hb hby at_110) hr, hrun, hended, _, _, rfl, ?_, ⟨_, rfl⟩, hW, hsame.mono (by decide) (by decide)⟩
        show Q_own_law Z p0 p1 o_CONNECTORS o_SEQ o_OR o_AND kc_o_CONNECTORS h0 n0 _ T11.heap _
        rw [e11]
        exact ⟨rfl, N11⟩
      · rw [al10]
        show OwnG p.tables e below _ (T9.setTop (mkF m 94 #[.val (.int p0), .val (.int p1), .val (.int (p0 &&& (7 : Int32))), .val (.int (124 : Int32)), .unset] [(.ref o_OR)]))
        refine own_go (fun t k => XS.astore X9.here hx rfl (hb hby at_94) rfl rfl (l' := #[.val (.int p0), .val (.int p1), .val (.int (p0 &&& (7 : Int32))), .val (.int (124 : Int32)), .val (.ref o_OR)]) rfl k) ?_
        show OwnG p.tables e below _ (T9.setTop (mkF m 96 #[.val (.int p0), .val (.int p1), .val (.int (p0 &&& (7 : Int32))), .val (.int (124 : Int32)), .val (.ref o_OR)] []))
        refine own_go (fun t k => XS.aload X9.here hx rfl (hb hby at_96) rfl rfl k) ?_
        show OwnG p.tables e below _ (T9.setTop (mkF m 98 #[.val (.int p0), .val (.int p1), .val (.int (p0 &&& (7 : Int32))), .val (.int (124 : Int32)), .val (.ref o_OR)] [(.ref o_OR)]))
        refine own_go (fun t k => XS.iloadN X9.here hx rfl (hb hby at_98) rfl  k) ?_
        show OwnG p.tables e below _ (T9.setTop (mkF m 99 #[.val (.int p0), .val (.int p1), .val (.int (p0 &&& (7 : Int32))), .val (.int (124 : Int32)), .val (.ref o_OR)] [(.int (124 : Int32)), (.ref o_OR)]))
        obtain ⟨_, _, ⟨T12, L12, k12, n12⟩, -, X12, ⟨Lc12, hQ12, l12, y12, z12⟩, st12⟩ := Jvm.LawKit.callS X9 hx (y := (⟨"com/example/vigilant_grammar/vigilantgrammar/ConnectorWrittenAsPinLaw", "expected", "(I)Lcom/example/vigilant_grammar/vigilantgrammar/ModelGroup$Connector;"⟩ : MethodName)) hown (mvT hZ (hw _ (List.mem_of_getElem? (i := 9) rfl))) (mvT hZ (hw _ (List.mem_of_getElem? (i := 10) rfl))) (mvT hZ (hw _ (List.mem_of_getElem? (i := 11) rfl))) (mvT hZ (hw _ (List.mem_of_getElem? (i := 12) rfl))) (by decide) (backOf (W := 1) (own_expected l Z a0 hw [] (124 : Int32) o_CONNECTORS o_SEQ o_OR o_AND kc_o_CONNECTORS h0 n0 Z0 O0 S_CONNECTORS S_SEQ E_o_SEQ F_o_SEQ_mark S_OR E_o_OR F_o_OR_mark S_AND E_o_AND F_o_AND_mark V_o_CONNECTORS) hZ (hw _ (List.mem_of_getElem? (i := 12) rfl)) (hw _ (List.mem_of_getElem? (i := 11) rfl)) (by decide) (by decide)) (g := (mkF m 99 #[.val (.int p0), .val (.int p1), .val (.int (p0 &&& (7 : Int32))), .val (.int (124 : Int32)), .val (.ref o_OR)] [(.int (124 : Int32)), (.ref o_OR)])) rfl (by rw [hml]; rfl) (argsL := [(.int (124 : Int32))]) (rest := [(.ref o_OR)]) (lenOf own_pd64 rfl) rfl (by show 2 * 0 + _ ≤ _; exact Nat.le_of_eq rfl) (hb hby at_99) (fun _ _ => ⟨rfl, e9, (by decide : 0 + 0 ≤ _), (by decide : 0 + 0 ≤ _)⟩)
        dsimp only [Pt.U, Pt.locs, Pt.cells, Pt.slots] at X12 l12 y12 z12 st12 hQ12
        subst l12 y12 z12
        obtain ⟨rfl, Nq12, eq12⟩ := hQ12
        have N12 := Fr.app N9 Nq12
        have e12 : T12.heap = h0 := eq12
        refine own_go (fun t k => st12 t k) ?_
        show OwnG p.tables e below _ (T12.setTop (mkF m 102 #[.val (.int p0), .val (.int p1), .val (.int (p0 &&& (7 : Int32))), .val (.int (124 : Int32)), .val (.ref o_OR)] [(own_val (124 : Int32) o_SEQ o_OR o_AND), (.ref o_OR)]))
        rw [al10]
        show OwnG p.tables e below _ (T12.setTop (mkF m 102 #[.val (.int p0), .val (.int p1), .val (.int (p0 &&& (7 : Int32))), .val (.int (124 : Int32)), .val (.ref o_OR)] [(.ref o_OR), (.ref o_OR)]))
        refine own_go (fun t k => Jvm.RoadKit.acmp (g := (mkF m 102 #[.val (.int p0), .val (.int p1), .val (.int (p0 &&& (7 : Int32))), .val (.int (124 : Int32)), .val (.ref o_OR)] [(.ref o_OR), (.ref o_OR)])) X12 hx rfl rfl rfl (pc0 := 102) (pc' := 105) (same := true) rfl (hb hby at_102) rfl (decide_eq_true rfl) (by decide) (by decide) k) ?_
        show OwnG p.tables e below _ (T12.setTop (mkF m 105 #[.val (.int p0), .val (.int p1), .val (.int (p0 &&& (7 : Int32))), .val (.int (124 : Int32)), .val (.ref o_OR)] []))
        refine own_go (fun t k => XS.iconst X12.here hx rfl (hb hby at_105) k) ?_
        show OwnG p.tables e below _ (T12.setTop (mkF m 106 #[.val (.int p0), .val (.int p1), .val (.int (p0 &&& (7 : Int32))), .val (.int (124 : Int32)), .val (.ref o_OR)] [(.int (1 : Int32))]))
        refine own_go (fun t k => XS.goto X12.here hx rfl (pc0 := 106) (pc' := 110) rfl (hb hby at_106) (by decide) (by decide) k) ?_
        show OwnG p.tables e below _ (T12.setTop (mkF m 110 #[.val (.int p0), .val (.int p1), .val (.int (p0 &&& (7 : Int32))), .val (.int (124 : Int32)), .val (.ref o_OR)] [(.int (1 : Int32))]))
        obtain ⟨fs, hr, hrun, hended, hW, hsame⟩ := X12.leave (v := some (.int (1 : Int32))) (fun h => by rw [Bd.returns] at h; cases h)
        refine ⟨_, _, retN X12 hx (t := .boolean) Bd.returns (by simp) (hb hby at_110) hr, hrun, hended, _, _, rfl, ?_, ⟨_, rfl⟩, hW, hsame.mono (by decide) (by decide)⟩
        show Q_own_law Z p0 p1 o_CONNECTORS o_SEQ o_OR o_AND kc_o_CONNECTORS h0 n0 _ T12.heap _
        rw [e12]
        exact ⟨rfl, N12⟩
      · rw [al10]
        show OwnG p.tables e below _ (T9.setTop (mkF m 94 #[.val (.int p0), .val (.int p1), .val (.int (p0 &&& (7 : Int32))), .val (.int (124 : Int32)), .unset] [(.ref o_AND)]))
        refine own_go (fun t k => XS.astore X9.here hx rfl (hb hby at_94) rfl rfl (l' := #[.val (.int p0), .val (.int p1), .val (.int (p0 &&& (7 : Int32))), .val (.int (124 : Int32)), .val (.ref o_AND)]) rfl k) ?_
        show OwnG p.tables e below _ (T9.setTop (mkF m 96 #[.val (.int p0), .val (.int p1), .val (.int (p0 &&& (7 : Int32))), .val (.int (124 : Int32)), .val (.ref o_AND)] []))
        refine own_go (fun t k => XS.aload X9.here hx rfl (hb hby at_96) rfl rfl k) ?_
        show OwnG p.tables e below _ (T9.setTop (mkF m 98 #[.val (.int p0), .val (.int p1), .val (.int (p0 &&& (7 : Int32))), .val (.int (124 : Int32)), .val (.ref o_AND)] [(.ref o_AND)]))
        refine own_go (fun t k => XS.iloadN X9.here hx rfl (hb hby at_98) rfl  k) ?_
        show OwnG p.tables e below _ (T9.setTop (mkF m 99 #[.val (.int p0), .val (.int p1), .val (.int (p0 &&& (7 : Int32))), .val (.int (124 : Int32)), .val (.ref o_AND)] [(.int (124 : Int32)), (.ref o_AND)]))
        obtain ⟨_, _, ⟨T13, L13, k13, n13⟩, -, X13, ⟨Lc13, hQ13, l13, y13, z13⟩, st13⟩ := Jvm.LawKit.callS X9 hx (y := (⟨"com/example/vigilant_grammar/vigilantgrammar/ConnectorWrittenAsPinLaw", "expected", "(I)Lcom/example/vigilant_grammar/vigilantgrammar/ModelGroup$Connector;"⟩ : MethodName)) hown (mvT hZ (hw _ (List.mem_of_getElem? (i := 9) rfl))) (mvT hZ (hw _ (List.mem_of_getElem? (i := 10) rfl))) (mvT hZ (hw _ (List.mem_of_getElem? (i := 11) rfl))) (mvT hZ (hw _ (List.mem_of_getElem? (i := 12) rfl))) (by decide) (backOf (W := 1) (own_expected l Z a0 hw [] (124 : Int32) o_CONNECTORS o_SEQ o_OR o_AND kc_o_CONNECTORS h0 n0 Z0 O0 S_CONNECTORS S_SEQ E_o_SEQ F_o_SEQ_mark S_OR E_o_OR F_o_OR_mark S_AND E_o_AND F_o_AND_mark V_o_CONNECTORS) hZ (hw _ (List.mem_of_getElem? (i := 12) rfl)) (hw _ (List.mem_of_getElem? (i := 11) rfl)) (by decide) (by decide)) (g := (mkF m 99 #[.val (.int p0), .val (.int p1), .val (.int (p0 &&& (7 : Int32))), .val (.int (124 : Int32)), .val (.ref o_AND)] [(.int (124 : Int32)), (.ref o_AND)])) rfl (by rw [hml]; rfl) (argsL := [(.int (124 : Int32))]) (rest := [(.ref o_AND)]) (lenOf own_pd64 rfl) rfl (by show 2 * 0 + _ ≤ _; exact Nat.le_of_eq rfl) (hb hby at_99) (fun _ _ => ⟨rfl, e9, (by decide : 0 + 0 ≤ _), (by decide : 0 + 0 ≤ _)⟩)
        dsimp only [Pt.U, Pt.locs, Pt.cells, Pt.slots] at X13 l13 y13 z13 st13 hQ13
        subst l13 y13 z13
        obtain ⟨rfl, Nq13, eq13⟩ := hQ13
        have N13 := Fr.app N9 Nq13
        have e13 : T13.heap = h0 := eq13
        refine own_go (fun t k => st13 t k) ?_
        show OwnG p.tables e below _ (T13.setTop (mkF m 102 #[.val (.int p0), .val (.int p1), .val (.int (p0 &&& (7 : Int32))), .val (.int (124 : Int32)), .val (.ref o_AND)] [(own_val (124 : Int32) o_SEQ o_OR o_AND), (.ref o_AND)]))
        rw [al10]
        show OwnG p.tables e below _ (T13.setTop (mkF m 102 #[.val (.int p0), .val (.int p1), .val (.int (p0 &&& (7 : Int32))), .val (.int (124 : Int32)), .val (.ref o_AND)] [(.ref o_AND), (.ref o_AND)]))
        refine own_go (fun t k => Jvm.RoadKit.acmp (g := (mkF m 102 #[.val (.int p0), .val (.int p1), .val (.int (p0 &&& (7 : Int32))), .val (.int (124 : Int32)), .val (.ref o_AND)] [(.ref o_AND), (.ref o_AND)])) X13 hx rfl rfl rfl (pc0 := 102) (pc' := 105) (same := true) rfl (hb hby at_102) rfl (decide_eq_true rfl) (by decide) (by decide) k) ?_
        show OwnG p.tables e below _ (T13.setTop (mkF m 105 #[.val (.int p0), .val (.int p1), .val (.int (p0 &&& (7 : Int32))), .val (.int (124 : Int32)), .val (.ref o_AND)] []))
        refine own_go (fun t k => XS.iconst X13.here hx rfl (hb hby at_105) k) ?_
        show OwnG p.tables e below _ (T13.setTop (mkF m 106 #[.val (.int p0), .val (.int p1), .val (.int (p0 &&& (7 : Int32))), .val (.int (124 : Int32)), .val (.ref o_AND)] [(.int (1 : Int32))]))
        refine own_go (fun t k => XS.goto X13.here hx rfl (pc0 := 106) (pc' := 110) rfl (hb hby at_106) (by decide) (by decide) k) ?_
        show OwnG p.tables e below _ (T13.setTop (mkF m 110 #[.val (.int p0), .val (.int p1), .val (.int (p0 &&& (7 : Int32))), .val (.int (124 : Int32)), .val (.ref o_AND)] [(.int (1 : Int32))]))
        obtain ⟨fs, hr, hrun, hended, hW, hsame⟩ := X13.leave (v := some (.int (1 : Int32))) (fun h => by rw [Bd.returns] at h; cases h)
        refine ⟨_, _, retN X13 hx (t := .boolean) Bd.returns (by simp) (hb hby at_110) hr, hrun, hended, _, _, rfl, ?_, ⟨_, rfl⟩, hW, hsame.mono (by decide) (by decide)⟩
        show Q_own_law Z p0 p1 o_CONNECTORS o_SEQ o_OR o_AND kc_o_CONNECTORS h0 n0 _ T13.heap _
        rw [e13]
        exact ⟨rfl, N13⟩
      · rw [al10]
        show OwnG p.tables e below _ (T9.setTop (mkF m 94 #[.val (.int p0), .val (.int p1), .val (.int (p0 &&& (7 : Int32))), .val (.int (124 : Int32)), .unset] [.null]))
        refine own_go (fun t k => XS.astore X9.here hx rfl (hb hby at_94) rfl rfl (l' := #[.val (.int p0), .val (.int p1), .val (.int (p0 &&& (7 : Int32))), .val (.int (124 : Int32)), .val .null]) rfl k) ?_
        show OwnG p.tables e below _ (T9.setTop (mkF m 96 #[.val (.int p0), .val (.int p1), .val (.int (p0 &&& (7 : Int32))), .val (.int (124 : Int32)), .val .null] []))
        refine own_go (fun t k => XS.aload X9.here hx rfl (hb hby at_96) rfl rfl k) ?_
        show OwnG p.tables e below _ (T9.setTop (mkF m 98 #[.val (.int p0), .val (.int p1), .val (.int (p0 &&& (7 : Int32))), .val (.int (124 : Int32)), .val .null] [.null]))
        refine own_go (fun t k => XS.iloadN X9.here hx rfl (hb hby at_98) rfl  k) ?_
        show OwnG p.tables e below _ (T9.setTop (mkF m 99 #[.val (.int p0), .val (.int p1), .val (.int (p0 &&& (7 : Int32))), .val (.int (124 : Int32)), .val .null] [(.int (124 : Int32)), .null]))
        obtain ⟨_, _, ⟨T14, L14, k14, n14⟩, -, X14, ⟨Lc14, hQ14, l14, y14, z14⟩, st14⟩ := Jvm.LawKit.callS X9 hx (y := (⟨"com/example/vigilant_grammar/vigilantgrammar/ConnectorWrittenAsPinLaw", "expected", "(I)Lcom/example/vigilant_grammar/vigilantgrammar/ModelGroup$Connector;"⟩ : MethodName)) hown (mvT hZ (hw _ (List.mem_of_getElem? (i := 9) rfl))) (mvT hZ (hw _ (List.mem_of_getElem? (i := 10) rfl))) (mvT hZ (hw _ (List.mem_of_getElem? (i := 11) rfl))) (mvT hZ (hw _ (List.mem_of_getElem? (i := 12) rfl))) (by decide) (backOf (W := 1) (own_expected l Z a0 hw [] (124 : Int32) o_CONNECTORS o_SEQ o_OR o_AND kc_o_CONNECTORS h0 n0 Z0 O0 S_CONNECTORS S_SEQ E_o_SEQ F_o_SEQ_mark S_OR E_o_OR F_o_OR_mark S_AND E_o_AND F_o_AND_mark V_o_CONNECTORS) hZ (hw _ (List.mem_of_getElem? (i := 12) rfl)) (hw _ (List.mem_of_getElem? (i := 11) rfl)) (by decide) (by decide)) (g := (mkF m 99 #[.val (.int p0), .val (.int p1), .val (.int (p0 &&& (7 : Int32))), .val (.int (124 : Int32)), .val .null] [(.int (124 : Int32)), .null])) rfl (by rw [hml]; rfl) (argsL := [(.int (124 : Int32))]) (rest := [.null]) (lenOf own_pd64 rfl) rfl (by show 2 * 0 + _ ≤ _; exact Nat.le_of_eq rfl) (hb hby at_99) (fun _ _ => ⟨rfl, e9, (by decide : 0 + 0 ≤ _), (by decide : 0 + 0 ≤ _)⟩)
        dsimp only [Pt.U, Pt.locs, Pt.cells, Pt.slots] at X14 l14 y14 z14 st14 hQ14
        subst l14 y14 z14
        obtain ⟨rfl, Nq14, eq14⟩ := hQ14
        have N14 := Fr.app N9 Nq14
        have e14 : T14.heap = h0 := eq14
        refine own_go (fun t k => st14 t k) ?_
        show OwnG p.tables e below _ (T14.setTop (mkF m 102 #[.val (.int p0), .val (.int p1), .val (.int (p0 &&& (7 : Int32))), .val (.int (124 : Int32)), .val .null] [(own_val (124 : Int32) o_SEQ o_OR o_AND), .null]))
        rw [al10]
        show OwnG p.tables e below _ (T14.setTop (mkF m 102 #[.val (.int p0), .val (.int p1), .val (.int (p0 &&& (7 : Int32))), .val (.int (124 : Int32)), .val .null] [.null, .null]))
        refine own_go (fun t k => Jvm.RoadKit.acmp (g := (mkF m 102 #[.val (.int p0), .val (.int p1), .val (.int (p0 &&& (7 : Int32))), .val (.int (124 : Int32)), .val .null] [.null, .null])) X14 hx rfl rfl rfl (pc0 := 102) (pc' := 105) (same := true) rfl (hb hby at_102) rfl (decide_eq_true rfl) (by decide) (by decide) k) ?_
        show OwnG p.tables e below _ (T14.setTop (mkF m 105 #[.val (.int p0), .val (.int p1), .val (.int (p0 &&& (7 : Int32))), .val (.int (124 : Int32)), .val .null] []))
        refine own_go (fun t k => XS.iconst X14.here hx rfl (hb hby at_105) k) ?_
        show OwnG p.tables e below _ (T14.setTop (mkF m 106 #[.val (.int p0), .val (.int p1), .val (.int (p0 &&& (7 : Int32))), .val (.int (124 : Int32)), .val .null] [(.int (1 : Int32))]))
        refine own_go (fun t k => XS.goto X14.here hx rfl (pc0 := 106) (pc' := 110) rfl (hb hby at_106) (by decide) (by decide) k) ?_
        show OwnG p.tables e below _ (T14.setTop (mkF m 110 #[.val (.int p0), .val (.int p1), .val (.int (p0 &&& (7 : Int32))), .val (.int (124 : Int32)), .val .null] [(.int (1 : Int32))]))
        obtain ⟨fs, hr, hrun, hended, hW, hsame⟩ := X14.leave (v := some (.int (1 : Int32))) (fun h => by rw [Bd.returns] at h; cases h)
        refine ⟨_, _, retN X14 hx (t := .boolean) Bd.returns (by simp) (hb hby at_110) hr, hrun, hended, _, _, rfl, ?_, ⟨_, rfl⟩, hW, hsame.mono (by decide) (by decide)⟩
        show Q_own_law Z p0 p1 o_CONNECTORS o_SEQ o_OR o_AND kc_o_CONNECTORS h0 n0 _ T14.heap _
        rw [e14]
        exact ⟨rfl, N14⟩
    · refine own_go (fun t k => XS.icmpYes X0.here hx rfl (pc0 := 17) (pc' := 26) rfl (hb hby at_17) rfl (feq hc8).2 (by decide) (by decide) k) ?_
      show OwnG p.tables e below _ (s₁.setTop (mkF m 26 #[.val (.int p0), .val (.int p1), .val (.int (p0 &&& (7 : Int32))), .unset, .unset] []))
      refine own_go (fun t k => XS.iloadN X0.here hx rfl (hb hby at_26) rfl  k) ?_
      show OwnG p.tables e below _ (s₁.setTop (mkF m 27 #[.val (.int p0), .val (.int p1), .val (.int (p0 &&& (7 : Int32))), .unset, .unset] [(.int (p0 &&& (7 : Int32)))]))
      refine own_go (fun t k => XS.iconst X0.here hx rfl (hb hby at_27) k) ?_
      show OwnG p.tables e below _ (s₁.setTop (mkF m 28 #[.val (.int p0), .val (.int p1), .val (.int (p0 &&& (7 : Int32))), .unset, .unset] [(.int (2 : Int32)), (.int (p0 &&& (7 : Int32)))]))
      by_cases hc15 : (p0 &&& (7 : Int32)) = (2 : Int32)
      · refine own_go (fun t k => XS.icmpNo X0.here hx rfl (hb hby at_28) rfl (teq hc15).2 k) ?_
        show OwnG p.tables e below _ (s₁.setTop (mkF m 31 #[.val (.int p0), .val (.int p1), .val (.int (p0 &&& (7 : Int32))), .unset, .unset] []))
        refine own_go (fun t k => XS.bipush X0.here hx rfl (hb hby at_31) k) ?_
        show OwnG p.tables e below _ (s₁.setTop (mkF m 33 #[.val (.int p0), .val (.int p1), .val (.int (p0 &&& (7 : Int32))), .unset, .unset] [(.int (38 : Int32))]))
        refine own_go (fun t k => XS.istoreN X0.here hx rfl (hb hby at_33) rfl (l' := #[.val (.int p0), .val (.int p1), .val (.int (p0 &&& (7 : Int32))), .val (.int (38 : Int32)), .unset]) rfl k) ?_
        show OwnG p.tables e below _ (s₁.setTop (mkF m 34 #[.val (.int p0), .val (.int p1), .val (.int (p0 &&& (7 : Int32))), .val (.int (38 : Int32)), .unset] []))
        refine own_go (fun t k => XS.goto X0.here hx rfl (pc0 := 34) (pc' := 90) rfl (hb hby at_34) (by decide) (by decide) k) ?_
        show OwnG p.tables e below _ (s₁.setTop (mkF m 90 #[.val (.int p0), .val (.int p1), .val (.int (p0 &&& (7 : Int32))), .val (.int (38 : Int32)), .unset] []))
        refine own_go (fun t k => XS.iloadN X0.here hx rfl (hb hby at_90) rfl  k) ?_
        show OwnG p.tables e below _ (s₁.setTop (mkF m 91 #[.val (.int p0), .val (.int p1), .val (.int (p0 &&& (7 : Int32))), .val (.int (38 : Int32)), .unset] [(.int (38 : Int32))]))
        obtain ⟨_, _, ⟨T16, L16, k16, n16⟩, -, X16, ⟨Lc16, hQ16, l16, y16, z16⟩, st16⟩ := Jvm.LawKit.callS X0 hx (y := (⟨"com/example/vigilant_grammar/vigilantgrammar/ModelGroup$Connector", "writtenAs", "(I)Lcom/example/vigilant_grammar/vigilantgrammar/ModelGroup$Connector;"⟩ : MethodName)) hown (mvT hZ (hw _ (List.mem_of_getElem? (i := 0) rfl))) (mvT hZ (hw _ (List.mem_of_getElem? (i := 1) rfl))) (mvT hZ (hw _ (List.mem_of_getElem? (i := 2) rfl))) (mvT hZ (hw _ (List.mem_of_getElem? (i := 3) rfl))) (by decide) (backOf (W := 0) (own_written l Z a0 hw [] (38 : Int32) o_CONNECTORS o_SEQ o_OR o_AND kc_o_CONNECTORS h0 n0 Z0 O0 S_CONNECTORS S_SEQ E_o_SEQ F_o_SEQ_mark S_OR E_o_OR F_o_OR_mark S_AND E_o_AND F_o_AND_mark V_o_CONNECTORS) hZ (hw _ (List.mem_of_getElem? (i := 3) rfl)) (hw _ (List.mem_of_getElem? (i := 2) rfl)) (by decide) (by decide)) (g := (mkF m 91 #[.val (.int p0), .val (.int p1), .val (.int (p0 &&& (7 : Int32))), .val (.int (38 : Int32)), .unset] [(.int (38 : Int32))])) rfl (by rw [hml]; rfl) (argsL := [(.int (38 : Int32))]) (rest := []) (lenOf own_pd64 rfl) rfl (by show 2 * 0 + _ ≤ _; exact Nat.le_of_eq rfl) (hb hby at_91) (fun _ _ => ⟨rfl, e0, (by decide : 0 + 0 ≤ _), (by decide : 0 + 0 ≤ _)⟩)
        dsimp only [Pt.U, Pt.locs, Pt.cells, Pt.slots] at X16 l16 y16 z16 st16 hQ16
        subst l16 y16 z16
        obtain ⟨rfl, Nq16, eq16⟩ := hQ16
        have N16 := Fr.app N0 Nq16
        have e16 : T16.heap = h0 := eq16
        refine own_go (fun t k => st16 t k) ?_
        show OwnG p.tables e below _ (T16.setTop (mkF m 94 #[.val (.int p0), .val (.int p1), .val (.int (p0 &&& (7 : Int32))), .val (.int (38 : Int32)), .unset] [(own_val (38 : Int32) o_SEQ o_OR o_AND)]))
        rcases own_val_or (38 : Int32) o_SEQ o_OR o_AND with al17 | al17 | al17 | al17
        · rw [al17]
          show OwnG p.tables e below _ (T16.setTop (mkF m 94 #[.val (.int p0), .val (.int p1), .val (.int (p0 &&& (7 : Int32))), .val (.int (38 : Int32)), .unset] [(.ref o_SEQ)]))
          refine own_go (fun t k => XS.astore X16.here hx rfl (hb hby at_94) rfl rfl (l' := #[.val (.int p0), .val (.int p1), .val (.int (p0 &&& (7 : Int32))), .val (.int (38 : Int32)), .val (.ref o_SEQ)]) rfl k) ?_
          show OwnG p.tables e below _ (T16.setTop (mkF m 96 #[.val (.int p0), .val (.int p1), .val (.int (p0 &&& (7 : Int32))), .val (.int (38 : Int32)), .val (.ref o_SEQ)] []))
          refine own_go (fun t k => XS.aload X16.here hx rfl (hb hby at_96) rfl rfl k) ?_
          show OwnG p.tables e below _ (T16.setTop (mkF m 98 #[.val (.int p0), .val (.int p1), .val (.int (p0 &&& (7 : Int32))), .val (.int (38 : Int32)), .val (.ref o_SEQ)] [(.ref o_SEQ)]))
          refine own_go (fun t k => XS.iloadN X16.here hx rfl (hb hby at_98) rfl  k) ?_
          show OwnG p.tables e below _ (T16.setTop (mkF m 99 #[.val (.int p0), .val (.int p1), .val (.int (p0 &&& (7 : Int32))), .val (.int (38 : Int32)), .val (.ref o_SEQ)] [(.int (38 : Int32)), (.ref o_SEQ)]))
          obtain ⟨_, _, ⟨T18, L18, k18, n18⟩, -, X18, ⟨Lc18, hQ18, l18, y18, z18⟩, st18⟩ := Jvm.LawKit.callS X16 hx (y := (⟨"com/example/vigilant_grammar/vigilantgrammar/ConnectorWrittenAsPinLaw", "expected", "(I)Lcom/example/vigilant_grammar/vigilantgrammar/ModelGroup$Connector;"⟩ : MethodName)) hown (mvT hZ (hw _ (List.mem_of_getElem? (i := 9) rfl))) (mvT hZ (hw _ (List.mem_of_getElem? (i := 10) rfl))) (mvT hZ (hw _ (List.mem_of_getElem? (i := 11) rfl))) (mvT hZ (hw _ (List.mem_of_getElem? (i := 12) rfl))) (by decide) (backOf (W := 1) (own_expected l Z a0 hw [] (38 : Int32) o_CONNECTORS o_SEQ o_OR o_AND kc_o_CONNECTORS h0 n0 Z0 O0 S_CONNECTORS S_SEQ E_o_SEQ F_o_SEQ_mark S_OR E_o_OR F_o_OR_mark S_AND E_o_AND F_o_AND_mark V_o_CONNECTORS) hZ (hw _ (List.mem_of_getElem? (i := 12) rfl)) (hw _ (List.mem_of_getElem? (i := 11) rfl)) (by decide) (by decide)) (g := (mkF m 99 #[.val (.int p0), .val (.int p1), .val (.int (p0 &&& (7 : Int32))), .val (.int (38 : Int32)), .val (.ref o_SEQ)] [(.int (38 : Int32)), (.ref o_SEQ)])) rfl (by rw [hml]; rfl) (argsL := [(.int (38 : Int32))]) (rest := [(.ref o_SEQ)]) (lenOf own_pd64 rfl) rfl (by show 2 * 0 + _ ≤ _; exact Nat.le_of_eq rfl) (hb hby at_99) (fun _ _ => ⟨rfl, e16, (by decide : 0 + 0 ≤ _), (by decide : 0 + 0 ≤ _)⟩)
          dsimp only [Pt.U, Pt.locs, Pt.cells, Pt.slots] at X18 l18 y18 z18 st18 hQ18
          subst l18 y18 z18
          obtain ⟨rfl, Nq18, eq18⟩ := hQ18
          have N18 := Fr.app N16 Nq18
          have e18 : T18.heap = h0 := eq18
          refine own_go (fun t k => st18 t k) ?_
          show OwnG p.tables e below _ (T18.setTop (mkF m 102 #[.val (.int p0), .val (.int p1), .val (.int (p0 &&& (7 : Int32))), .val (.int (38 : Int32)), .val (.ref o_SEQ)] [(own_val (38 : Int32) o_SEQ o_OR o_AND), (.ref o_SEQ)]))
          rw [al17]
          show OwnG p.tables e below _ (T18.setTop (mkF m 102 #[.val (.int p0), .val (.int p1), .val (.int (p0 &&& (7 : Int32))), .val (.int (38 : Int32)), .val (.ref o_SEQ)] [(.ref o_SEQ), (.ref o_SEQ)]))
          refine own_go (fun t k => Jvm.RoadKit.acmp (g := (mkF m 102 #[.val (.int p0), .val (.int p1), .val (.int (p0 &&& (7 : Int32))), .val (.int (38 : Int32)), .val (.ref o_SEQ)] [(.ref o_SEQ), (.ref o_SEQ)])) X18 hx rfl rfl rfl (pc0 := 102) (pc' := 105) (same := true) rfl (hb hby at_102) rfl (decide_eq_true rfl) (by decide) (by decide) k) ?_
          show OwnG p.tables e below _ (T18.setTop (mkF m 105 #[.val (.int p0), .val (.int p1), .val (.int (p0 &&& (7 : Int32))), .val (.int (38 : Int32)), .val (.ref o_SEQ)] []))
          refine own_go (fun t k => XS.iconst X18.here hx rfl (hb hby at_105) k) ?_
          show OwnG p.tables e below _ (T18.setTop (mkF m 106 #[.val (.int p0), .val (.int p1), .val (.int (p0 &&& (7 : Int32))), .val (.int (38 : Int32)), .val (.ref o_SEQ)] [(.int (1 : Int32))]))
          refine own_go (fun t k => XS.goto X18.here hx rfl (pc0 := 106) (pc' := 110) rfl (hb hby at_106) (by decide) (by decide) k) ?_
          show OwnG p.tables e below _ (T18.setTop (mkF m 110 #[.val (.int p0), .val (.int p1), .val (.int (p0 &&& (7 : Int32))), .val (.int (38 : Int32)), .val (.ref o_SEQ)] [(.int (1 : Int32))]))
          obtain ⟨fs, hr, hrun, hended, hW, hsame⟩ := X18.leave (v := some (.int (1 : Int32))) (fun h => by rw [Bd.returns] at h; cases h)
          refine ⟨_, _, retN X18 hx (t := .boolean) Bd.returns (by simp) (hb hby at_110) hr, hrun, hended, _, _, rfl, ?_, ⟨_, rfl⟩, hW, hsame.mono (by decide) (by decide)⟩
          show Q_own_law Z p0 p1 o_CONNECTORS o_SEQ o_OR o_AND kc_o_CONNECTORS h0 n0 _ T18.heap _
          rw [e18]
          exact ⟨rfl, N18⟩
        · rw [al17]
          show OwnG p.tables e below _ (T16.setTop (mkF m 94 #[.val (.int p0), .val (.int p1), .val (.int (p0 &&& (7 : Int32))), .val (.int (38 : Int32)), .unset] [(.ref o_OR)]))
          refine own_go (fun t k => XS.astore X16.here hx rfl (hb hby at_94) rfl rfl (l' := #[.val (.int p0), .val (.int p1), .val (.int (p0 &&& (7 : Int32))), .val (.int (38 : Int32)), .val (.ref o_OR)]) rfl k) ?_
          show OwnG p.tables e below _ (T16.setTop (mkF m 96 #[.val (.int p0), .val (.int p1), .val (.int (p0 &&& (7 : Int32))), .val (.int (38 : Int32)), .val (.ref o_OR)] []))
          refine own_go (fun t k => XS.aload X16.here hx rfl (hb hby at_96) rfl rfl k) ?_
          show OwnG p.tables e below _ (T16.setTop (mkF m 98 #[.val (.int p0), .val (.int p1), .val (.int (p0 &&& (7 : Int32))), .val (.int (38 : Int32)), .val (.ref o_OR)] [(.ref o_OR)]))
          refine own_go (fun t k => XS.iloadN X16.here hx rfl (hb hby at_98) rfl  k) ?_
          show OwnG p.tables e below _ (T16.setTop (mkF m 99 #[.val (.int p0), .val (.int p1), .val (.int (p0 &&& (7 : Int32))), .val (.int (38 : Int32)), .val (.ref o_OR)] [(.int (38 : Int32)), (.ref o_OR)]))
          obtain ⟨_, _, ⟨T19, L19, k19, n19⟩, -, X19, ⟨Lc19, hQ19, l19, y19, z19⟩, st19⟩ := Jvm.LawKit.callS X16 hx (y := (⟨"com/example/vigilant_grammar/vigilantgrammar/ConnectorWrittenAsPinLaw", "expected", "(I)Lcom/example/vigilant_grammar/vigilantgrammar/ModelGroup$Connector;"⟩ : MethodName)) hown (mvT hZ (hw _ (List.mem_of_getElem? (i := 9) rfl))) (mvT hZ (hw _ (List.mem_of_getElem? (i := 10) rfl))) (mvT hZ (hw _ (List.mem_of_getElem? (i := 11) rfl))) (mvT hZ (hw _ (List.mem_of_getElem? (i := 12) rfl))) (by decide) (backOf (W := 1) (own_expected l Z a0 hw [] (38 : Int32) o_CONNECTORS o_SEQ o_OR o_AND kc_o_CONNECTORS h0 n0 Z0 O0 S_CONNECTORS S_SEQ E_o_SEQ F_o_SEQ_mark S_OR E_o_OR F_o_OR_mark S_AND E_o_AND F_o_AND_mark V_o_CONNECTORS) hZ (hw _ (List.mem_of_getElem? (i := 12) rfl)) (hw _ (List.mem_of_getElem? (i := 11) rfl)) (by decide) (by decide)) (g := (mkF m 99 #[.val (.int p0), .val (.int p1), .val (.int (p0 &&& (7 : Int32))), .val (.int (38 : Int32)), .val (.ref o_OR)] [(.int (38 : Int32)), (.ref o_OR)])) rfl (by rw [hml]; rfl) (argsL := [(.int (38 : Int32))]) (rest := [(.ref o_OR)]) (lenOf own_pd64 rfl) rfl (by show 2 * 0 + _ ≤ _; exact Nat.le_of_eq rfl) (hb hby at_99) (fun _ _ => ⟨rfl, e16, (by decide : 0 + 0 ≤ _), (by decide : 0 + 0 ≤ _)⟩)
          dsimp only [Pt.U, Pt.locs, Pt.cells, Pt.slots] at X19 l19 y19 z19 st19 hQ19
          subst l19 y19 z19
          obtain ⟨rfl, Nq19, eq19⟩ := hQ19
          have N19 := Fr.app N16 Nq19
          have e19 : T19.heap = h0 := eq19
          refine own_go (fun t k => st19 t k) ?_
          show OwnG p.tables e below _ (T19.setTop (mkF m 102 #[.val (.int p0), .val (.int p1), .val (.int (p0 &&& (7 : Int32))), .val (.int (38 : Int32)), .val (.ref o_OR)] [(own_val (38 : Int32) o_SEQ o_OR o_AND), (.ref o_OR)]))
          rw [al17]
          show OwnG p.tables e below _ (T19.setTop (mkF m 102 #[.val (.int p0), .val (.int p1), .val (.int (p0 &&& (7 : Int32))), .val (.int (38 : Int32)), .val (.ref o_OR)] [(.ref o_OR), (.ref o_OR)]))
          refine own_go (fun t k => Jvm.RoadKit.acmp (g := (mkF m 102 #[.val (.int p0), .val (.int p1), .val (.int (p0 &&& (7 : Int32))), .val (.int (38 : Int32)), .val (.ref o_OR)] [(.ref o_OR), (.ref o_OR)])) X19 hx rfl rfl rfl (pc0 := 102) (pc' := 105) (same := true) rfl (hb hby at_102) rfl (decide_eq_true rfl) (by decide) (by decide) k) ?_
          show OwnG p.tables e below _ (T19.setTop (mkF m 105 #[.val (.int p0), .val (.int p1), .val (.int (p0 &&& (7 : Int32))), .val (.int (38 : Int32)), .val (.ref o_OR)] []))
          refine own_go (fun t k => XS.iconst X19.here hx rfl (hb hby at_105) k) ?_
          show OwnG p.tables e below _ (T19.setTop (mkF m 106 #[.val (.int p0), .val (.int p1), .val (.int (p0 &&& (7 : Int32))), .val (.int (38 : Int32)), .val (.ref o_OR)] [(.int (1 : Int32))]))
          refine own_go (fun t k => XS.goto X19.here hx rfl (pc0 := 106) (pc' := 110) rfl (hb hby at_106) (by decide) (by decide) k) ?_
          show OwnG p.tables e below _ (T19.setTop (mkF m 110 #[.val (.int p0), .val (.int p1), .val (.int (p0 &&& (7 : Int32))), .val (.int (38 : Int32)), .val (.ref o_OR)] [(.int (1 : Int32))]))
          obtain ⟨fs, hr, hrun, hended, hW, hsame⟩ := X19.leave (v := some (.int (1 : Int32))) (fun h => by rw [Bd.returns] at h; cases h)
          refine ⟨_, _, retN X19 hx (t := .boolean) Bd.returns (by simp) (hb hby at_110) hr, hrun, hended, _, _, rfl, ?_, ⟨_, rfl⟩, hW, hsame.mono (by decide) (by decide)⟩
          show Q_own_law Z p0 p1 o_CONNECTORS o_SEQ o_OR o_AND kc_o_CONNECTORS h0 n0 _ T19.heap _
          rw [e19]
          exact ⟨rfl, N19⟩
        · rw [al17]
          show OwnG p.tables e below _ (T16.setTop (mkF m 94 #[.val (.int p0), .val (.int p1), .val (.int (p0 &&& (7 : Int32))), .val (.int (38 : Int32)), .unset] [(.ref o_AND)]))
          refine own_go (fun t k => XS.astore X16.here hx rfl (hb hby at_94) rfl rfl (l' := #[.val (.int p0), .val (.int p1), .val (.int (p0 &&& (7 : Int32))), .val (.int (38 : Int32)), .val (.ref o_AND)]) rfl k) ?_
          show OwnG p.tables e below _ (T16.setTop (mkF m 96 #[.val (.int p0), .val (.int p1), .val (.int (p0 &&& (7 : Int32))), .val (.int (38 : Int32)), .val (.ref o_AND)] []))
          refine own_go (fun t k => XS.aload X16.here hx rfl (hb hby at_96) rfl rfl k) ?_
          show OwnG p.tables e below _ (T16.setTop (mkF m 98 #[.val (.int p0), .val (.int p1), .val (.int (p0 &&& (7 : Int32))), .val (.int (38 : Int32)), .val (.ref o_AND)] [(.ref o_AND)]))
          refine own_go (fun t k => XS.iloadN X16.here hx rfl (hb hby at_98) rfl  k) ?_
          show OwnG p.tables e below _ (T16.setTop (mkF m 99 #[.val (.int p0), .val (.int p1), .val (.int (p0 &&& (7 : Int32))), .val (.int (38 : Int32)), .val (.ref o_AND)] [(.int (38 : Int32)), (.ref o_AND)]))
          obtain ⟨_, _, ⟨T20, L20, k20, n20⟩, -, X20, ⟨Lc20, hQ20, l20, y20, z20⟩, st20⟩ := Jvm.LawKit.callS X16 hx (y := (⟨"com/example/vigilant_grammar/vigilantgrammar/ConnectorWrittenAsPinLaw", "expected", "(I)Lcom/example/vigilant_grammar/vigilantgrammar/ModelGroup$Connector;"⟩ : MethodName)) hown (mvT hZ (hw _ (List.mem_of_getElem? (i := 9) rfl))) (mvT hZ (hw _ (List.mem_of_getElem? (i := 10) rfl))) (mvT hZ (hw _ (List.mem_of_getElem? (i := 11) rfl))) (mvT hZ (hw _ (List.mem_of_getElem? (i := 12) rfl))) (by decide) (backOf (W := 1) (own_expected l Z a0 hw [] (38 : Int32) o_CONNECTORS o_SEQ o_OR o_AND kc_o_CONNECTORS h0 n0 Z0 O0 S_CONNECTORS S_SEQ E_o_SEQ F_o_SEQ_mark S_OR E_o_OR F_o_OR_mark S_AND E_o_AND F_o_AND_mark V_o_CONNECTORS) hZ (hw _ (List.mem_of_getElem? (i := 12) rfl)) (hw _ (List.mem_of_getElem? (i := 11) rfl)) (by decide) (by decide)) (g := (mkF m 99 #[.val (.int p0), .val (.int p1), .val (.int (p0 &&& (7 : Int32))), .val (.int (38 : Int32)), .val (.ref o_AND)] [(.int (38 : Int32)), (.ref o_AND)])) rfl (by rw [hml]; rfl) (argsL := [(.int (38 : Int32))]) (rest := [(.ref o_AND)]) (lenOf own_pd64 rfl) rfl (by show 2 * 0 + _ ≤ _; exact Nat.le_of_eq rfl) (hb hby at_99) (fun _ _ => ⟨rfl, e16, (by decide : 0 + 0 ≤ _), (by decide : 0 + 0 ≤ _)⟩)
          dsimp only [Pt.U, Pt.locs, Pt.cells, Pt.slots] at X20 l20 y20 z20 st20 hQ20
          subst l20 y20 z20
          obtain ⟨rfl, Nq20, eq20⟩ := hQ20
          have N20 := Fr.app N16 Nq20
          have e20 : T20.heap = h0 := eq20
          refine own_go (fun t k => st20 t k) ?_
          show OwnG p.tables e below _ (T20.setTop (mkF m 102 #[.val (.int p0), .val (.int p1), .val (.int (p0 &&& (7 : Int32))), .val (.int (38 : Int32)), .val (.ref o_AND)] [(own_val (38 : Int32) o_SEQ o_OR o_AND), (.ref o_AND)]))
          rw [al17]
          show OwnG p.tables e below _ (T20.setTop (mkF m 102 #[.val (.int p0), .val (.int p1), .val (.int (p0 &&& (7 : Int32))), .val (.int (38 : Int32)), .val (.ref o_AND)] [(.ref o_AND), (.ref o_AND)]))
          refine own_go (fun t k => Jvm.RoadKit.acmp (g := (mkF m 102 #[.val (.int p0), .val (.int p1), .val (.int (p0 &&& (7 : Int32))), .val (.int (38 : Int32)), .val (.ref o_AND)] [(.ref o_AND), (.ref o_AND)])) X20 hx rfl rfl rfl (pc0 := 102) (pc' := 105) (same := true) rfl (hb hby at_102) rfl (decide_eq_true rfl) (by decide) (by decide) k) ?_
          show OwnG p.tables e below _ (T20.setTop (mkF m 105 #[.val (.int p0), .val (.int p1), .val (.int (p0 &&& (7 : Int32))), .val (.int (38 : Int32)), .val (.ref o_AND)] []))
          refine own_go (fun t k => XS.iconst X20.here hx rfl (hb hby at_105) k) ?_
          show OwnG p.tables e below _ (T20.setTop (mkF m 106 #[.val (.int p0), .val (.int p1), .val (.int (p0 &&& (7 : Int32))), .val (.int (38 : Int32)), .val (.ref o_AND)] [(.int (1 : Int32))]))
          refine own_go (fun t k => XS.goto X20.here hx rfl (pc0 := 106) (pc' := 110) rfl (hb hby at_106) (by decide) (by decide) k) ?_
          show OwnG p.tables e below _ (T20.setTop (mkF m 110 #[.val (.int p0), .val (.int p1), .val (.int (p0 &&& (7 : Int32))), .val (.int (38 : Int32)), .val (.ref o_AND)] [(.int (1 : Int32))]))
          obtain ⟨fs, hr, hrun, hended, hW, hsame⟩ := X20.leave (v := some (.int (1 : Int32))) (fun h => by rw [Bd.returns] at h; cases h)
          refine ⟨_, _, retN X20 hx (t := .boolean) Bd.returns (by simp) (hb hby at_110) hr, hrun, hended, _, _, rfl, ?_, ⟨_, rfl⟩, hW, hsame.mono (by decide) (by decide)⟩
          show Q_own_law Z p0 p1 o_CONNECTORS o_SEQ o_OR o_AND kc_o_CONNECTORS h0 n0 _ T20.heap _
          rw [e20]
          exact ⟨rfl, N20⟩
        · rw [al17]
          show OwnG p.tables e below _ (T16.setTop (mkF m 94 #[.val (.int p0), .val (.int p1), .val (.int (p0 &&& (7 : Int32))), .val (.int (38 : Int32)), .unset] [.null]))
          refine own_go (fun t k => XS.astore X16.here hx rfl (hb hby at_94) rfl rfl (l' := #[.val (.int p0), .val (.int p1), .val (.int (p0 &&& (7 : Int32))), .val (.int (38 : Int32)), .val .null]) rfl k) ?_
          show OwnG p.tables e below _ (T16.setTop (mkF m 96 #[.val (.int p0), .val (.int p1), .val (.int (p0 &&& (7 : Int32))), .val (.int (38 : Int32)), .val .null] []))
          refine own_go (fun t k => XS.aload X16.here hx rfl (hb hby at_96) rfl rfl k) ?_
          show OwnG p.tables e below _ (T16.setTop (mkF m 98 #[.val (.int p0), .val (.int p1), .val (.int (p0 &&& (7 : Int32))), .val (.int (38 : Int32)), .val .null] [.null]))
          refine own_go (fun t k => XS.iloadN X16.here hx rfl (hb hby at_98) rfl  k) ?_
          show OwnG p.tables e below _ (T16.setTop (mkF m 99 #[.val (.int p0), .val (.int p1), .val (.int (p0 &&& (7 : Int32))), .val (.int (38 : Int32)), .val .null] [(.int (38 : Int32)), .null]))
          obtain ⟨_, _, ⟨T21, L21, k21, n21⟩, -, X21, ⟨Lc21, hQ21, l21, y21, z21⟩, st21⟩ := Jvm.LawKit.callS X16 hx (y := (⟨"com/example/vigilant_grammar/vigilantgrammar/ConnectorWrittenAsPinLaw", "expected", "(I)Lcom/example/vigilant_grammar/vigilantgrammar/ModelGroup$Connector;"⟩ : MethodName)) hown (mvT hZ (hw _ (List.mem_of_getElem? (i := 9) rfl))) (mvT hZ (hw _ (List.mem_of_getElem? (i := 10) rfl))) (mvT hZ (hw _ (List.mem_of_getElem? (i := 11) rfl))) (mvT hZ (hw _ (List.mem_of_getElem? (i := 12) rfl))) (by decide) (backOf (W := 1) (own_expected l Z a0 hw [] (38 : Int32) o_CONNECTORS o_SEQ o_OR o_AND kc_o_CONNECTORS h0 n0 Z0 O0 S_CONNECTORS S_SEQ E_o_SEQ F_o_SEQ_mark S_OR E_o_OR F_o_OR_mark S_AND E_o_AND F_o_AND_mark V_o_CONNECTORS) hZ (hw _ (List.mem_of_getElem? (i := 12) rfl)) (hw _ (List.mem_of_getElem? (i := 11) rfl)) (by decide) (by decide)) (g := (mkF m 99 #[.val (.int p0), .val (.int p1), .val (.int (p0 &&& (7 : Int32))), .val (.int (38 : Int32)), .val .null] [(.int (38 : Int32)), .null])) rfl (by rw [hml]; rfl) (argsL := [(.int (38 : Int32))]) (rest := [.null]) (lenOf own_pd64 rfl) rfl (by show 2 * 0 + _ ≤ _; exact Nat.le_of_eq rfl) (hb hby at_99) (fun _ _ => ⟨rfl, e16, (by decide : 0 + 0 ≤ _), (by decide : 0 + 0 ≤ _)⟩)
          dsimp only [Pt.U, Pt.locs, Pt.cells, Pt.slots] at X21 l21 y21 z21 st21 hQ21
          subst l21 y21 z21
          obtain ⟨rfl, Nq21, eq21⟩ := hQ21
          have N21 := Fr.app N16 Nq21
          have e21 : T21.heap = h0 := eq21
          refine own_go (fun t k => st21 t k) ?_
          show OwnG p.tables e below _ (T21.setTop (mkF m 102 #[.val (.int p0), .val (.int p1), .val (.int (p0 &&& (7 : Int32))), .val (.int (38 : Int32)), .val .null] [(own_val (38 : Int32) o_SEQ o_OR o_AND), .null]))
          rw [al17]
          show OwnG p.tables e below _ (T21.setTop (mkF m 102 #[.val (.int p0), .val (.int p1), .val (.int (p0 &&& (7 : Int32))), .val (.int (38 : Int32)), .val .null] [.null, .null]))
          refine own_go (fun t k => Jvm.RoadKit.acmp (g := (mkF m 102 #[.val (.int p0), .val (.int p1), .val (.int (p0 &&& (7 : Int32))), .val (.int (38 : Int32)), .val .null] [.null, .null])) X21 hx rfl rfl rfl (pc0 := 102) (pc' := 105) (same := true) rfl (hb hby at_102) rfl (decide_eq_true rfl) (by decide) (by decide) k) ?_
          show OwnG p.tables e below _ (T21.setTop (mkF m 105 #[.val (.int p0), .val (.int p1), .val (.int (p0 &&& (7 : Int32))), .val (.int (38 : Int32)), .val .null] []))
          refine own_go (fun t k => XS.iconst X21.here hx rfl (hb hby at_105) k) ?_
          show OwnG p.tables e below _ (T21.setTop (mkF m 106 #[.val (.int p0), .val (.int p1), .val (.int (p0 &&& (7 : Int32))), .val (.int (38 : Int32)), .val .null] [(.int (1 : Int32))]))
          refine own_go (fun t k => XS.goto X21.here hx rfl (pc0 := 106) (pc' := 110) rfl (hb hby at_106) (by decide) (by decide) k) ?_
          show OwnG p.tables e below _ (T21.setTop (mkF m 110 #[.val (.int p0), .val (.int p1), .val (.int (p0 &&& (7 : Int32))), .val (.int (38 : Int32)), .val .null] [(.int (1 : Int32))]))
          obtain ⟨fs, hr, hrun, hended, hW, hsame⟩ := X21.leave (v := some (.int (1 : Int32))) (fun h => by rw [Bd.returns] at h; cases h)
          refine ⟨_, _, retN X21 hx (t := .boolean) Bd.returns (by simp) (hb hby at_110) hr, hrun, hended, _, _, rfl, ?_, ⟨_, rfl⟩, hW, hsame.mono (by decide) (by decide)⟩
          show Q_own_law Z p0 p1 o_CONNECTORS o_SEQ o_OR o_AND kc_o_CONNECTORS h0 n0 _ T21.heap _
          rw [e21]
          exact ⟨rfl, N21⟩
      · refine own_go (fun t k => XS.icmpYes X0.here hx rfl (pc0 := 28) (pc' := 37) rfl (hb hby at_28) rfl (feq hc15).2 (by decide) (by decide) k) ?_
        show OwnG p.tables e below _ (s₁.setTop (mkF m 37 #[.val (.int p0), .val (.int p1), .val (.int (p0 &&& (7 : Int32))), .unset, .unset] []))
        refine own_go (fun t k => XS.iloadN X0.here hx rfl (hb hby at_37) rfl  k) ?_
        show OwnG p.tables e below _ (s₁.setTop (mkF m 38 #[.val (.int p0), .val (.int p1), .val (.int (p0 &&& (7 : Int32))), .unset, .unset] [(.int (p0 &&& (7 : Int32)))]))
        refine own_go (fun t k => XS.iconst X0.here hx rfl (hb hby at_38) k) ?_
        show OwnG p.tables e below _ (s₁.setTop (mkF m 39 #[.val (.int p0), .val (.int p1), .val (.int (p0 &&& (7 : Int32))), .unset, .unset] [(.int (3 : Int32)), (.int (p0 &&& (7 : Int32)))]))
        by_cases hc22 : (p0 &&& (7 : Int32)) = (3 : Int32)
        · refine own_go (fun t k => XS.icmpNo X0.here hx rfl (hb hby at_39) rfl (teq hc22).2 k) ?_
          show OwnG p.tables e below _ (s₁.setTop (mkF m 42 #[.val (.int p0), .val (.int p1), .val (.int (p0 &&& (7 : Int32))), .unset, .unset] []))
          refine own_go (fun t k => XS.iconst X0.here hx rfl (hb hby at_42) k) ?_
          show OwnG p.tables e below _ (s₁.setTop (mkF m 43 #[.val (.int p0), .val (.int p1), .val (.int (p0 &&& (7 : Int32))), .unset, .unset] [(.int (-1 : Int32))]))
          refine own_go (fun t k => XS.istoreN X0.here hx rfl (hb hby at_43) rfl (l' := #[.val (.int p0), .val (.int p1), .val (.int (p0 &&& (7 : Int32))), .val (.int (-1 : Int32)), .unset]) rfl k) ?_
          show OwnG p.tables e below _ (s₁.setTop (mkF m 44 #[.val (.int p0), .val (.int p1), .val (.int (p0 &&& (7 : Int32))), .val (.int (-1 : Int32)), .unset] []))
          refine own_go (fun t k => XS.goto X0.here hx rfl (pc0 := 44) (pc' := 90) rfl (hb hby at_44) (by decide) (by decide) k) ?_
          show OwnG p.tables e below _ (s₁.setTop (mkF m 90 #[.val (.int p0), .val (.int p1), .val (.int (p0 &&& (7 : Int32))), .val (.int (-1 : Int32)), .unset] []))
          refine own_go (fun t k => XS.iloadN X0.here hx rfl (hb hby at_90) rfl  k) ?_
          show OwnG p.tables e below _ (s₁.setTop (mkF m 91 #[.val (.int p0), .val (.int p1), .val (.int (p0 &&& (7 : Int32))), .val (.int (-1 : Int32)), .unset] [(.int (-1 : Int32))]))
          obtain ⟨_, _, ⟨T23, L23, k23, n23⟩, -, X23, ⟨Lc23, hQ23, l23, y23, z23⟩, st23⟩ := Jvm.LawKit.callS X0 hx (y := (⟨"com/example/vigilant_grammar/vigilantgrammar/ModelGroup$Connector", "writtenAs", "(I)Lcom/example/vigilant_grammar/vigilantgrammar/ModelGroup$Connector;"⟩ : MethodName)) hown (mvT hZ (hw _ (List.mem_of_getElem? (i := 0) rfl))) (mvT hZ (hw _ (List.mem_of_getElem? (i := 1) rfl))) (mvT hZ (hw _ (List.mem_of_getElem? (i := 2) rfl))) (mvT hZ (hw _ (List.mem_of_getElem? (i := 3) rfl))) (by decide) (backOf (W := 0) (own_written l Z a0 hw [] (-1 : Int32) o_CONNECTORS o_SEQ o_OR o_AND kc_o_CONNECTORS h0 n0 Z0 O0 S_CONNECTORS S_SEQ E_o_SEQ F_o_SEQ_mark S_OR E_o_OR F_o_OR_mark S_AND E_o_AND F_o_AND_mark V_o_CONNECTORS) hZ (hw _ (List.mem_of_getElem? (i := 3) rfl)) (hw _ (List.mem_of_getElem? (i := 2) rfl)) (by decide) (by decide)) (g := (mkF m 91 #[.val (.int p0), .val (.int p1), .val (.int (p0 &&& (7 : Int32))), .val (.int (-1 : Int32)), .unset] [(.int (-1 : Int32))])) rfl (by rw [hml]; rfl) (argsL := [(.int (-1 : Int32))]) (rest := []) (lenOf own_pd64 rfl) rfl (by show 2 * 0 + _ ≤ _; exact Nat.le_of_eq rfl) (hb hby at_91) (fun _ _ => ⟨rfl, e0, (by decide : 0 + 0 ≤ _), (by decide : 0 + 0 ≤ _)⟩)
          dsimp only [Pt.U, Pt.locs, Pt.cells, Pt.slots] at X23 l23 y23 z23 st23 hQ23
          subst l23 y23 z23
          obtain ⟨rfl, Nq23, eq23⟩ := hQ23
          have N23 := Fr.app N0 Nq23
          have e23 : T23.heap = h0 := eq23
          refine own_go (fun t k => st23 t k) ?_
          show OwnG p.tables e below _ (T23.setTop (mkF m 94 #[.val (.int p0), .val (.int p1), .val (.int (p0 &&& (7 : Int32))), .val (.int (-1 : Int32)), .unset] [(own_val (-1 : Int32) o_SEQ o_OR o_AND)]))
          rcases own_val_or (-1 : Int32) o_SEQ o_OR o_AND with al24 | al24 | al24 | al24
          · rw [al24]
            show OwnG p.tables e below _ (T23.setTop (mkF m 94 #[.val (.int p0), .val (.int p1), .val (.int (p0 &&& (7 : Int32))), .val (.int (-1 : Int32)), .unset] [(.ref o_SEQ)]))
            refine own_go (fun t k => XS.astore X23.here hx rfl (hb hby at_94) rfl rfl (l' := #[.val (.int p0), .val (.int p1), .val (.int (p0 &&& (7 : Int32))), .val (.int (-1 : Int32)), .val (.ref o_SEQ)]) rfl k) ?_
            show OwnG p.tables e below _ (T23.setTop (mkF m 96 #[.val (.int p0), .val (.int p1), .val (.int (p0 &&& (7 : Int32))), .val (.int (-1 : Int32)), .val (.ref o_SEQ)] []))
            refine own_go (fun t k => XS.aload X23.here hx rfl (hb hby at_96) rfl rfl k) ?_
            show OwnG p.tables e below _ (T23.setTop (mkF m 98 #[.val (.int p0), .val (.int p1), .val (.int (p0 &&& (7 : Int32))), .val (.int (-1 : Int32)), .val (.ref o_SEQ)] [(.ref o_SEQ)]))
            refine own_go (fun t k => XS.iloadN X23.here hx rfl (hb hby at_98) rfl  k) ?_
            show OwnG p.tables e below _ (T23.setTop (mkF m 99 #[.val (.int p0), .val (.int p1), .val (.int (p0 &&& (7 : Int32))), .val (.int (-1 : Int32)), .val (.ref o_SEQ)] [(.int (-1 : Int32)), (.ref o_SEQ)]))
            obtain ⟨_, _, ⟨T25, L25, k25, n25⟩, -, X25, ⟨Lc25, hQ25, l25, y25, z25⟩, st25⟩ := Jvm.LawKit.callS X23 hx (y := (⟨"com/example/vigilant_grammar/vigilantgrammar/ConnectorWrittenAsPinLaw", "expected", "(I)Lcom/example/vigilant_grammar/vigilantgrammar/ModelGroup$Connector;"⟩ : MethodName)) hown (mvT hZ (hw _ (List.mem_of_getElem? (i := 9) rfl))) (mvT hZ (hw _ (List.mem_of_getElem? (i := 10) rfl))) (mvT hZ (hw _ (List.mem_of_getElem? (i := 11) rfl))) (mvT hZ (hw _ (List.mem_of_getElem? (i := 12) rfl))) (by decide) (backOf (W := 1) (own_expected l Z a0 hw [] (-1 : Int32) o_CONNECTORS o_SEQ o_OR o_AND kc_o_CONNECTORS h0 n0 Z0 O0 S_CONNECTORS S_SEQ E_o_SEQ F_o_SEQ_mark S_OR E_o_OR F_o_OR_mark S_AND E_o_AND F_o_AND_mark V_o_CONNECTORS) hZ (hw _ (List.mem_of_getElem? (i := 12) rfl)) (hw _ (List.mem_of_getElem? (i := 11) rfl)) (by decide) (by decide)) (g := (mkF m 99 #[.val (.int p0), .val (.int p1), .val (.int (p0 &&& (7 : Int32))), .val (.int (-1 : Int32)), .val (.ref o_SEQ)] [(.int (-1 : Int32)), (.ref o_SEQ)])) rfl (by rw [hml]; rfl) (argsL := [(.int (-1 : Int32))]) (rest := [(.ref o_SEQ)]) (lenOf own_pd64 rfl) rfl (by show 2 * 0 + _ ≤ _; exact Nat.le_of_eq rfl) (hb hby at_99) (fun _ _ => ⟨rfl, e23, (by decide : 0 + 0 ≤ _), (by decide : 0 + 0 ≤ _)⟩)
            dsimp only [Pt.U, Pt.locs, Pt.cells, Pt.slots] at X25 l25 y25 z25 st25 hQ25
            subst l25 y25 z25
            obtain ⟨rfl, Nq25, eq25⟩ := hQ25
            have N25 := Fr.app N23 Nq25
            have e25 : T25.heap = h0 := eq25
            refine own_go (fun t k => st25 t k) ?_
            show OwnG p.tables e below _ (T25.setTop (mkF m 102 #[.val (.int p0), .val (.int p1), .val (.int (p0 &&& (7 : Int32))), .val (.int (-1 : Int32)), .val (.ref o_SEQ)] [(own_val (-1 : Int32) o_SEQ o_OR o_AND), (.ref o_SEQ)]))
            rw [al24]
            show OwnG p.tables e below _ (T25.setTop (mkF m 102 #[.val (.int p0), .val (.int p1), .val (.int (p0 &&& (7 : Int32))), .val (.int (-1 : Int32)), .val (.ref o_SEQ)] [(.ref o_SEQ), (.ref o_SEQ)]))
            refine own_go (fun t k => Jvm.RoadKit.acmp (g := (mkF m 102 #[.val (.int p0), .val (.int p1), .val (.int (p0 &&& (7 : Int32))), .val (.int (-1 : Int32)), .val (.ref o_SEQ)] [(.ref o_SEQ), (.ref o_SEQ)])) X25 hx rfl rfl rfl (pc0 := 102) (pc' := 105) (same := true) rfl (hb hby at_102) rfl (decide_eq_true rfl) (by decide) (by decide) k) ?_
            show OwnG p.tables e below _ (T25.setTop (mkF m 105 #[.val (.int p0), .val (.int p1), .val (.int (p0 &&& (7 : Int32))), .val (.int (-1 : Int32)), .val (.ref o_SEQ)] []))
            refine own_go (fun t k => XS.iconst X25.here hx rfl (hb hby at_105) k) ?_
            show OwnG p.tables e below _ (T25.setTop (mkF m 106 #[.val (.int p0), .val (.int p1), .val (.int (p0 &&& (7 : Int32))), .val (.int (-1 : Int32)), .val (.ref o_SEQ)] [(.int (1 : Int32))]))
            refine own_go (fun t k => XS.goto X25.here hx rfl (pc0 := 106) (pc' := 110) rfl (hb hby at_106) (by decide) (by decide) k) ?_
            show OwnG p.tables e below _ (T25.setTop (mkF m 110 #[.val (.int p0), .val (.int p1), .val (.int (p0 &&& (7 : Int32))), .val (.int (-1 : Int32)), .val (.ref o_SEQ)] [(.int (1 : Int32))]))
            obtain ⟨fs, hr, hrun, hended, hW, hsame⟩ := X25.leave (v := some (.int (1 : Int32))) (fun h => by rw [Bd.returns] at h; cases h)
            refine ⟨_, _, retN X25 hx (t := .boolean) Bd.returns (by simp) (hb hby at_110) hr, hrun, hended, _, _, rfl, ?_, ⟨_, rfl⟩, hW, hsame.mono (by decide) (by decide)⟩
            show Q_own_law Z p0 p1 o_CONNECTORS o_SEQ o_OR o_AND kc_o_CONNECTORS h0 n0 _ T25.heap _
            rw [e25]
            exact ⟨rfl, N25⟩
          · rw [al24]
            show OwnG p.tables e below _ (T23.setTop (mkF m 94 #[.val (.int p0), .val (.int p1), .val (.int (p0 &&& (7 : Int32))), .val (.int (-1 : Int32)), .unset] [(.ref o_OR)]))
            refine own_go (fun t k => XS.astore X23.here hx rfl (hb hby at_94) rfl rfl (l' := #[.val (.int p0), .val (.int p1), .val (.int (p0 &&& (7 : Int32))), .val (.int (-1 : Int32)), .val (.ref o_OR)]) rfl k) ?_
            show OwnG p.tables e below _ (T23.setTop (mkF m 96 #[.val (.int p0), .val (.int p1), .val (.int (p0 &&& (7 : Int32))), .val (.int (-1 : Int32)), .val (.ref o_OR)] []))
            refine own_go (fun t k => XS.aload X23.here hx rfl (hb hby at_96) rfl rfl k) ?_
            show OwnG p.tables e below _ (T23.setTop (mkF m 98 #[.val (.int p0), .val (.int p1), .val (.int (p0 &&& (7 : Int32))), .val (.int (-1 : Int32)), .val (.ref o_OR)] [(.ref o_OR)]))
            refine own_go (fun t k => XS.iloadN X23.here hx rfl (hb hby at_98) rfl  k) ?_
            show OwnG p.tables e below _ (T23.setTop (mkF m 99 #[.val (.int p0), .val (.int p1), .val (.int (p0 &&& (7 : Int32))), .val (.int (-1 : Int32)), .val (.ref o_OR)] [(.int (-1 : Int32)), (.ref o_OR)]))
            obtain ⟨_, _, ⟨T26, L26, k26, n26⟩, -, X26, ⟨Lc26, hQ26, l26, y26, z26⟩, st26⟩ := Jvm.LawKit.callS X23 hx (y := (⟨"com/example/vigilant_grammar/vigilantgrammar/ConnectorWrittenAsPinLaw", "expected", "(I)Lcom/example/vigilant_grammar/vigilantgrammar/ModelGroup$Connector;"⟩ : MethodName)) hown (mvT hZ (hw _ (List.mem_of_getElem? (i := 9) rfl))) (mvT hZ (hw _ (List.mem_of_getElem? (i := 10) rfl))) (mvT hZ (hw _ (List.mem_of_getElem? (i := 11) rfl))) (mvT hZ (hw _ (List.mem_of_getElem? (i := 12) rfl))) (by decide) (backOf (W := 1) (own_expected l Z a0 hw [] (-1 : Int32) o_CONNECTORS o_SEQ o_OR o_AND kc_o_CONNECTORS h0 n0 Z0 O0 S_CONNECTORS S_SEQ E_o_SEQ F_o_SEQ_mark S_OR E_o_OR F_o_OR_mark S_AND E_o_AND F_o_AND_mark V_o_CONNECTORS) hZ (hw _ (List.mem_of_getElem? (i := 12) rfl)) (hw _ (List.mem_of_getElem? (i := 11) rfl)) (by decide) (by decide)) (g := (mkF m 99 #[.val (.int p0), .val (.int p1), .val (.int (p0 &&& (7 : Int32))), .val (.int (-1 : Int32)), .val (.ref o_OR)] [(.int (-1 : Int32)), (.ref o_OR)])) rfl (by rw [hml]; rfl) (argsL := [(.int (-1 : Int32))]) (rest := [(.ref o_OR)]) (lenOf own_pd64 rfl) rfl (by show 2 * 0 + _ ≤ _; exact Nat.le_of_eq rfl) (hb hby at_99) (fun _ _ => ⟨rfl, e23, (by decide : 0 + 0 ≤ _), (by decide : 0 + 0 ≤ _)⟩)
            dsimp only [Pt.U, Pt.locs, Pt.cells, Pt.slots] at X26 l26 y26 z26 st26 hQ26
            subst l26 y26 z26
            obtain ⟨rfl, Nq26, eq26⟩ := hQ26
            have N26 := Fr.app N23 Nq26
            have e26 : T26.heap = h0 := eq26
            refine own_go (fun t k => st26 t k) ?_
            show OwnG p.tables e below _ (T26.setTop (mkF m 102 #[.val (.int p0), .val (.int p1), .val (.int (p0 &&& (7 : Int32))), .val (.int (-1 : Int32)), .val (.ref o_OR)] [(own_val (-1 : Int32) o_SEQ o_OR o_AND), (.ref o_OR)]))
            rw [al24]
            show OwnG p.tables e below _ (T26.setTop (mkF m 102 #[.val (.int p0), .val (.int p1), .val (.int (p0 &&& (7 : Int32))), .val (.int (-1 : Int32)), .val (.ref o_OR)] [(.ref o_OR), (.ref o_OR)]))
            refine own_go (fun t k => Jvm.RoadKit.acmp (g := (mkF m 102 #[.val (.int p0), .val (.int p1), .val (.int (p0 &&& (7 : Int32))), .val (.int (-1 : Int32)), .val (.ref o_OR)] [(.ref o_OR), (.ref o_OR)])) X26 hx rfl rfl rfl (pc0 := 102) (pc' := 105) (same := true) rfl (hb hby at_102) rfl (decide_eq_true rfl) (by decide) (by decide) k) ?_
            show OwnG p.tables e below _ (T26.setTop (mkF m 105 #[.val (.int p0), .val (.int p1), .val (.int (p0 &&& (7 : Int32))), .val (.int (-1 : Int32)), .val (.ref o_OR)] []))
            refine own_go (fun t k => XS.iconst X26.here hx rfl (hb hby at_105) k) ?_
            show OwnG p.tables e below _ (T26.setTop (mkF m 106 #[.val (.int p0), .val (.int p1), .val (.int (p0 &&& (7 : Int32))), .val (.int (-1 : Int32)), .val (.ref o_OR)] [(.int (1 : Int32))]))
            refine own_go (fun t k => XS.goto X26.here hx rfl (pc0 := 106) (pc' := 110) rfl (hb hby at_106) (by decide) (by decide) k) ?_
            show OwnG p.tables e below _ (T26.setTop (mkF m 110 #[.val (.int p0), .val (.int p1), .val (.int (p0 &&& (7 : Int32))), .val (.int (-1 : Int32)), .val (.ref o_OR)] [(.int (1 : Int32))]))
            obtain ⟨fs, hr, hrun, hended, hW, hsame⟩ := X26.leave (v := some (.int (1 : Int32))) (fun h => by rw [Bd.returns] at h; cases h)
            refine ⟨_, _, retN X26 hx (t := .boolean) Bd.returns (by simp) (hb hby at_110) hr, hrun, hended, _, _, rfl, ?_, ⟨_, rfl⟩, hW, hsame.mono (by decide) (by decide)⟩
            show Q_own_law Z p0 p1 o_CONNECTORS o_SEQ o_OR o_AND kc_o_CONNECTORS h0 n0 _ T26.heap _
            rw [e26]
            exact ⟨rfl, N26⟩
          · rw [al24]
            show OwnG p.tables e below _ (T23.setTop (mkF m 94 #[.val (.int p0), .val (.int p1), .val (.int (p0 &&& (7 : Int32))), .val (.int (-1 : Int32)), .unset] [(.ref o_AND)]))
            refine own_go (fun t k => XS.astore X23.here hx rfl (hb hby at_94) rfl rfl (l' := #[.val (.int p0), .val (.int p1), .val (.int (p0 &&& (7 : Int32))), .val (.int (-1 : Int32)), .val (.ref o_AND)]) rfl k) ?_
            show OwnG p.tables e below _ (T23.setTop (mkF m 96 #[.val (.int p0), .val (.int p1), .val (.int (p0 &&& (7 : Int32))), .val (.int (-1 : Int32)), .val (.ref o_AND)] []))
            refine own_go (fun t k => XS.aload X23.here hx rfl (hb hby at_96) rfl rfl k) ?_
            show OwnG p.tables e below _ (T23.setTop (mkF m 98 #[.val (.int p0), .val (.int p1), .val (.int (p0 &&& (7 : Int32))), .val (.int (-1 : Int32)), .val (.ref o_AND)] [(.ref o_AND)]))
            refine own_go (fun t k => XS.iloadN X23.here hx rfl (hb hby at_98) rfl  k) ?_
            show OwnG p.tables e below _ (T23.setTop (mkF m 99 #[.val (.int p0), .val (.int p1), .val (.int (p0 &&& (7 : Int32))), .val (.int (-1 : Int32)), .val (.ref o_AND)] [(.int (-1 : Int32)), (.ref o_AND)]))
            obtain ⟨_, _, ⟨T27, L27, k27, n27⟩, -, X27, ⟨Lc27, hQ27, l27, y27, z27⟩, st27⟩ := Jvm.LawKit.callS X23 hx (y := (⟨"com/example/vigilant_grammar/vigilantgrammar/ConnectorWrittenAsPinLaw", "expected", "(I)Lcom/example/vigilant_grammar/vigilantgrammar/ModelGroup$Connector;"⟩ : MethodName)) hown (mvT hZ (hw _ (List.mem_of_getElem? (i := 9) rfl))) (mvT hZ (hw _ (List.mem_of_getElem? (i := 10) rfl))) (mvT hZ (hw _ (List.mem_of_getElem? (i := 11) rfl))) (mvT hZ (hw _ (List.mem_of_getElem? (i := 12) rfl))) (by decide) (backOf (W := 1) (own_expected l Z a0 hw [] (-1 : Int32) o_CONNECTORS o_SEQ o_OR o_AND kc_o_CONNECTORS h0 n0 Z0 O0 S_CONNECTORS S_SEQ E_o_SEQ F_o_SEQ_mark S_OR E_o_OR F_o_OR_mark S_AND E_o_AND F_o_AND_mark V_o_CONNECTORS) hZ (hw _ (List.mem_of_getElem? (i := 12) rfl)) (hw _ (List.mem_of_getElem? (i := 11) rfl)) (by decide) (by decide)) (g := (mkF m 99 #[.val (.int p0), .val (.int p1), .val (.int (p0 &&& (7 : Int32))), .val (.int (-1 : Int32)), .val (.ref o_AND)] [(.int (-1 : Int32)), (.ref o_AND)])) rfl (by rw [hml]; rfl) (argsL := [(.int (-1 : Int32))]) (rest := [(.ref o_AND)]) (lenOf own_pd64 rfl) rfl (by show 2 * 0 + _ ≤ _; exact Nat.le_of_eq rfl) (hb hby at_99) (fun _ _ => ⟨rfl, e23, (by decide : 0 + 0 ≤ _), (by decide : 0 + 0 ≤ _)⟩)
            dsimp only [Pt.U, Pt.locs, Pt.cells, Pt.slots] at X27 l27 y27 z27 st27 hQ27
            subst l27 y27 z27
            obtain ⟨rfl, Nq27, eq27⟩ := hQ27
            have N27 := Fr.app N23 Nq27
            have e27 : T27.heap = h0 := eq27
            refine own_go (fun t k => st27 t k) ?_
            show OwnG p.tables e below _ (T27.setTop (mkF m 102 #[.val (.int p0), .val (.int p1), .val (.int (p0 &&& (7 : Int32))), .val (.int (-1 : Int32)), .val (.ref o_AND)] [(own_val (-1 : Int32) o_SEQ o_OR o_AND), (.ref o_AND)]))
            rw [al24]
            show OwnG p.tables e below _ (T27.setTop (mkF m 102 #[.val (.int p0), .val (.int p1), .val (.int (p0 &&& (7 : Int32))), .val (.int (-1 : Int32)), .val (.ref o_AND)] [(.ref o_AND), (.ref o_AND)]))
            refine own_go (fun t k => Jvm.RoadKit.acmp (g := (mkF m 102 #[.val (.int p0), .val (.int p1), .val (.int (p0 &&& (7 : Int32))), .val (.int (-1 : Int32)), .val (.ref o_AND)] [(.ref o_AND), (.ref o_AND)])) X27 hx rfl rfl rfl (pc0 := 102) (pc' := 105) (same := true) rfl (hb hby at_102) rfl (decide_eq_true rfl) (by decide) (by decide) k) ?_
            show OwnG p.tables e below _ (T27.setTop (mkF m 105 #[.val (.int p0), .val (.int p1), .val (.int (p0 &&& (7 : Int32))), .val (.int (-1 : Int32)), .val (.ref o_AND)] []))
            refine own_go (fun t k => XS.iconst X27.here hx rfl (hb hby at_105) k) ?_
            show OwnG p.tables e below _ (T27.setTop (mkF m 106 #[.val (.int p0), .val (.int p1), .val (.int (p0 &&& (7 : Int32))), .val (.int (-1 : Int32)), .val (.ref o_AND)] [(.int (1 : Int32))]))
            refine own_go (fun t k => XS.goto X27.here hx rfl (pc0 := 106) (pc' := 110) rfl (hb hby at_106) (by decide) (by decide) k) ?_
            show OwnG p.tables e below _ (T27.setTop (mkF m 110 #[.val (.int p0), .val (.int p1), .val (.int (p0 &&& (7 : Int32))), .val (.int (-1 : Int32)), .val (.ref o_AND)] [(.int (1 : Int32))]))
            obtain ⟨fs, hr, hrun, hended, hW, hsame⟩ := X27.leave (v := some (.int (1 : Int32))) (fun h => by rw [Bd.returns] at h; cases h)
            refine ⟨_, _, retN X27 hx (t := .boolean) Bd.returns (by simp) (hb hby at_110) hr, hrun, hended, _, _, rfl, ?_, ⟨_, rfl⟩, hW, hsame.mono (by decide) (by decide)⟩
            show Q_own_law Z p0 p1 o_CONNECTORS o_SEQ o_OR o_AND kc_o_CONNECTORS h0 n0 _ T27.heap _
            rw [e27]
            exact ⟨rfl, N27⟩
          · rw [al24]
            show OwnG p.tables e below _ (T23.setTop (mkF m 94 #[.val (.int p0), .val (.int p1), .val (.int (p0 &&& (7 : Int32))), .val (.int (-1 : Int32)), .unset] [.null]))
            refine own_go (fun t k => XS.astore X23.here hx rfl (hb hby at_94) rfl rfl (l' := #[.val (.int p0), .val (.int p1), .val (.int (p0 &&& (7 : Int32))), .val (.int (-1 : Int32)), .val .null]) rfl k) ?_
            show OwnG p.tables e below _ (T23.setTop (mkF m 96 #[.val (.int p0), .val (.int p1), .val (.int (p0 &&& (7 : Int32))), .val (.int (-1 : Int32)), .val .null] []))
            refine own_go (fun t k => XS.aload X23.here hx rfl (hb hby at_96) rfl rfl k) ?_
            show OwnG p.tables e below _ (T23.setTop (mkF m 98 #[.val (.int p0), .val (.int p1), .val (.int (p0 &&& (7 : Int32))), .val (.int (-1 : Int32)), .val .null] [.null]))
            refine own_go (fun t k => XS.iloadN X23.here hx rfl (hb hby at_98) rfl  k) ?_
            show OwnG p.tables e below _ (T23.setTop (mkF m 99 #[.val (.int p0), .val (.int p1), .val (.int (p0 &&& (7 : Int32))), .val (.int (-1 : Int32)), .val .null] [(.int (-1 : Int32)), .null]))
            obtain ⟨_, _, ⟨T28, L28, k28, n28⟩, -, X28, ⟨Lc28, hQ28, l28, y28, z28⟩, st28⟩ := Jvm.LawKit.callS X23 hx (y := (⟨"com/example/vigilant_grammar/vigilantgrammar/ConnectorWrittenAsPinLaw", "expected", "(I)Lcom/example/vigilant_grammar/vigilantgrammar/ModelGroup$Connector;"⟩ : MethodName)) hown (mvT hZ (hw _ (List.mem_of_getElem? (i := 9) rfl))) (mvT hZ (hw _ (List.mem_of_getElem? (i := 10) rfl))) (mvT hZ (hw _ (List.mem_of_getElem? (i := 11) rfl))) (mvT hZ (hw _ (List.mem_of_getElem? (i := 12) rfl))) (by decide) (backOf (W := 1) (own_expected l Z a0 hw [] (-1 : Int32) o_CONNECTORS o_SEQ o_OR o_AND kc_o_CONNECTORS h0 n0 Z0 O0 S_CONNECTORS S_SEQ E_o_SEQ F_o_SEQ_mark S_OR E_o_OR F_o_OR_mark S_AND E_o_AND F_o_AND_mark V_o_CONNECTORS) hZ (hw _ (List.mem_of_getElem? (i := 12) rfl)) (hw _ (List.mem_of_getElem? (i := 11) rfl)) (by decide) (by decide)) (g := (mkF m 99 #[.val (.int p0), .val (.int p1), .val (.int (p0 &&& (7 : Int32))), .val (.int (-1 : Int32)), .val .null] [(.int (-1 : Int32)), .null])) rfl (by rw [hml]; rfl) (argsL := [(.int (-1 : Int32))]) (rest := [.null]) (lenOf own_pd64 rfl) rfl (by show 2 * 0 + _ ≤ _; exact Nat.le_of_eq rfl) (hb hby at_99) (fun _ _ => ⟨rfl, e23, (by decide : 0 + 0 ≤ _), (by decide : 0 + 0 ≤ _)⟩)
            dsimp only [Pt.U, Pt.locs, Pt.cells, Pt.slots] at X28 l28 y28 z28 st28 hQ28
            subst l28 y28 z28
            obtain ⟨rfl, Nq28, eq28⟩ := hQ28
            have N28 := Fr.app N23 Nq28
            have e28 : T28.heap = h0 := eq28
            refine own_go (fun t k => st28 t k) ?_
            show OwnG p.tables e below _ (T28.setTop (mkF m 102 #[.val (.int p0), .val (.int p1), .val (.int (p0 &&& (7 : Int32))), .val (.int (-1 : Int32)), .val .null] [(own_val (-1 : Int32) o_SEQ o_OR o_AND), .null]))
            rw [al24]
            show OwnG p.tables e below _ (T28.setTop (mkF m 102 #[.val (.int p0), .val (.int p1), .val (.int (p0 &&& (7 : Int32))), .val (.int (-1 : Int32)), .val .null] [.null, .null]))
            refine own_go (fun t k => Jvm.RoadKit.acmp (g := (mkF m 102 #[.val (.int p0), .val (.int p1), .val (.int (p0 &&& (7 : Int32))), .val (.int (-1 : Int32)), .val .null] [.null, .null])) X28 hx rfl rfl rfl (pc0 := 102) (pc' := 105) (same := true) rfl (hb hby at_102) rfl (decide_eq_true rfl) (by decide) (by decide) k) ?_
            show OwnG p.tables e below _ (T28.setTop (mkF m 105 #[.val (.int p0), .val (.int p1), .val (.int (p0 &&& (7 : Int32))), .val (.int (-1 : Int32)), .val .null] []))
            refine own_go (fun t k => XS.iconst X28.here hx rfl (hb hby at_105) k) ?_
            show OwnG p.tables e below _ (T28.setTop (mkF m 106 #[.val (.int p0), .val (.int p1), .val (.int (p0 &&& (7 : Int32))), .val (.int (-1 : Int32)), .val .null] [(.int (1 : Int32))]))
            refine own_go (fun t k => XS.goto X28.here hx rfl (pc0 := 106) (pc' := 110) rfl (hb hby at_106) (by decide) (by decide) k) ?_
            show OwnG p.tables e below _ (T28.setTop (mkF m 110 #[.val (.int p0), .val (.int p1), .val (.int (p0 &&& (7 : Int32))), .val (.int (-1 : Int32)), .val .null] [(.int (1 : Int32))]))
            obtain ⟨fs, hr, hrun, hended, hW, hsame⟩ := X28.leave (v := some (.int (1 : Int32))) (fun h => by rw [Bd.returns] at h; cases h)
            refine ⟨_, _, retN X28 hx (t := .boolean) Bd.returns (by simp) (hb hby at_110) hr, hrun, hended, _, _, rfl, ?_, ⟨_, rfl⟩, hW, hsame.mono (by decide) (by decide)⟩
            show Q_own_law Z p0 p1 o_CONNECTORS o_SEQ o_OR o_AND kc_o_CONNECTORS h0 n0 _ T28.heap _
            rw [e28]
            exact ⟨rfl, N28⟩
        · refine own_go (fun t k => XS.icmpYes X0.here hx rfl (pc0 := 39) (pc' := 47) rfl (hb hby at_39) rfl (feq hc22).2 (by decide) (by decide) k) ?_
          show OwnG p.tables e below _ (s₁.setTop (mkF m 47 #[.val (.int p0), .val (.int p1), .val (.int (p0 &&& (7 : Int32))), .unset, .unset] []))
          refine own_go (fun t k => XS.iloadN X0.here hx rfl (hb hby at_47) rfl  k) ?_
          show OwnG p.tables e below _ (s₁.setTop (mkF m 48 #[.val (.int p0), .val (.int p1), .val (.int (p0 &&& (7 : Int32))), .unset, .unset] [(.int (p0 &&& (7 : Int32)))]))
          refine own_go (fun t k => XS.iconst X0.here hx rfl (hb hby at_48) k) ?_
          show OwnG p.tables e below _ (s₁.setTop (mkF m 49 #[.val (.int p0), .val (.int p1), .val (.int (p0 &&& (7 : Int32))), .unset, .unset] [(.int (4 : Int32)), (.int (p0 &&& (7 : Int32)))]))
          by_cases hc29 : (p0 &&& (7 : Int32)) = (4 : Int32)
          · refine own_go (fun t k => XS.icmpNo X0.here hx rfl (hb hby at_49) rfl (teq hc29).2 k) ?_
            show OwnG p.tables e below _ (s₁.setTop (mkF m 52 #[.val (.int p0), .val (.int p1), .val (.int (p0 &&& (7 : Int32))), .unset, .unset] []))
            refine own_go (fun t k => XS.iloadN X0.here hx rfl (hb hby at_52) rfl  k) ?_
            show OwnG p.tables e below _ (s₁.setTop (mkF m 53 #[.val (.int p0), .val (.int p1), .val (.int (p0 &&& (7 : Int32))), .unset, .unset] [(.int p1)]))
            obtain ⟨_, _, ⟨T30, L30, k30, n30⟩, -, X30, ⟨Lc30, hQ30, l30, y30, z30⟩, st30⟩ := Jvm.LawKit.callS X0 hx (y := (⟨"com/example/vigilant_grammar/vigilantgrammar/ConnectorWrittenAsPinLaw", "mark", "(I)I"⟩ : MethodName)) hown (mvT hZ (hw _ (List.mem_of_getElem? (i := 16) rfl))) (mvT hZ (hw _ (List.mem_of_getElem? (i := 17) rfl))) (mvT hZ (hw _ (List.mem_of_getElem? (i := 11) rfl))) (mvT hZ (hw _ (List.mem_of_getElem? (i := 18) rfl))) (by decide) (backOf (W := 0) (own_mark l Z a0 hw [] p1 h0 n0 Z0) hZ (hw _ (List.mem_of_getElem? (i := 18) rfl)) (hw _ (List.mem_of_getElem? (i := 11) rfl)) (by decide) (by decide)) (g := (mkF m 53 #[.val (.int p0), .val (.int p1), .val (.int (p0 &&& (7 : Int32))), .unset, .unset] [(.int p1)])) rfl (by rw [hml]; rfl) (argsL := [(.int p1)]) (rest := []) (lenOf own_pd65 rfl) rfl (by show 2 * 0 + _ ≤ _; exact Nat.le_of_eq rfl) (hb hby at_53) (fun _ _ => ⟨rfl, e0, (by decide : 0 + 0 ≤ _), (by decide : 0 + 0 ≤ _)⟩)
            dsimp only [Pt.U, Pt.locs, Pt.cells, Pt.slots] at X30 l30 y30 z30 st30 hQ30
            subst l30 y30 z30
            obtain ⟨zm_30, rfl, Nq30, eq30⟩ := hQ30
            have N30 := Fr.app N0 Nq30
            have e30 : T30.heap = h0 := eq30
            refine own_go (fun t k => st30 t k) ?_
            show OwnG p.tables e below _ (T30.setTop (mkF m 56 #[.val (.int p0), .val (.int p1), .val (.int (p0 &&& (7 : Int32))), .unset, .unset] [(.int zm_30)]))
            refine own_go (fun t k => XS.iloadN X30.here hx rfl (hb hby at_56) rfl  k) ?_
            show OwnG p.tables e below _ (T30.setTop (mkF m 57 #[.val (.int p0), .val (.int p1), .val (.int (p0 &&& (7 : Int32))), .unset, .unset] [(.int p1), (.int zm_30)]))
            refine own_go (fun t k => XS.bipush X30.here hx rfl (hb hby at_57) k) ?_
            show OwnG p.tables e below _ (T30.setTop (mkF m 59 #[.val (.int p0), .val (.int p1), .val (.int (p0 &&& (7 : Int32))), .unset, .unset] [(.int (8 : Int32)), (.int p1), (.int zm_30)]))
            refine own_go (fun t k => XS.iushr X30.here hx rfl (hb hby at_59) rfl k) ?_
            show OwnG p.tables e below _ (T30.setTop (mkF m 60 #[.val (.int p0), .val (.int p1), .val (.int (p0 &&& (7 : Int32))), .unset, .unset] [(.int ((p1.toUInt32 >>> ((8 : Int32) &&& 31).toUInt32).toInt32)), (.int zm_30)]))
            refine own_go (fun t k => XS.bipush X30.here hx rfl (hb hby at_60) k) ?_
            show OwnG p.tables e below _ (T30.setTop (mkF m 62 #[.val (.int p0), .val (.int p1), .val (.int (p0 &&& (7 : Int32))), .unset, .unset] [(.int (7 : Int32)), (.int ((p1.toUInt32 >>> ((8 : Int32) &&& 31).toUInt32).toInt32)), (.int zm_30)]))
            refine own_go (fun t k => XS.iand X30.here hx rfl (hb hby at_62) rfl k) ?_
            show OwnG p.tables e below _ (T30.setTop (mkF m 63 #[.val (.int p0), .val (.int p1), .val (.int (p0 &&& (7 : Int32))), .unset, .unset] [(.int (((p1.toUInt32 >>> ((8 : Int32) &&& 31).toUInt32).toInt32) &&& (7 : Int32))), (.int zm_30)]))
            refine own_go (fun t k => XS.iconst X30.here hx rfl (hb hby at_63) k) ?_
            show OwnG p.tables e below _ (T30.setTop (mkF m 64 #[.val (.int p0), .val (.int p1), .val (.int (p0 &&& (7 : Int32))), .unset, .unset] [(.int (3 : Int32)), (.int (((p1.toUInt32 >>> ((8 : Int32) &&& 31).toUInt32).toInt32) &&& (7 : Int32))), (.int zm_30)]))
            refine own_go (fun t k => XS.isub X30.here hx rfl (hb hby at_64) rfl k) ?_
            show OwnG p.tables e below _ (T30.setTop (mkF m 65 #[.val (.int p0), .val (.int p1), .val (.int (p0 &&& (7 : Int32))), .unset, .unset] [(.int ((((p1.toUInt32 >>> ((8 : Int32) &&& 31).toUInt32).toInt32) &&& (7 : Int32)) - (3 : Int32))), (.int zm_30)]))
            refine own_go (fun t k => XS.iadd X30.here hx rfl (hb hby at_65) rfl k) ?_
            show OwnG p.tables e below _ (T30.setTop (mkF m 66 #[.val (.int p0), .val (.int p1), .val (.int (p0 &&& (7 : Int32))), .unset, .unset] [(.int (zm_30 + ((((p1.toUInt32 >>> ((8 : Int32) &&& 31).toUInt32).toInt32) &&& (7 : Int32)) - (3 : Int32))))]))
            refine own_go (fun t k => XS.istoreN X30.here hx rfl (hb hby at_66) rfl (l' := #[.val (.int p0), .val (.int p1), .val (.int (p0 &&& (7 : Int32))), .val (.int (zm_30 + ((((p1.toUInt32 >>> ((8 : Int32) &&& 31).toUInt32).toInt32) &&& (7 : Int32)) - (3 : Int32)))), .unset]) rfl k) ?_
            show OwnG p.tables e below _ (T30.setTop (mkF m 67 #[.val (.int p0), .val (.int p1), .val (.int (p0 &&& (7 : Int32))), .val (.int (zm_30 + ((((p1.toUInt32 >>> ((8 : Int32) &&& 31).toUInt32).toInt32) &&& (7 : Int32)) - (3 : Int32)))), .unset] []))
            refine own_go (fun t k => XS.goto X30.here hx rfl (pc0 := 67) (pc' := 90) rfl (hb hby at_67) (by decide) (by decide) k) ?_
            show OwnG p.tables e below _ (T30.setTop (mkF m 90 #[.val (.int p0), .val (.int p1), .val (.int (p0 &&& (7 : Int32))), .val (.int (zm_30 + ((((p1.toUInt32 >>> ((8 : Int32) &&& 31).toUInt32).toInt32) &&& (7 : Int32)) - (3 : Int32)))), .unset] []))
            refine own_go (fun t k => XS.iloadN X30.here hx rfl (hb hby at_90) rfl  k) ?_
            show OwnG p.tables e below _ (T30.setTop (mkF m 91 #[.val (.int p0), .val (.int p1), .val (.int (p0 &&& (7 : Int32))), .val (.int (zm_30 + ((((p1.toUInt32 >>> ((8 : Int32) &&& 31).toUInt32).toInt32) &&& (7 : Int32)) - (3 : Int32)))), .unset] [(.int (zm_30 + ((((p1.toUInt32 >>> ((8 : Int32) &&& 31).toUInt32).toInt32) &&& (7 : Int32)) - (3 : Int32))))]))
            obtain ⟨_, _, ⟨T31, L31, k31, n31⟩, -, X31, ⟨Lc31, hQ31, l31, y31, z31⟩, st31⟩ := Jvm.LawKit.callS X30 hx (y := (⟨"com/example/vigilant_grammar/vigilantgrammar/ModelGroup$Connector", "writtenAs", "(I)Lcom/example/vigilant_grammar/vigilantgrammar/ModelGroup$Connector;"⟩ : MethodName)) hown (mvT hZ (hw _ (List.mem_of_getElem? (i := 0) rfl))) (mvT hZ (hw _ (List.mem_of_getElem? (i := 1) rfl))) (mvT hZ (hw _ (List.mem_of_getElem? (i := 2) rfl))) (mvT hZ (hw _ (List.mem_of_getElem? (i := 3) rfl))) (by decide) (backOf (W := 0) (own_written l Z a0 hw [] (zm_30 + ((((p1.toUInt32 >>> ((8 : Int32) &&& 31).toUInt32).toInt32) &&& (7 : Int32)) - (3 : Int32))) o_CONNECTORS o_SEQ o_OR o_AND kc_o_CONNECTORS h0 n0 Z0 O0 S_CONNECTORS S_SEQ E_o_SEQ F_o_SEQ_mark S_OR E_o_OR F_o_OR_mark S_AND E_o_AND F_o_AND_mark V_o_CONNECTORS) hZ (hw _ (List.mem_of_getElem? (i := 3) rfl)) (hw _ (List.mem_of_getElem? (i := 2) rfl)) (by decide) (by decide)) (g := (mkF m 91 #[.val (.int p0), .val (.int p1), .val (.int (p0 &&& (7 : Int32))), .val (.int (zm_30 + ((((p1.toUInt32 >>> ((8 : Int32) &&& 31).toUInt32).toInt32) &&& (7 : Int32)) - (3 : Int32)))), .unset] [(.int (zm_30 + ((((p1.toUInt32 >>> ((8 : Int32) &&& 31).toUInt32).toInt32) &&& (7 : Int32)) - (3 : Int32))))])) rfl (by rw [hml]; rfl) (argsL := [(.int (zm_30 + ((((p1.toUInt32 >>> ((8 : Int32) &&& 31).toUInt32).toInt32) &&& (7 : Int32)) - (3 : Int32))))]) (rest := []) (lenOf own_pd64 rfl) rfl (by show 2 * 0 + _ ≤ _; exact Nat.le_of_eq rfl) (hb hby at_91) (fun _ _ => ⟨rfl, e30, (by decide : 0 + 0 ≤ _), (by decide : 0 + 0 ≤ _)⟩)
            dsimp only [Pt.U, Pt.locs, Pt.cells, Pt.slots] at X31 l31 y31 z31 st31 hQ31
            subst l31 y31 z31
            obtain ⟨rfl, Nq31, eq31⟩ := hQ31
            have N31 := Fr.app N30 Nq31
            have e31 : T31.heap = h0 := eq31
            refine own_go (fun t k => st31 t k) ?_
            show OwnG p.tables e below _ (T31.setTop (mkF m 94 #[.val (.int p0), .val (.int p1), .val (.int (p0 &&& (7 : Int32))), .val (.int (zm_30 + ((((p1.toUInt32 >>> ((8 : Int32) &&& 31).toUInt32).toInt32) &&& (7 : Int32)) - (3 : Int32)))), .unset] [(own_val (zm_30 + ((((p1.toUInt32 >>> ((8 : Int32) &&& 31).toUInt32).toInt32) &&& (7 : Int32)) - (3 : Int32))) o_SEQ o_OR o_AND)]))
            rcases own_val_or (zm_30 + ((((p1.toUInt32 >>> ((8 : Int32) &&& 31).toUInt32).toInt32) &&& (7 : Int32)) - (3 : Int32))) o_SEQ o_OR o_AND with al32 | al32 | al32 | al32
            · rw [al32]
              show OwnG p.tables e below _ (T31.setTop (mkF m 94 #[.val (.int p0), .val (.int p1), .val (.int (p0 &&& (7 : Int32))), .val (.int (zm_30 + ((((p1.toUInt32 >>> ((8 : Int32) &&& 31).toUInt32).toInt32) &&& (7 : Int32)) - (3 : Int32)))), .unset] [(.ref o_SEQ)]))
              refine own_go (fun t k => XS.astore X31.here hx rfl (hb hby at_94) rfl rfl (l' := #[.val (.int p0), .val (.int p1), .val (.int (p0 &&& (7 : Int32))), .val (.int (zm_30 + ((((p1.toUInt32 >>> ((8 : Int32) &&& 31).toUInt32).toInt32) &&& (7 : Int32)) - (3 : Int32)))), .val (.ref o_SEQ)]) rfl k) ?_
              show OwnG p.tables e below _ (T31.setTop (mkF m 96 #[.val (.int p0), .val (.int p1), .val (.int (p0 &&& (7 : Int32))), .val (.int (zm_30 + ((((p1.toUInt32 >>> ((8 : Int32) &&& 31).toUInt32).toInt32) &&& (7 : Int32)) - (3 : Int32)))), .val (.ref o_SEQ)] []))
              refine own_go (fun t k => XS.aload X31.here hx rfl (hb hby at_96) rfl rfl k) ?_
              show OwnG p.tables e below _ (T31.setTop (mkF m 98 #[.val (.int p0), .val (.int p1), .val (.int (p0 &&& (7 : Int32))), .val (.int (zm_30 + ((((p1.toUInt32 >>> ((8 : Int32) &&& 31).toUInt32).toInt32) &&& (7 : Int32)) - (3 : Int32)))), .val (.ref o_SEQ)] [(.ref o_SEQ)]))
              refine own_go (fun t k => XS.iloadN X31.here hx rfl (hb hby at_98) rfl  k) ?_
              show OwnG p.tables e below _ (T31.setTop (mkF m 99 #[.val (.int p0), .val (.int p1), .val (.int (p0 &&& (7 : Int32))), .val (.int (zm_30 + ((((p1.toUInt32 >>> ((8 : Int32) &&& 31).toUInt32).toInt32) &&& (7 : Int32)) - (3 : Int32)))), .val (.ref o_SEQ)] [(.int (zm_30 + ((((p1.toUInt32 >>> ((8 : Int32) &&& 31).toUInt32).toInt32) &&& (7 : Int32)) - (3 : Int32)))), (.ref o_SEQ)]))
              obtain ⟨_, _, ⟨T33, L33, k33, n33⟩, -, X33, ⟨Lc33, hQ33, l33, y33, z33⟩, st33⟩ := Jvm.LawKit.callS X31 hx (y := (⟨"com/example/vigilant_grammar/vigilantgrammar/ConnectorWrittenAsPinLaw", "expected", "(I)Lcom/example/vigilant_grammar/vigilantgrammar/ModelGroup$Connector;"⟩ : MethodName)) hown (mvT hZ (hw _ (List.mem_of_getElem? (i := 9) rfl))) (mvT hZ (hw _ (List.mem_of_getElem? (i := 10) rfl))) (mvT hZ (hw _ (List.mem_of_getElem? (i := 11) rfl))) (mvT hZ (hw _ (List.mem_of_getElem? (i := 12) rfl))) (by decide) (backOf (W := 1) (own_expected l Z a0 hw [] (zm_30 + ((((p1.toUInt32 >>> ((8 : Int32) &&& 31).toUInt32).toInt32) &&& (7 : Int32)) - (3 : Int32))) o_CONNECTORS o_SEQ o_OR o_AND kc_o_CONNECTORS h0 n0 Z0 O0 S_CONNECTORS S_SEQ E_o_SEQ F_o_SEQ_mark S_OR E_o_OR F_o_OR_mark S_AND E_o_AND F_o_AND_mark V_o_CONNECTORS) hZ (hw _ (List.mem_of_getElem? (i := 12) rfl)) (hw _ (List.mem_of_getElem? (i := 11) rfl)) (by decide) (by decide)) (g := (mkF m 99 #[.val (.int p0), .val (.int p1), .val (.int (p0 &&& (7 : Int32))), .val (.int (zm_30 + ((((p1.toUInt32 >>> ((8 : Int32) &&& 31).toUInt32).toInt32) &&& (7 : Int32)) - (3 : Int32)))), .val (.ref o_SEQ)] [(.int (zm_30 + ((((p1.toUInt32 >>> ((8 : Int32) &&& 31).toUInt32).toInt32) &&& (7 : Int32)) - (3 : Int32)))), (.ref o_SEQ)])) rfl (by rw [hml]; rfl) (argsL := [(.int (zm_30 + ((((p1.toUInt32 >>> ((8 : Int32) &&& 31).toUInt32).toInt32) &&& (7 : Int32)) - (3 : Int32))))]) (rest := [(.ref o_SEQ)]) (lenOf own_pd64 rfl) rfl (by show 2 * 0 + _ ≤ _; exact Nat.le_of_eq rfl) (hb hby at_99) (fun _ _ => ⟨rfl, e31, (by decide : 0 + 0 ≤ _), (by decide : 0 + 0 ≤ _)⟩)
              dsimp only [Pt.U, Pt.locs, Pt.cells, Pt.slots] at X33 l33 y33 z33 st33 hQ33
              subst l33 y33 z33
              obtain ⟨rfl, Nq33, eq33⟩ := hQ33
              have N33 := Fr.app N31 Nq33
              have e33 : T33.heap = h0 := eq33
              refine own_go (fun t k => st33 t k) ?_
              show OwnG p.tables e below _ (T33.setTop (mkF m 102 #[.val (.int p0), .val (.int p1), .val (.int (p0 &&& (7 : Int32))), .val (.int (zm_30 + ((((p1.toUInt32 >>> ((8 : Int32) &&& 31).toUInt32).toInt32) &&& (7 : Int32)) - (3 : Int32)))), .val (.ref o_SEQ)] [(own_val (zm_30 + ((((p1.toUInt32 >>> ((8 : Int32) &&& 31).toUInt32).toInt32) &&& (7 : Int32)) - (3 : Int32))) o_SEQ o_OR o_AND), (.ref o_SEQ)]))
              rw [al32]
              show OwnG p.tables e below _ (T33.setTop (mkF m 102 #[.val (.int p0), .val (.int p1), .val (.int (p0 &&& (7 : Int32))), .val (.int (zm_30 + ((((p1.toUInt32 >>> ((8 : Int32) &&& 31).toUInt32).toInt32) &&& (7 : Int32)) - (3 : Int32)))), .val (.ref o_SEQ)] [(.ref o_SEQ), (.ref o_SEQ)]))
              refine own_go (fun t k => Jvm.RoadKit.acmp (g := (mkF m 102 #[.val (.int p0), .val (.int p1), .val (.int (p0 &&& (7 : Int32))), .val (.int (zm_30 + ((((p1.toUInt32 >>> ((8 : Int32) &&& 31).toUInt32).toInt32) &&& (7 : Int32)) - (3 : Int32)))), .val (.ref o_SEQ)] [(.ref o_SEQ), (.ref o_SEQ)])) X33 hx rfl rfl rfl (pc0 := 102) (pc' := 105) (same := true) rfl (hb hby at_102) rfl (decide_eq_true rfl) (by decide) (by decide) k) ?_
              show OwnG p.tables e below _ (T33.setTop (mkF m 105 #[.val (.int p0), .val (.int p1), .val (.int (p0 &&& (7 : Int32))), .val (.int (zm_30 + ((((p1.toUInt32 >>> ((8 : Int32) &&& 31).toUInt32).toInt32) &&& (7 : Int32)) - (3 : Int32)))), .val (.ref o_SEQ)] []))
              refine own_go (fun t k => XS.iconst X33.here hx rfl (hb hby at_105) k) ?_
              show OwnG p.tables e below _ (T33.setTop (mkF m 106 #[.val (.int p0), .val (.int p1), .val (.int (p0 &&& (7 : Int32))), .val (.int (zm_30 + ((((p1.toUInt32 >>> ((8 : Int32) &&& 31).toUInt32).toInt32) &&& (7 : Int32)) - (3 : Int32)))), .val (.ref o_SEQ)] [(.int (1 : Int32))]))
              refine own_go (fun t k => XS.goto X33.here hx rfl (pc0 := 106) (pc' := 110) rfl (hb hby at_106) (by decide) (by decide) k) ?_
              show OwnG p.tables e below _ (T33.setTop (mkF m 110 #[.val (.int p0), .val (.int p1), .val (.int (p0 &&& (7 : Int32))), .val (.int (zm_30 + ((((p1.toUInt32 >>> ((8 : Int32) &&& 31).toUInt32).toInt32) &&& (7 : Int32)) - (3 : Int32)))), .val (.ref o_SEQ)] [(.int (1 : Int32))]))
              obtain ⟨fs, hr, hrun, hended, hW, hsame⟩ := X33.leave (v := some (.int (1 : Int32))) (fun h => by rw [Bd.returns] at h; cases h)
              refine ⟨_, _, retN X33 hx (t := .boolean) Bd.returns (by simp) (hb hby at_110) hr, hrun, hended, _, _, rfl, ?_, ⟨_, rfl⟩, hW, hsame.mono (by decide) (by decide)⟩
              show Q_own_law Z p0 p1 o_CONNECTORS o_SEQ o_OR o_AND kc_o_CONNECTORS h0 n0 _ T33.heap _
              rw [e33]
              exact ⟨rfl, N33⟩
            · rw [al32]
              show OwnG p.tables e below _ (T31.setTop (mkF m 94 #[.val (.int p0), .val (.int p1), .val (.int (p0 &&& (7 : Int32))), .val (.int (zm_30 + ((((p1.toUInt32 >>> ((8 : Int32) &&& 31).toUInt32).toInt32) &&& (7 : Int32)) - (3 : Int32)))), .unset] [(.ref o_OR)]))
              refine own_go (fun t k => XS.astore X31.here hx rfl (hb hby at_94) rfl rfl (l' := #[.val (.int p0), .val (.int p1), .val (.int (p0 &&& (7 : Int32))), .val (.int (zm_30 + ((((p1.toUInt32 >>> ((8 : Int32) &&& 31).toUInt32).toInt32) &&& (7 : Int32)) - (3 : Int32)))), .val (.ref o_OR)]) rfl k) ?_
              show OwnG p.tables e below _ (T31.setTop (mkF m 96 #[.val (.int p0), .val (.int p1), .val (.int (p0 &&& (7 : Int32))), .val (.int (zm_30 + ((((p1.toUInt32 >>> ((8 : Int32) &&& 31).toUInt32).toInt32) &&& (7 : Int32)) - (3 : Int32)))), .val (.ref o_OR)] []))
              refine own_go (fun t k => XS.aload X31.here hx rfl (hb hby at_96) rfl rfl k) ?_
              show OwnG p.tables e below _ (T31.setTop (mkF m 98 #[.val (.int p0), .val (.int p1), .val (.int (p0 &&& (7 : Int32))), .val (.int (zm_30 + ((((p1.toUInt32 >>> ((8 : Int32) &&& 31).toUInt32).toInt32) &&& (7 : Int32)) - (3 : Int32)))), .val (.ref o_OR)] [(.ref o_OR)]))
              refine own_go (fun t k => XS.iloadN X31.here hx rfl (hb hby at_98) rfl  k) ?_
              show OwnG p.tables e below _ (T31.setTop (mkF m 99 #[.val (.int p0), .val (.int p1), .val (.int (p0 &&& (7 : Int32))), .val (.int (zm_30 + ((((p1.toUInt32 >>> ((8 : Int32) &&& 31).toUInt32).toInt32) &&& (7 : Int32)) - (3 : Int32)))), .val (.ref o_OR)] [(.int (zm_30 + ((((p1.toUInt32 >>> ((8 : Int32) &&& 31).toUInt32).toInt32) &&& (7 : Int32)) - (3 : Int32)))), (.ref o_OR)]))
              obtain ⟨_, _, ⟨T34, L34, k34, n34⟩, -, X34, ⟨Lc34, hQ34, l34, y34, z34⟩, st34⟩ := Jvm.LawKit.callS X31 hx (y := (⟨"com/example/vigilant_grammar/vigilantgrammar/ConnectorWrittenAsPinLaw", "expected", "(I)Lcom/example/vigilant_grammar/vigilantgrammar/ModelGroup$Connector;"⟩ : MethodName)) hown (mvT hZ (hw _ (List.mem_of_getElem? (i := 9) rfl))) (mvT hZ (hw _ (List.mem_of_getElem? (i := 10) rfl))) (mvT hZ (hw _ (List.mem_of_getElem? (i := 11) rfl))) (mvT hZ (hw _ (List.mem_of_getElem? (i := 12) rfl))) (by decide) (backOf (W := 1) (own_expected l Z a0 hw [] (zm_30 + ((((p1.toUInt32 >>> ((8 : Int32) &&& 31).toUInt32).toInt32) &&& (7 : Int32)) - (3 : Int32))) o_CONNECTORS o_SEQ o_OR o_AND kc_o_CONNECTORS h0 n0 Z0 O0 S_CONNECTORS S_SEQ E_o_SEQ F_o_SEQ_mark S_OR E_o_OR F_o_OR_mark S_AND E_o_AND F_o_AND_mark V_o_CONNECTORS) hZ (hw _ (List.mem_of_getElem? (i := 12) rfl)) (hw _ (List.mem_of_getElem? (i := 11) rfl)) (by decide) (by decide)) (g := (mkF m 99 #[.val (.int p0), .val (.int p1), .val (.int (p0 &&& (7 : Int32))), .val (.int (zm_30 + ((((p1.toUInt32 >>> ((8 : Int32) &&& 31).toUInt32).toInt32) &&& (7 : Int32)) - (3 : Int32)))), .val (.ref o_OR)] [(.int (zm_30 + ((((p1.toUInt32 >>> ((8 : Int32) &&& 31).toUInt32).toInt32) &&& (7 : Int32)) - (3 : Int32)))), (.ref o_OR)])) rfl (by rw [hml]; rfl) (argsL := [(.int (zm_30 + ((((p1.toUInt32 >>> ((8 : Int32) &&& 31).toUInt32).toInt32) &&& (7 : Int32)) - (3 : Int32))))]) (rest := [(.ref o_OR)]) (lenOf own_pd64 rfl) rfl (by show 2 * 0 + _ ≤ _; exact Nat.le_of_eq rfl) (hb hby at_99) (fun _ _ => ⟨rfl, e31, (by decide : 0 + 0 ≤ _), (by decide : 0 + 0 ≤ _)⟩)
              dsimp only [Pt.U, Pt.locs, Pt.cells, Pt.slots] at X34 l34 y34 z34 st34 hQ34
              subst l34 y34 z34
              obtain ⟨rfl, Nq34, eq34⟩ := hQ34
              have N34 := Fr.app N31 Nq34
              have e34 : T34.heap = h0 := eq34
              refine own_go (fun t k => st34 t k) ?_
              show OwnG p.tables e below _ (T34.setTop (mkF m 102 #[.val (.int p0), .val (.int p1), .val (.int (p0 &&& (7 : Int32))), .val (.int (zm_30 + ((((p1.toUInt32 >>> ((8 : Int32) &&& 31).toUInt32).toInt32) &&& (7 : Int32)) - (3 : Int32)))), .val (.ref o_OR)] [(own_val (zm_30 + ((((p1.toUInt32 >>> ((8 : Int32) &&& 31).toUInt32).toInt32) &&& (7 : Int32)) - (3 : Int32))) o_SEQ o_OR o_AND), (.ref o_OR)]))
              rw [al32]
              show OwnG p.tables e below _ (T34.setTop (mkF m 102 #[.val (.int p0), .val (.int p1), .val (.int (p0 &&& (7 : Int32))), .val (.int (zm_30 + ((((p1.toUInt32 >>> ((8 : Int32) &&& 31).toUInt32).toInt32) &&& (7 : Int32)) - (3 : Int32)))), .val (.ref o_OR)] [(.ref o_OR), (.ref o_OR)]))
              refine own_go (fun t k => Jvm.RoadKit.acmp (g := (mkF m 102 #[.val (.int p0), .val (.int p1), .val (.int (p0 &&& (7 : Int32))), .val (.int (zm_30 + ((((p1.toUInt32 >>> ((8 : Int32) &&& 31).toUInt32).toInt32) &&& (7 : Int32)) - (3 : Int32)))), .val (.ref o_OR)] [(.ref o_OR), (.ref o_OR)])) X34 hx rfl rfl rfl (pc0 := 102) (pc' := 105) (same := true) rfl (hb hby at_102) rfl (decide_eq_true rfl) (by decide) (by decide) k) ?_
              show OwnG p.tables e below _ (T34.setTop (mkF m 105 #[.val (.int p0), .val (.int p1), .val (.int (p0 &&& (7 : Int32))), .val (.int (zm_30 + ((((p1.toUInt32 >>> ((8 : Int32) &&& 31).toUInt32).toInt32) &&& (7 : Int32)) - (3 : Int32)))), .val (.ref o_OR)] []))
              refine own_go (fun t k => XS.iconst X34.here hx rfl (hb hby at_105) k) ?_
              show OwnG p.tables e below _ (T34.setTop (mkF m 106 #[.val (.int p0), .val (.int p1), .val (.int (p0 &&& (7 : Int32))), .val (.int (zm_30 + ((((p1.toUInt32 >>> ((8 : Int32) &&& 31).toUInt32).toInt32) &&& (7 : Int32)) - (3 : Int32)))), .val (.ref o_OR)] [(.int (1 : Int32))]))
              refine own_go (fun t k => XS.goto X34.here hx rfl (pc0 := 106) (pc' := 110) rfl (hb hby at_106) (by decide) (by decide) k) ?_
              show OwnG p.tables e below _ (T34.setTop (mkF m 110 #[.val (.int p0), .val (.int p1), .val (.int (p0 &&& (7 : Int32))), .val (.int (zm_30 + ((((p1.toUInt32 >>> ((8 : Int32) &&& 31).toUInt32).toInt32) &&& (7 : Int32)) - (3 : Int32)))), .val (.ref o_OR)] [(.int (1 : Int32))]))
              obtain ⟨fs, hr, hrun, hended, hW, hsame⟩ := X34.leave (v := some (.int (1 : Int32))) (fun h => by rw [Bd.returns] at h; cases h)
              refine ⟨_, _, retN X34 hx (t := .boolean) Bd.returns (by simp) (hb hby at_110) hr, hrun, hended, _, _, rfl, ?_, ⟨_, rfl⟩, hW, hsame.mono (by decide) (by decide)⟩
              show Q_own_law Z p0 p1 o_CONNECTORS o_SEQ o_OR o_AND kc_o_CONNECTORS h0 n0 _ T34.heap _
              rw [e34]
              exact ⟨rfl, N34⟩
            · rw [al32]
              show OwnG p.tables e below _ (T31.setTop (mkF m 94 #[.val (.int p0), .val (.int p1), .val (.int (p0 &&& (7 : Int32))), .val (.int (zm_30 + ((((p1.toUInt32 >>> ((8 : Int32) &&& 31).toUInt32).toInt32) &&& (7 : Int32)) - (3 : Int32)))), .unset] [(.ref o_AND)]))
              refine own_go (fun t k => XS.astore X31.here hx rfl (hb hby at_94) rfl rfl (l' := #[.val (.int p0), .val (.int p1), .val (.int (p0 &&& (7 : Int32))), .val (.int (zm_30 + ((((p1.toUInt32 >>> ((8 : Int32) &&& 31).toUInt32).toInt32) &&& (7 : Int32)) - (3 : Int32)))), .val (.ref o_AND)]) rfl k) ?_
              show OwnG p.tables e below _ (T31.setTop (mkF m 96 #[.val (.int p0), .val (.int p1), .val (.int (p0 &&& (7 : Int32))), .val (.int (zm_30 + ((((p1.toUInt32 >>> ((8 : Int32) &&& 31).toUInt32).toInt32) &&& (7 : Int32)) - (3 : Int32)))), .val (.ref o_AND)] []))
              refine own_go (fun t k => XS.aload X31.here hx rfl (hb hby at_96) rfl rfl k) ?_
              show OwnG p.tables e below _ (T31.setTop (mkF m 98 #[.val (.int p0), .val (.int p1), .val (.int (p0 &&& (7 : Int32))), .val (.int (zm_30 + ((((p1.toUInt32 >>> ((8 : Int32) &&& 31).toUInt32).toInt32) &&& (7 : Int32)) - (3 : Int32)))), .val (.ref o_AND)] [(.ref o_AND)]))
              refine own_go (fun t k => XS.iloadN X31.here hx rfl (hb hby at_98) rfl  k) ?_
              show OwnG p.tables e below _ (T31.setTop (mkF m 99 #[.val (.int p0), .val (.int p1), .val (.int (p0 &&& (7 : Int32))), .val (.int (zm_30 + ((((p1.toUInt32 >>> ((8 : Int32) &&& 31).toUInt32).toInt32) &&& (7 : Int32)) - (3 : Int32)))), .val (.ref o_AND)] [(.int (zm_30 + ((((p1.toUInt32 >>> ((8 : Int32) &&& 31).toUInt32).toInt32) &&& (7 : Int32)) - (3 : Int32)))), (.ref o_AND)]))
              obtain ⟨_, _, ⟨T35, L35, k35, n35⟩, -, X35, ⟨Lc35, hQ35, l35, y35, z35⟩, st35⟩ := Jvm.LawKit.callS X31 hx (y := (⟨"com/example/vigilant_grammar/vigilantgrammar/ConnectorWrittenAsPinLaw", "expected", "(I)Lcom/example/vigilant_grammar/vigilantgrammar/ModelGroup$Connector;"⟩ : MethodName)) hown (mvT hZ (hw _ (List.mem_of_getElem? (i := 9) rfl))) (mvT hZ (hw _ (List.mem_of_getElem? (i := 10) rfl))) (mvT hZ (hw _ (List.mem_of_getElem? (i := 11) rfl))) (mvT hZ (hw _ (List.mem_of_getElem? (i := 12) rfl))) (by decide) (backOf (W := 1) (own_expected l Z a0 hw [] (zm_30 + ((((p1.toUInt32 >>> ((8 : Int32) &&& 31).toUInt32).toInt32) &&& (7 : Int32)) - (3 : Int32))) o_CONNECTORS o_SEQ o_OR o_AND kc_o_CONNECTORS h0 n0 Z0 O0 S_CONNECTORS S_SEQ E_o_SEQ F_o_SEQ_mark S_OR E_o_OR F_o_OR_mark S_AND E_o_AND F_o_AND_mark V_o_CONNECTORS) hZ (hw _ (List.mem_of_getElem? (i := 12) rfl)) (hw _ (List.mem_of_getElem? (i := 11) rfl)) (by decide) (by decide)) (g := (mkF m 99 #[.val (.int p0), .val (.int p1), .val (.int (p0 &&& (7 : Int32))), .val (.int (zm_30 + ((((p1.toUInt32 >>> ((8 : Int32) &&& 31).toUInt32).toInt32) &&& (7 : Int32)) - (3 : Int32)))), .val (.ref o_AND)] [(.int (zm_30 + ((((p1.toUInt32 >>> ((8 : Int32) &&& 31).toUInt32).toInt32) &&& (7 : Int32)) - (3 : Int32)))), (.ref o_AND)])) rfl (by rw [hml]; rfl) (argsL := [(.int (zm_30 + ((((p1.toUInt32 >>> ((8 : Int32) &&& 31).toUInt32).toInt32) &&& (7 : Int32)) - (3 : Int32))))]) (rest := [(.ref o_AND)]) (lenOf own_pd64 rfl) rfl (by show 2 * 0 + _ ≤ _; exact Nat.le_of_eq rfl) (hb hby at_99) (fun _ _ => ⟨rfl, e31, (by decide : 0 + 0 ≤ _), (by decide : 0 + 0 ≤ _)⟩)
              dsimp only [Pt.U, Pt.locs, Pt.cells, Pt.slots] at X35 l35 y35 z35 st35 hQ35
              subst l35 y35 z35
              obtain ⟨rfl, Nq35, eq35⟩ := hQ35
              have N35 := Fr.app N31 Nq35
              have e35 : T35.heap = h0 := eq35
              refine own_go (fun t k => st35 t k) ?_
              show OwnG p.tables e below _ (T35.setTop (mkF m 102 #[.val (.int p0), .val (.int p1), .val (.int (p0 &&& (7 : Int32))), .val (.int (zm_30 + ((((p1.toUInt32 >>> ((8 : Int32) &&& 31).toUInt32).toInt32) &&& (7 : Int32)) - (3 : Int32)))), .val (.ref o_AND)] [(own_val (zm_30 + ((((p1.toUInt32 >>> ((8 : Int32) &&& 31).toUInt32).toInt32) &&& (7 : Int32)) - (3 : Int32))) o_SEQ o_OR o_AND), (.ref o_AND)]))
              rw [al32]
              show OwnG p.tables e below _ (T35.setTop (mkF m 102 #[.val (.int p0), .val (.int p1), .val (.int (p0 &&& (7 : Int32))), .val (.int (zm_30 + ((((p1.toUInt32 >>> ((8 : Int32) &&& 31).toUInt32).toInt32) &&& (7 : Int32)) - (3 : Int32)))), .val (.ref o_AND)] [(.ref o_AND), (.ref o_AND)]))
              refine own_go (fun t k => Jvm.RoadKit.acmp (g := (mkF m 102 #[.val (.int p0), .val (.int p1), .val (.int (p0 &&& (7 : Int32))), .val (.int (zm_30 + ((((p1.toUInt32 >>> ((8 : Int32) &&& 31).toUInt32).toInt32) &&& (7 : Int32)) - (3 : Int32)))), .val (.ref o_AND)] [(.ref o_AND), (.ref o_AND)])) X35 hx rfl rfl rfl (pc0 := 102) (pc' := 105) (same := true) rfl (hb hby at_102) rfl (decide_eq_true rfl) (by decide) (by decide) k) ?_
              show OwnG p.tables e below _ (T35.setTop (mkF m 105 #[.val (.int p0), .val (.int p1), .val (.int (p0 &&& (7 : Int32))), .val (.int (zm_30 + ((((p1.toUInt32 >>> ((8 : Int32) &&& 31).toUInt32).toInt32) &&& (7 : Int32)) - (3 : Int32)))), .val (.ref o_AND)] []))
              refine own_go (fun t k => XS.iconst X35.here hx rfl (hb hby at_105) k) ?_
              show OwnG p.tables e below _ (T35.setTop (mkF m 106 #[.val (.int p0), .val (.int p1), .val (.int (p0 &&& (7 : Int32))), .val (.int (zm_30 + ((((p1.toUInt32 >>> ((8 : Int32) &&& 31).toUInt32).toInt32) &&& (7 : Int32)) - (3 : Int32)))), .val (.ref o_AND)] [(.int (1 : Int32))]))
              refine own_go (fun t k => XS.goto X35.here hx rfl (pc0 := 106) (pc' := 110) rfl (hb hby at_106) (by decide) (by decide) k) ?_
              show OwnG p.tables e below _ (T35.setTop (mkF m 110 #[.val (.int p0), .val (.int p1), .val (.int (p0 &&& (7 : Int32))), .val (.int (zm_30 + ((((p1.toUInt32 >>> ((8 : Int32) &&& 31).toUInt32).toInt32) &&& (7 : Int32)) - (3 : Int32)))), .val (.ref o_AND)] [(.int (1 : Int32))]))
              obtain ⟨fs, hr, hrun, hended, hW, hsame⟩ := X35.leave (v := some (.int (1 : Int32))) (fun h => by rw [Bd.returns] at h; cases h)
              refine ⟨_, _, retN X35 hx (t := .boolean) Bd.returns (by simp) (hb hby at_110) hr, hrun, hended, _, _, rfl, ?_, ⟨_, rfl⟩, hW, hsame.mono (by decide) (by decide)⟩
              show Q_own_law Z p0 p1 o_CONNECTORS o_SEQ o_OR o_AND kc_o_CONNECTORS h0 n0 _ T35.heap _
              rw [e35]
              exact ⟨rfl, N35⟩
            · rw [al32]
              show OwnG p.tables e below _ (T31.setTop (mkF m 94 #[.val (.int p0), .val (.int p1), .val (.int (p0 &&& (7 : Int32))), .val (.int (zm_30 + ((((p1.toUInt32 >>> ((8 : Int32) &&& 31).toUInt32).toInt32) &&& (7 : Int32)) - (3 : Int32)))), .unset] [.null]))
              refine own_go (fun t k => XS.astore X31.here hx rfl (hb hby at_94) rfl rfl (l' := #[.val (.int p0), .val (.int p1), .val (.int (p0 &&& (7 : Int32))), .val (.int (zm_30 + ((((p1.toUInt32 >>> ((8 : Int32) &&& 31).toUInt32).toInt32) &&& (7 : Int32)) - (3 : Int32)))), .val .null]) rfl k) ?_
              show OwnG p.tables e below _ (T31.setTop (mkF m 96 #[.val (.int p0), .val (.int p1), .val (.int (p0 &&& (7 : Int32))), .val (.int (zm_30 + ((((p1.toUInt32 >>> ((8 : Int32) &&& 31).toUInt32).toInt32) &&& (7 : Int32)) - (3 : Int32)))), .val .null] []))
              refine own_go (fun t k => XS.aload X31.here hx rfl (hb hby at_96) rfl rfl k) ?_
              show OwnG p.tables e below _ (T31.setTop (mkF m 98 #[.val (.int p0), .val (.int p1), .val (.int (p0 &&& (7 : Int32))), .val (.int (zm_30 + ((((p1.toUInt32 >>> ((8 : Int32) &&& 31).toUInt32).toInt32) &&& (7 : Int32)) - (3 : Int32)))), .val .null] [.null]))
              refine own_go (fun t k => XS.iloadN X31.here hx rfl (hb hby at_98) rfl  k) ?_
              show OwnG p.tables e below _ (T31.setTop (mkF m 99 #[.val (.int p0), .val (.int p1), .val (.int (p0 &&& (7 : Int32))), .val (.int (zm_30 + ((((p1.toUInt32 >>> ((8 : Int32) &&& 31).toUInt32).toInt32) &&& (7 : Int32)) - (3 : Int32)))), .val .null] [(.int (zm_30 + ((((p1.toUInt32 >>> ((8 : Int32) &&& 31).toUInt32).toInt32) &&& (7 : Int32)) - (3 : Int32)))), .null]))
              obtain ⟨_, _, ⟨T36, L36, k36, n36⟩, -, X36, ⟨Lc36, hQ36, l36, y36, z36⟩, st36⟩ := Jvm.LawKit.callS X31 hx (y := (⟨"com/example/vigilant_grammar/vigilantgrammar/ConnectorWrittenAsPinLaw", "expected", "(I)Lcom/example/vigilant_grammar/vigilantgrammar/ModelGroup$Connector;"⟩ : MethodName)) hown (mvT hZ (hw _ (List.mem_of_getElem? (i := 9) rfl))) (mvT hZ (hw _ (List.mem_of_getElem? (i := 10) rfl))) (mvT hZ (hw _ (List.mem_of_getElem? (i := 11) rfl))) (mvT hZ (hw _ (List.mem_of_getElem? (i := 12) rfl))) (by decide) (backOf (W := 1) (own_expected l Z a0 hw [] (zm_30 + ((((p1.toUInt32 >>> ((8 : Int32) &&& 31).toUInt32).toInt32) &&& (7 : Int32)) - (3 : Int32))) o_CONNECTORS o_SEQ o_OR o_AND kc_o_CONNECTORS h0 n0 Z0 O0 S_CONNECTORS S_SEQ E_o_SEQ F_o_SEQ_mark S_OR E_o_OR F_o_OR_mark S_AND E_o_AND F_o_AND_mark V_o_CONNECTORS) hZ (hw _ (List.mem_of_getElem? (i := 12) rfl)) (hw _ (List.mem_of_getElem? (i := 11) rfl)) (by decide) (by decide)) (g := (mkF m 99 #[.val (.int p0), .val (.int p1), .val (.int (p0 &&& (7 : Int32))), .val (.int (zm_30 + ((((p1.toUInt32 >>> ((8 : Int32) &&& 31).toUInt32).toInt32) &&& (7 : Int32)) - (3 : Int32)))), .val .null] [(.int (zm_30 + ((((p1.toUInt32 >>> ((8 : Int32) &&& 31).toUInt32).toInt32) &&& (7 : Int32)) - (3 : Int32)))), .null])) rfl (by rw [hml]; rfl) (argsL := [(.int (zm_30 + ((((p1.toUInt32 >>> ((8 : Int32) &&& 31).toUInt32).toInt32) &&& (7 : Int32)) - (3 : Int32))))]) (rest := [.null]) (lenOf own_pd64 rfl) rfl (by show 2 * 0 + _ ≤ _; exact Nat.le_of_eq rfl) (hb hby at_99) (fun _ _ => ⟨rfl, e31, (by decide : 0 + 0 ≤ _), (by decide : 0 + 0 ≤ _)⟩)
              dsimp only [Pt.U, Pt.locs, Pt.cells, Pt.slots] at X36 l36 y36 z36 st36 hQ36
              subst l36 y36 z36
              obtain ⟨rfl, Nq36, eq36⟩ := hQ36
              have N36 := Fr.app N31 Nq36
              have e36 : T36.heap = h0 := eq36
              refine own_go (fun t k => st36 t k) ?_
              show OwnG p.tables e below _ (T36.setTop (mkF m 102 #[.val (.int p0), .val (.int p1), .val (.int (p0 &&& (7 : Int32))), .val (.int (zm_30 + ((((p1.toUInt32 >>> ((8 : Int32) &&& 31).toUInt32).toInt32) &&& (7 : Int32)) - (3 : Int32)))), .val .null] [(own_val (zm_30 + ((((p1.toUInt32 >>> ((8 : Int32) &&& 31).toUInt32).toInt32) &&& (7 : Int32)) - (3 : Int32))) o_SEQ o_OR o_AND), .null]))
              rw [al32]
              show OwnG p.tables e below _ (T36.setTop (mkF m 102 #[.val (.int p0), .val (.int p1), .val (.int (p0 &&& (7 : Int32))), .val (.int (zm_30 + ((((p1.toUInt32 >>> ((8 : Int32) &&& 31).toUInt32).toInt32) &&& (7 : Int32)) - (3 : Int32)))), .val .null] [.null, .null]))
              refine own_go (fun t k => Jvm.RoadKit.acmp (g := (mkF m 102 #[.val (.int p0), .val (.int p1), .val (.int (p0 &&& (7 : Int32))), .val (.int (zm_30 + ((((p1.toUInt32 >>> ((8 : Int32) &&& 31).toUInt32).toInt32) &&& (7 : Int32)) - (3 : Int32)))), .val .null] [.null, .null])) X36 hx rfl rfl rfl (pc0 := 102) (pc' := 105) (same := true) rfl (hb hby at_102) rfl (decide_eq_true rfl) (by decide) (by decide) k) ?_
              show OwnG p.tables e below _ (T36.setTop (mkF m 105 #[.val (.int p0), .val (.int p1), .val (.int (p0 &&& (7 : Int32))), .val (.int (zm_30 + ((((p1.toUInt32 >>> ((8 : Int32) &&& 31).toUInt32).toInt32) &&& (7 : Int32)) - (3 : Int32)))), .val .null] []))
              refine own_go (fun t k => XS.iconst X36.here hx rfl (hb hby at_105) k) ?_
              show OwnG p.tables e below _ (T36.setTop (mkF m 106 #[.val (.int p0), .val (.int p1), .val (.int (p0 &&& (7 : Int32))), .val (.int (zm_30 + ((((p1.toUInt32 >>> ((8 : Int32) &&& 31).toUInt32).toInt32) &&& (7 : Int32)) - (3 : Int32)))), .val .null] [(.int (1 : Int32))]))
              refine own_go (fun t k => XS.goto X36.here hx rfl (pc0 := 106) (pc' := 110) rfl (hb hby at_106) (by decide) (by decide) k) ?_
              show OwnG p.tables e below _ (T36.setTop (mkF m 110 #[.val (.int p0), .val (.int p1), .val (.int (p0 &&& (7 : Int32))), .val (.int (zm_30 + ((((p1.toUInt32 >>> ((8 : Int32) &&& 31).toUInt32).toInt32) &&& (7 : Int32)) - (3 : Int32)))), .val .null] [(.int (1 : Int32))]))
              obtain ⟨fs, hr, hrun, hended, hW, hsame⟩ := X36.leave (v := some (.int (1 : Int32))) (fun h => by rw [Bd.returns] at h; cases h)
              refine ⟨_, _, retN X36 hx (t := .boolean) Bd.returns (by simp) (hb hby at_110) hr, hrun, hended, _, _, rfl, ?_, ⟨_, rfl⟩, hW, hsame.mono (by decide) (by decide)⟩
              show Q_own_law Z p0 p1 o_CONNECTORS o_SEQ o_OR o_AND kc_o_CONNECTORS h0 n0 _ T36.heap _
              rw [e36]
              exact ⟨rfl, N36⟩
          · refine own_go (fun t k => XS.icmpYes X0.here hx rfl (pc0 := 49) (pc' := 70) rfl (hb hby at_49) rfl (feq hc29).2 (by decide) (by decide) k) ?_
            show OwnG p.tables e below _ (s₁.setTop (mkF m 70 #[.val (.int p0), .val (.int p1), .val (.int (p0 &&& (7 : Int32))), .unset, .unset] []))
            refine own_go (fun t k => XS.iloadN X0.here hx rfl (hb hby at_70) rfl  k) ?_
            show OwnG p.tables e below _ (s₁.setTop (mkF m 71 #[.val (.int p0), .val (.int p1), .val (.int (p0 &&& (7 : Int32))), .unset, .unset] [(.int (p0 &&& (7 : Int32)))]))
            refine own_go (fun t k => XS.iconst X0.here hx rfl (hb hby at_71) k) ?_
            show OwnG p.tables e below _ (s₁.setTop (mkF m 72 #[.val (.int p0), .val (.int p1), .val (.int (p0 &&& (7 : Int32))), .unset, .unset] [(.int (5 : Int32)), (.int (p0 &&& (7 : Int32)))]))
            by_cases hc37 : (p0 &&& (7 : Int32)) = (5 : Int32)
            · refine own_go (fun t k => XS.icmpNo X0.here hx rfl (hb hby at_72) rfl (teq hc37).2 k) ?_
              show OwnG p.tables e below _ (s₁.setTop (mkF m 75 #[.val (.int p0), .val (.int p1), .val (.int (p0 &&& (7 : Int32))), .unset, .unset] []))
              refine own_go (fun t k => XS.iloadN X0.here hx rfl (hb hby at_75) rfl  k) ?_
              show OwnG p.tables e below _ (s₁.setTop (mkF m 76 #[.val (.int p0), .val (.int p1), .val (.int (p0 &&& (7 : Int32))), .unset, .unset] [(.int p1)]))
              refine own_go (fun t k => (X0.ldcInt hx hown (mvT hZ (hw _ (List.mem_of_getElem? (i := 20) rfl))) (g := (mkF m 76 #[.val (.int p0), .val (.int p1), .val (.int (p0 &&& (7 : Int32))), .unset, .unset] [(.int p1)])) rfl (hb hby at_76)) t k) ?_
              show OwnG p.tables e below _ (s₁.setTop (mkF m 78 #[.val (.int p0), .val (.int p1), .val (.int (p0 &&& (7 : Int32))), .unset, .unset] [(.int (-65536 : Int32)), (.int p1)]))
              refine own_go (fun t k => XS.iand X0.here hx rfl (hb hby at_78) rfl k) ?_
              show OwnG p.tables e below _ (s₁.setTop (mkF m 79 #[.val (.int p0), .val (.int p1), .val (.int (p0 &&& (7 : Int32))), .unset, .unset] [(.int (p1 &&& (-65536 : Int32)))]))
              refine own_go (fun t k => XS.iloadN X0.here hx rfl (hb hby at_79) rfl  k) ?_
              show OwnG p.tables e below _ (s₁.setTop (mkF m 80 #[.val (.int p0), .val (.int p1), .val (.int (p0 &&& (7 : Int32))), .unset, .unset] [(.int p1), (.int (p1 &&& (-65536 : Int32)))]))
              obtain ⟨_, _, ⟨T38, L38, k38, n38⟩, -, X38, ⟨Lc38, hQ38, l38, y38, z38⟩, st38⟩ := Jvm.LawKit.callS X0 hx (y := (⟨"com/example/vigilant_grammar/vigilantgrammar/ConnectorWrittenAsPinLaw", "mark", "(I)I"⟩ : MethodName)) hown (mvT hZ (hw _ (List.mem_of_getElem? (i := 16) rfl))) (mvT hZ (hw _ (List.mem_of_getElem? (i := 17) rfl))) (mvT hZ (hw _ (List.mem_of_getElem? (i := 11) rfl))) (mvT hZ (hw _ (List.mem_of_getElem? (i := 18) rfl))) (by decide) (backOf (W := 1) (own_mark l Z a0 hw [] p1 h0 n0 Z0) hZ (hw _ (List.mem_of_getElem? (i := 18) rfl)) (hw _ (List.mem_of_getElem? (i := 11) rfl)) (by decide) (by decide)) (g := (mkF m 80 #[.val (.int p0), .val (.int p1), .val (.int (p0 &&& (7 : Int32))), .unset, .unset] [(.int p1), (.int (p1 &&& (-65536 : Int32)))])) rfl (by rw [hml]; rfl) (argsL := [(.int p1)]) (rest := [(.int (p1 &&& (-65536 : Int32)))]) (lenOf own_pd65 rfl) rfl (by show 2 * 0 + _ ≤ _; exact Nat.le_of_eq rfl) (hb hby at_80) (fun _ _ => ⟨rfl, e0, (by decide : 0 + 0 ≤ _), (by decide : 0 + 0 ≤ _)⟩)
              dsimp only [Pt.U, Pt.locs, Pt.cells, Pt.slots] at X38 l38 y38 z38 st38 hQ38
              subst l38 y38 z38
              obtain ⟨zm_38, rfl, Nq38, eq38⟩ := hQ38
              have N38 := Fr.app N0 Nq38
              have e38 : T38.heap = h0 := eq38
              refine own_go (fun t k => st38 t k) ?_
              show OwnG p.tables e below _ (T38.setTop (mkF m 83 #[.val (.int p0), .val (.int p1), .val (.int (p0 &&& (7 : Int32))), .unset, .unset] [(.int zm_38), (.int (p1 &&& (-65536 : Int32)))]))
              refine own_go (fun t k => XS.ior X38.here hx rfl (hb hby at_83) rfl k) ?_
              show OwnG p.tables e below _ (T38.setTop (mkF m 84 #[.val (.int p0), .val (.int p1), .val (.int (p0 &&& (7 : Int32))), .unset, .unset] [(.int ((p1 &&& (-65536 : Int32)) ||| zm_38))]))
              refine own_go (fun t k => XS.istoreN X38.here hx rfl (hb hby at_84) rfl (l' := #[.val (.int p0), .val (.int p1), .val (.int (p0 &&& (7 : Int32))), .val (.int ((p1 &&& (-65536 : Int32)) ||| zm_38)), .unset]) rfl k) ?_
              show OwnG p.tables e below _ (T38.setTop (mkF m 85 #[.val (.int p0), .val (.int p1), .val (.int (p0 &&& (7 : Int32))), .val (.int ((p1 &&& (-65536 : Int32)) ||| zm_38)), .unset] []))
              refine own_go (fun t k => XS.goto X38.here hx rfl (pc0 := 85) (pc' := 90) rfl (hb hby at_85) (by decide) (by decide) k) ?_
              show OwnG p.tables e below _ (T38.setTop (mkF m 90 #[.val (.int p0), .val (.int p1), .val (.int (p0 &&& (7 : Int32))), .val (.int ((p1 &&& (-65536 : Int32)) ||| zm_38)), .unset] []))
              refine own_go (fun t k => XS.iloadN X38.here hx rfl (hb hby at_90) rfl  k) ?_
              show OwnG p.tables e below _ (T38.setTop (mkF m 91 #[.val (.int p0), .val (.int p1), .val (.int (p0 &&& (7 : Int32))), .val (.int ((p1 &&& (-65536 : Int32)) ||| zm_38)), .unset] [(.int ((p1 &&& (-65536 : Int32)) ||| zm_38))]))
              obtain ⟨_, _, ⟨T39, L39, k39, n39⟩, -, X39, ⟨Lc39, hQ39, l39, y39, z39⟩, st39⟩ := Jvm.LawKit.callS X38 hx (y := (⟨"com/example/vigilant_grammar/vigilantgrammar/ModelGroup$Connector", "writtenAs", "(I)Lcom/example/vigilant_grammar/vigilantgrammar/ModelGroup$Connector;"⟩ : MethodName)) hown (mvT hZ (hw _ (List.mem_of_getElem? (i := 0) rfl))) (mvT hZ (hw _ (List.mem_of_getElem? (i := 1) rfl))) (mvT hZ (hw _ (List.mem_of_getElem? (i := 2) rfl))) (mvT hZ (hw _ (List.mem_of_getElem? (i := 3) rfl))) (by decide) (backOf (W := 0) (own_written l Z a0 hw [] ((p1 &&& (-65536 : Int32)) ||| zm_38) o_CONNECTORS o_SEQ o_OR o_AND kc_o_CONNECTORS h0 n0 Z0 O0 S_CONNECTORS S_SEQ E_o_SEQ F_o_SEQ_mark S_OR E_o_OR F_o_OR_mark S_AND E_o_AND F_o_AND_mark V_o_CONNECTORS) hZ (hw _ (List.mem_of_getElem? (i := 3) rfl)) (hw _ (List.mem_of_getElem? (i := 2) rfl)) (by decide) (by decide)) (g := (mkF m 91 #[.val (.int p0), .val (.int p1), .val (.int (p0 &&& (7 : Int32))), .val (.int ((p1 &&& (-65536 : Int32)) ||| zm_38)), .unset] [(.int ((p1 &&& (-65536 : Int32)) ||| zm_38))])) rfl (by rw [hml]; rfl) (argsL := [(.int ((p1 &&& (-65536 : Int32)) ||| zm_38))]) (rest := []) (lenOf own_pd64 rfl) rfl (by show 2 * 0 + _ ≤ _; exact Nat.le_of_eq rfl) (hb hby at_91) (fun _ _ => ⟨rfl, e38, (by decide : 0 + 0 ≤ _), (by decide : 0 + 0 ≤ _)⟩)
              dsimp only [Pt.U, Pt.locs, Pt.cells, Pt.slots] at X39 l39 y39 z39 st39 hQ39
              subst l39 y39 z39
              obtain ⟨rfl, Nq39, eq39⟩ := hQ39
              have N39 := Fr.app N38 Nq39
              have e39 : T39.heap = h0 := eq39
              refine own_go (fun t k => st39 t k) ?_
              show OwnG p.tables e below _ (T39.setTop (mkF m 94 #[.val (.int p0), .val (.int p1), .val (.int (p0 &&& (7 : Int32))), .val (.int ((p1 &&& (-65536 : Int32)) ||| zm_38)), .unset] [(own_val ((p1 &&& (-65536 : Int32)) ||| zm_38) o_SEQ o_OR o_AND)]))
              rcases own_val_or ((p1 &&& (-65536 : Int32)) ||| zm_38) o_SEQ o_OR o_AND with al40 | al40 | al40 | al40
              · rw [al40]
                show OwnG p.tables e below _ (T39.setTop (mkF m 94 #[.val (.int p0), .val (.int p1), .val (.int (p0 &&& (7 : Int32))), .val (.int ((p1 &&& (-65536 : Int32)) ||| zm_38)), .unset] [(.ref o_SEQ)]))
                refine own_go (fun t k => XS.astore X39.here hx rfl (hb hby at_94) rfl rfl (l' := #[.val (.int p0), .val (.int p1), .val (.int (p0 &&& (7 : Int32))), .val (.int ((p1 &&& (-65536 : Int32)) ||| zm_38)), .val (.ref o_SEQ)]) rfl k) ?_
                show OwnG p.tables e below _ (T39.setTop (mkF m 96 #[.val (.int p0), .val (.int p1), .val (.int (p0 &&& (7 : Int32))), .val (.int ((p1 &&& (-65536 : Int32)) ||| zm_38)), .val (.ref o_SEQ)] []))
                refine own_go (fun t k => XS.aload X39.here hx rfl (hb hby at_96) rfl rfl k) ?_
                show OwnG p.tables e below _ (T39.setTop (mkF m 98 #[.val (.int p0), .val (.int p1), .val (.int (p0 &&& (7 : Int32))), .val (.int ((p1 &&& (-65536 : Int32)) ||| zm_38)), .val (.ref o_SEQ)] [(.ref o_SEQ)]))
                refine own_go (fun t k => XS.iloadN X39.here hx rfl (hb hby at_98) rfl  k) ?_
                show OwnG p.tables e below _ (T39.setTop (mkF m 99 #[.val (.int p0), .val (.int p1), .val (.int (p0 &&& (7 : Int32))), .val (.int ((p1 &&& (-65536 : Int32)) ||| zm_38)), .val (.ref o_SEQ)] [(.int ((p1 &&& (-65536 : Int32)) ||| zm_38)), (.ref o_SEQ)]))
                obtain ⟨_, _, ⟨T41, L41, k41, n41⟩, -, X41, ⟨Lc41, hQ41, l41, y41, z41⟩, st41⟩ := Jvm.LawKit.callS X39 hx (y := (⟨"com/example/vigilant_grammar/vigilantgrammar/ConnectorWrittenAsPinLaw", "expected", "(I)Lcom/example/vigilant_grammar/vigilantgrammar/ModelGroup$Connector;"⟩ : MethodName)) hown (mvT hZ (hw _ (List.mem_of_getElem? (i := 9) rfl))) (mvT hZ (hw _ (List.mem_of_getElem? (i := 10) rfl))) (mvT hZ (hw _ (List.mem_of_getElem? (i := 11) rfl))) (mvT hZ (hw _ (List.mem_of_getElem? (i := 12) rfl))) (by decide) (backOf (W := 1) (own_expected l Z a0 hw [] ((p1 &&& (-65536 : Int32)) ||| zm_38) o_CONNECTORS o_SEQ o_OR o_AND kc_o_CONNECTORS h0 n0 Z0 O0 S_CONNECTORS S_SEQ E_o_SEQ F_o_SEQ_mark S_OR E_o_OR F_o_OR_mark S_AND E_o_AND F_o_AND_mark V_o_CONNECTORS) hZ (hw _ (List.mem_of_getElem? (i := 12) rfl)) (hw _ (List.mem_of_getElem? (i := 11) rfl)) (by decide) (by decide)) (g := (mkF m 99 #[.val (.int p0), .val (.int p1), .val (.int (p0 &&& (7 : Int32))), .val (.int ((p1 &&& (-65536 : Int32)) ||| zm_38)), .val (.ref o_SEQ)] [(.int ((p1 &&& (-65536 : Int32)) ||| zm_38)), (.ref o_SEQ)])) rfl (by rw [hml]; rfl) (argsL := [(.int ((p1 &&& (-65536 : Int32)) ||| zm_38))]) (rest := [(.ref o_SEQ)]) (lenOf own_pd64 rfl) rfl (by show 2 * 0 + _ ≤ _; exact Nat.le_of_eq rfl) (hb hby at_99) (fun _ _ => ⟨rfl, e39, (by decide : 0 + 0 ≤ _), (by decide : 0 + 0 ≤ _)⟩)
                dsimp only [Pt.U, Pt.locs, Pt.cells, Pt.slots] at X41 l41 y41 z41 st41 hQ41
                subst l41 y41 z41
                obtain ⟨rfl, Nq41, eq41⟩ := hQ41
                have N41 := Fr.app N39 Nq41
                have e41 : T41.heap = h0 := eq41
                refine own_go (fun t k => st41 t k) ?_
                show OwnG p.tables e below _ (T41.setTop (mkF m 102 #[.val (.int p0), .val (.int p1), .val (.int (p0 &&& (7 : Int32))), .val (.int ((p1 &&& (-65536 : Int32)) ||| zm_38)), .val (.ref o_SEQ)] [(own_val ((p1 &&& (-65536 : Int32)) ||| zm_38) o_SEQ o_OR o_AND), (.ref o_SEQ)]))
                rw [al40]
                show OwnG p.tables e below _ (T41.setTop (mkF m 102 #[.val (.int p0), .val (.int p1), .val (.int (p0 &&& (7 : Int32))), .val (.int ((p1 &&& (-65536 : Int32)) ||| zm_38)), .val (.ref o_SEQ)] [(.ref o_SEQ), (.ref o_SEQ)]))
                refine own_go (fun t k => Jvm.RoadKit.acmp (g := (mkF m 102 #[.val (.int p0), .val (.int p1), .val (.int (p0 &&& (7 : Int32))), .val (.int ((p1 &&& (-65536 : Int32)) ||| zm_38)), .val (.ref o_SEQ)] [(.ref o_SEQ), (.ref o_SEQ)])) X41 hx rfl rfl rfl (pc0 := 102) (pc' := 105) (same := true) rfl (hb hby at_102) rfl (decide_eq_true rfl) (by decide) (by decide) k) ?_
                show OwnG p.tables e below _ (T41.setTop (mkF m 105 #[.val (.int p0), .val (.int p1), .val (.int (p0 &&& (7 : Int32))), .val (.int ((p1 &&& (-65536 : Int32)) ||| zm_38)), .val (.ref o_SEQ)] []))
                refine own_go (fun t k => XS.iconst X41.here hx rfl (hb hby at_105) k) ?_
                show OwnG p.tables e below _ (T41.setTop (mkF m 106 #[.val (.int p0), .val (.int p1), .val (.int (p0 &&& (7 : Int32))), .val (.int ((p1 &&& (-65536 : Int32)) ||| zm_38)), .val (.ref o_SEQ)] [(.int (1 : Int32))]))
                refine own_go (fun t k => XS.goto X41.here hx rfl (pc0 := 106) (pc' := 110) rfl (hb hby at_106) (by decide) (by decide) k) ?_
                show OwnG p.tables e below _ (T41.setTop (mkF m 110 #[.val (.int p0), .val (.int p1), .val (.int (p0 &&& (7 : Int32))), .val (.int ((p1 &&& (-65536 : Int32)) ||| zm_38)), .val (.ref o_SEQ)] [(.int (1 : Int32))]))
                obtain ⟨fs, hr, hrun, hended, hW, hsame⟩ := X41.leave (v := some (.int (1 : Int32))) (fun h => by rw [Bd.returns] at h; cases h)
                refine ⟨_, _, retN X41 hx (t := .boolean) Bd.returns (by simp) (hb hby at_110) hr, hrun, hended, _, _, rfl, ?_, ⟨_, rfl⟩, hW, hsame.mono (by decide) (by decide)⟩
                show Q_own_law Z p0 p1 o_CONNECTORS o_SEQ o_OR o_AND kc_o_CONNECTORS h0 n0 _ T41.heap _
                rw [e41]
                exact ⟨rfl, N41⟩
              · rw [al40]
                show OwnG p.tables e below _ (T39.setTop (mkF m 94 #[.val (.int p0), .val (.int p1), .val (.int (p0 &&& (7 : Int32))), .val (.int ((p1 &&& (-65536 : Int32)) ||| zm_38)), .unset] [(.ref o_OR)]))
                refine own_go (fun t k => XS.astore X39.here hx rfl (hb hby at_94) rfl rfl (l' := #[.val (.int p0), .val (.int p1), .val (.int (p0 &&& (7 : Int32))), .val (.int ((p1 &&& (-65536 : Int32)) ||| zm_38)), .val (.ref o_OR)]) rfl k) ?_
                show OwnG p.tables e below _ (T39.setTop (mkF m 96 #[.val (.int p0), .val (.int p1), .val (.int (p0 &&& (7 : Int32))), .val (.int ((p1 &&& (-65536 : Int32)) ||| zm_38)), .val (.ref o_OR)] []))
                refine own_go (fun t k => XS.aload X39.here hx rfl (hb hby at_96) rfl rfl k) ?_
                show OwnG p.tables e below _ (T39.setTop (mkF m 98 #[.val (.int p0), .val (.int p1), .val (.int (p0 &&& (7 : Int32))), .val (.int ((p1 &&& (-65536 : Int32)) ||| zm_38)), .val (.ref o_OR)] [(.ref o_OR)]))
                refine own_go (fun t k => XS.iloadN X39.here hx rfl (hb hby at_98) rfl  k) ?_
                show OwnG p.tables e below _ (T39.setTop (mkF m 99 #[.val (.int p0), .val (.int p1), .val (.int (p0 &&& (7 : Int32))), .val (.int ((p1 &&& (-65536 : Int32)) ||| zm_38)), .val (.ref o_OR)] [(.int ((p1 &&& (-65536 : Int32)) ||| zm_38)), (.ref o_OR)]))
                obtain ⟨_, _, ⟨T42, L42, k42, n42⟩, -, X42, ⟨Lc42, hQ42, l42, y42, z42⟩, st42⟩ := Jvm.LawKit.callS X39 hx (y := (⟨"com/example/vigilant_grammar/vigilantgrammar/ConnectorWrittenAsPinLaw", "expected", "(I)Lcom/example/vigilant_grammar/vigilantgrammar/ModelGroup$Connector;"⟩ : MethodName)) hown (mvT hZ (hw _ (List.mem_of_getElem? (i := 9) rfl))) (mvT hZ (hw _ (List.mem_of_getElem? (i := 10) rfl))) (mvT hZ (hw _ (List.mem_of_getElem? (i := 11) rfl))) (mvT hZ (hw _ (List.mem_of_getElem? (i := 12) rfl))) (by decide) (backOf (W := 1) (own_expected l Z a0 hw [] ((p1 &&& (-65536 : Int32)) ||| zm_38) o_CONNECTORS o_SEQ o_OR o_AND kc_o_CONNECTORS h0 n0 Z0 O0 S_CONNECTORS S_SEQ E_o_SEQ F_o_SEQ_mark S_OR E_o_OR F_o_OR_mark S_AND E_o_AND F_o_AND_mark V_o_CONNECTORS) hZ (hw _ (List.mem_of_getElem? (i := 12) rfl)) (hw _ (List.mem_of_getElem? (i := 11) rfl)) (by decide) (by decide)) (g := (mkF m 99 #[.val (.int p0), .val (.int p1), .val (.int (p0 &&& (7 : Int32))), .val (.int ((p1 &&& (-65536 : Int32)) ||| zm_38)), .val (.ref o_OR)] [(.int ((p1 &&& (-65536 : Int32)) ||| zm_38)), (.ref o_OR)])) rfl (by rw [hml]; rfl) (argsL := [(.int ((p1 &&& (-65536 : Int32)) ||| zm_38))]) (rest := [(.ref o_OR)]) (lenOf own_pd64 rfl) rfl (by show 2 * 0 + _ ≤ _; exact Nat.le_of_eq rfl) (hb hby at_99) (fun _ _ => ⟨rfl, e39, (by decide : 0 + 0 ≤ _), (by decide : 0 + 0 ≤ _)⟩)
                dsimp only [Pt.U, Pt.locs, Pt.cells, Pt.slots] at X42 l42 y42 z42 st42 hQ42
                subst l42 y42 z42
                obtain ⟨rfl, Nq42, eq42⟩ := hQ42
                have N42 := Fr.app N39 Nq42
                have e42 : T42.heap = h0 := eq42
                refine own_go (fun t k => st42 t k) ?_
                show OwnG p.tables e below _ (T42.setTop (mkF m 102 #[.val (.int p0), .val (.int p1), .val (.int (p0 &&& (7 : Int32))), .val (.int ((p1 &&& (-65536 : Int32)) ||| zm_38)), .val (.ref o_OR)] [(own_val ((p1 &&& (-65536 : Int32)) ||| zm_38) o_SEQ o_OR o_AND), (.ref o_OR)]))
                rw [al40]
                show OwnG p.tables e below _ (T42.setTop (mkF m 102 #[.val (.int p0), .val (.int p1), .val (.int (p0 &&& (7 : Int32))), .val (.int ((p1 &&& (-65536 : Int32)) ||| zm_38)), .val (.ref o_OR)] [(.ref o_OR), (.ref o_OR)]))
                refine own_go (fun t k => Jvm.RoadKit.acmp (g := (mkF m 102 #[.val (.int p0), .val (.int p1), .val (.int (p0 &&& (7 : Int32))), .val (.int ((p1 &&& (-65536 : Int32)) ||| zm_38)), .val (.ref o_OR)] [(.ref o_OR), (.ref o_OR)])) X42 hx rfl rfl rfl (pc0 := 102) (pc' := 105) (same := true) rfl (hb hby at_102) rfl (decide_eq_true rfl) (by decide) (by decide) k) ?_
                show OwnG p.tables e below _ (T42.setTop (mkF m 105 #[.val (.int p0), .val (.int p1), .val (.int (p0 &&& (7 : Int32))), .val (.int ((p1 &&& (-65536 : Int32)) ||| zm_38)), .val (.ref o_OR)] []))
                refine own_go (fun t k => XS.iconst X42.here hx rfl (hb hby at_105) k) ?_
                show OwnG p.tables e below _ (T42.setTop (mkF m 106 #[.val (.int p0), .val (.int p1), .val (.int (p0 &&& (7 : Int32))), .val (.int ((p1 &&& (-65536 : Int32)) ||| zm_38)), .val (.ref o_OR)] [(.int (1 : Int32))]))
                refine own_go (fun t k => XS.goto X42.here hx rfl (pc0 := 106) (pc' := 110) rfl (hb hby at_106) (by decide) (by decide) k) ?_
                show OwnG p.tables e below _ (T42.setTop (mkF m 110 #[.val (.int p0), .val (.int p1), .val (.int (p0 &&& (7 : Int32))), .val (.int ((p1 &&& (-65536 : Int32)) ||| zm_38)), .val (.ref o_OR)] [(.int (1 : Int32))]))
                obtain ⟨fs, hr, hrun, hended, hW, hsame⟩ := X42.leave (v := some (.int (1 : Int32))) (fun h => by rw [Bd.returns] at h; cases h)
                refine ⟨_, _, retN X42 hx (t := .boolean) Bd.returns (by simp) (hb hby at_110) hr, hrun, hended, _, _, rfl, ?_, ⟨_, rfl⟩, hW, hsame.mono (by decide) (by decide)⟩
                show Q_own_law Z p0 p1 o_CONNECTORS o_SEQ o_OR o_AND kc_o_CONNECTORS h0 n0 _ T42.heap _
                rw [e42]
                exact ⟨rfl, N42⟩
              · rw [al40]
                show OwnG p.tables e below _ (T39.setTop (mkF m 94 #[.val (.int p0), .val (.int p1), .val (.int (p0 &&& (7 : Int32))), .val (.int ((p1 &&& (-65536 : Int32)) ||| zm_38)), .unset] [(.ref o_AND)]))
                refine own_go (fun t k => XS.astore X39.here hx rfl (hb hby at_94) rfl rfl (l' := #[.val (.int p0), .val (.int p1), .val (.int (p0 &&& (7 : Int32))), .val (.int ((p1 &&& (-65536 : Int32)) ||| zm_38)), .val (.ref o_AND)]) rfl k) ?_
                show OwnG p.tables e below _ (T39.setTop (mkF m 96 #[.val (.int p0), .val (.int p1), .val (.int (p0 &&& (7 : Int32))), .val (.int ((p1 &&& (-65536 : Int32)) ||| zm_38)), .val (.ref o_AND)] []))
                refine own_go (fun t k => XS.aload X39.here hx rfl (hb hby at_96) rfl rfl k) ?_
                show OwnG p.tables e below _ (T39.setTop (mkF m 98 #[.val (.int p0), .val (.int p1), .val (.int (p0 &&& (7 : Int32))), .val (.int ((p1 &&& (-65536 : Int32)) ||| zm_38)), .val (.ref o_AND)] [(.ref o_AND)]))
                refine own_go (fun t k => XS.iloadN X39.here hx rfl (hb hby at_98) rfl  k) ?_
                show OwnG p.tables e below _ (T39.setTop (mkF m 99 #[.val (.int p0), .val (.int p1), .val (.int (p0 &&& (7 : Int32))), .val (.int ((p1 &&& (-65536 : Int32)) ||| zm_38)), .val (.ref o_AND)] [(.int ((p1 &&& (-65536 : Int32)) ||| zm_38)), (.ref o_AND)]))
                obtain ⟨_, _, ⟨T43, L43, k43, n43⟩, -, X43, ⟨Lc43, hQ43, l43, y43, z43⟩, st43⟩ := Jvm.LawKit.callS X39 hx (y := (⟨"com/example/vigilant_grammar/vigilantgrammar/ConnectorWrittenAsPinLaw", "expected", "(I)Lcom/example/vigilant_grammar/vigilantgrammar/ModelGroup$Connector;"⟩ : MethodName)) hown (mvT hZ (hw _ (List.mem_of_getElem? (i := 9) rfl))) (mvT hZ (hw _ (List.mem_of_getElem? (i := 10) rfl))) (mvT hZ (hw _ (List.mem_of_getElem? (i := 11) rfl))) (mvT hZ (hw _ (List.mem_of_getElem? (i := 12) rfl))) (by decide) (backOf (W := 1) (own_expected l Z a0 hw [] ((p1 &&& (-65536 : Int32)) ||| zm_38) o_CONNECTORS o_SEQ o_OR o_AND kc_o_CONNECTORS h0 n0 Z0 O0 S_CONNECTORS S_SEQ E_o_SEQ F_o_SEQ_mark S_OR E_o_OR F_o_OR_mark S_AND E_o_AND F_o_AND_mark V_o_CONNECTORS) hZ (hw _ (List.mem_of_getElem? (i := 12) rfl)) (hw _ (List.mem_of_getElem? (i := 11) rfl)) (by decide) (by decide)) (g := (mkF m 99 #[.val (.int p0), .val (.int p1), .val (.int (p0 &&& (7 : Int32))), .val (.int ((p1 &&& (-65536 : Int32)) ||| zm_38)), .val (.ref o_AND)] [(.int ((p1 &&& (-65536 : Int32)) ||| zm_38)), (.ref o_AND)])) rfl (by rw [hml]; rfl) (argsL := [(.int ((p1 &&& (-65536 : Int32)) ||| zm_38))]) (rest := [(.ref o_AND)]) (lenOf own_pd64 rfl) rfl (by show 2 * 0 + _ ≤ _; exact Nat.le_of_eq rfl) (hb hby at_99) (fun _ _ => ⟨rfl, e39, (by decide : 0 + 0 ≤ _), (by decide : 0 + 0 ≤ _)⟩)
                dsimp only [Pt.U, Pt.locs, Pt.cells, Pt.slots] at X43 l43 y43 z43 st43 hQ43
                subst l43 y43 z43
                obtain ⟨rfl, Nq43, eq43⟩ := hQ43
                have N43 := Fr.app N39 Nq43
                have e43 : T43.heap = h0 := eq43
                refine own_go (fun t k => st43 t k) ?_
                show OwnG p.tables e below _ (T43.setTop (mkF m 102 #[.val (.int p0), .val (.int p1), .val (.int (p0 &&& (7 : Int32))), .val (.int ((p1 &&& (-65536 : Int32)) ||| zm_38)), .val (.ref o_AND)] [(own_val ((p1 &&& (-65536 : Int32)) ||| zm_38) o_SEQ o_OR o_AND), (.ref o_AND)]))
                rw [al40]
                show OwnG p.tables e below _ (T43.setTop (mkF m 102 #[.val (.int p0), .val (.int p1), .val (.int (p0 &&& (7 : Int32))), .val (.int ((p1 &&& (-65536 : Int32)) ||| zm_38)), .val (.ref o_AND)] [(.ref o_AND), (.ref o_AND)]))
                refine own_go (fun t k => Jvm.RoadKit.acmp (g := (mkF m 102 #[.val (.int p0), .val (.int p1), .val (.int (p0 &&& (7 : Int32))), .val (.int ((p1 &&& (-65536 : Int32)) ||| zm_38)), .val (.ref o_AND)] [(.ref o_AND), (.ref o_AND)])) X43 hx rfl rfl rfl (pc0 := 102) (pc' := 105) (same := true) rfl (hb hby at_102) rfl (decide_eq_true rfl) (by decide) (by decide) k) ?_
                show OwnG p.tables e below _ (T43.setTop (mkF m 105 #[.val (.int p0), .val (.int p1), .val (.int (p0 &&& (7 : Int32))), .val (.int ((p1 &&& (-65536 : Int32)) ||| zm_38)), .val (.ref o_AND)] []))
                refine own_go (fun t k => XS.iconst X43.here hx rfl (hb hby at_105) k) ?_
                show OwnG p.tables e below _ (T43.setTop (mkF m 106 #[.val (.int p0), .val (.int p1), .val (.int (p0 &&& (7 : Int32))), .val (.int ((p1 &&& (-65536 : Int32)) ||| zm_38)), .val (.ref o_AND)] [(.int (1 : Int32))]))
                refine own_go (fun t k => XS.goto X43.here hx rfl (pc0 := 106) (pc' := 110) rfl (hb hby at_106) (by decide) (by decide) k) ?_
                show OwnG p.tables e below _ (T43.setTop (mkF m 110 #[.val (.int p0), .val (.int p1), .val (.int (p0 &&& (7 : Int32))), .val (.int ((p1 &&& (-65536 : Int32)) ||| zm_38)), .val (.ref o_AND)] [(.int (1 : Int32))]))
                obtain ⟨fs, hr, hrun, hended, hW, hsame⟩ := X43.leave (v := some (.int (1 : Int32))) (fun h => by rw [Bd.returns] at h; cases h)
                refine ⟨_, _, retN X43 hx (t := .boolean) Bd.returns (by simp) (hb hby at_110) hr, hrun, hended, _, _, rfl, ?_, ⟨_, rfl⟩, hW, hsame.mono (by decide) (by decide)⟩
                show Q_own_law Z p0 p1 o_CONNECTORS o_SEQ o_OR o_AND kc_o_CONNECTORS h0 n0 _ T43.heap _
                rw [e43]
                exact ⟨rfl, N43⟩
              · rw [al40]
                show OwnG p.tables e below _ (T39.setTop (mkF m 94 #[.val (.int p0), .val (.int p1), .val (.int (p0 &&& (7 : Int32))), .val (.int ((p1 &&& (-65536 : Int32)) ||| zm_38)), .unset] [.null]))
                refine own_go (fun t k => XS.astore X39.here hx rfl (hb hby at_94) rfl rfl (l' := #[.val (.int p0), .val (.int p1), .val (.int (p0 &&& (7 : Int32))), .val (.int ((p1 &&& (-65536 : Int32)) ||| zm_38)), .val .null]) rfl k) ?_
                show OwnG p.tables e below _ (T39.setTop (mkF m 96 #[.val (.int p0), .val (.int p1), .val (.int (p0 &&& (7 : Int32))), .val (.int ((p1 &&& (-65536 : Int32)) ||| zm_38)), .val .null] []))
                refine own_go (fun t k => XS.aload X39.here hx rfl (hb hby at_96) rfl rfl k) ?_
                show OwnG p.tables e below _ (T39.setTop (mkF m 98 #[.val (.int p0), .val (.int p1), .val (.int (p0 &&& (7 : Int32))), .val (.int ((p1 &&& (-65536 : Int32)) ||| zm_38)), .val .null] [.null]))
                refine own_go (fun t k => XS.iloadN X39.here hx rfl (hb hby at_98) rfl  k) ?_
                show OwnG p.tables e below _ (T39.setTop (mkF m 99 #[.val (.int p0), .val (.int p1), .val (.int (p0 &&& (7 : Int32))), .val (.int ((p1 &&& (-65536 : Int32)) ||| zm_38)), .val .null] [(.int ((p1 &&& (-65536 : Int32)) ||| zm_38)), .null]))
                obtain ⟨_, _, ⟨T44, L44, k44, n44⟩, -, X44, ⟨Lc44, hQ44, l44, y44, z44⟩, st44⟩ := Jvm.LawKit.callS X39 hx (y := (⟨"com/example/vigilant_grammar/vigilantgrammar/ConnectorWrittenAsPinLaw", "expected", "(I)Lcom/example/vigilant_grammar/vigilantgrammar/ModelGroup$Connector;"⟩ : MethodName)) hown (mvT hZ (hw _ (List.mem_of_getElem? (i := 9) rfl))) (mvT hZ (hw _ (List.mem_of_getElem? (i := 10) rfl))) (mvT hZ (hw _ (List.mem_of_getElem? (i := 11) rfl))) (mvT hZ (hw _ (List.mem_of_getElem? (i := 12) rfl))) (by decide) (backOf (W := 1) (own_expected l Z a0 hw [] ((p1 &&& (-65536 : Int32)) ||| zm_38) o_CONNECTORS o_SEQ o_OR o_AND kc_o_CONNECTORS h0 n0 Z0 O0 S_CONNECTORS S_SEQ E_o_SEQ F_o_SEQ_mark S_OR E_o_OR F_o_OR_mark S_AND E_o_AND F_o_AND_mark V_o_CONNECTORS) hZ (hw _ (List.mem_of_getElem? (i := 12) rfl)) (hw _ (List.mem_of_getElem? (i := 11) rfl)) (by decide) (by decide)) (g := (mkF m 99 #[.val (.int p0), .val (.int p1), .val (.int (p0 &&& (7 : Int32))), .val (.int ((p1 &&& (-65536 : Int32)) ||| zm_38)), .val .null] [(.int ((p1 &&& (-65536 : Int32)) ||| zm_38)), .null])) rfl (by rw [hml]; rfl) (argsL := [(.int ((p1 &&& (-65536 : Int32)) ||| zm_38))]) (rest := [.null]) (lenOf own_pd64 rfl) rfl (by show 2 * 0 + _ ≤ _; exact Nat.le_of_eq rfl) (hb hby at_99) (fun _ _ => ⟨rfl, e39, (by decide : 0 + 0 ≤ _), (by decide : 0 + 0 ≤ _)⟩)
                dsimp only [Pt.U, Pt.locs, Pt.cells, Pt.slots] at X44 l44 y44 z44 st44 hQ44
                subst l44 y44 z44
                obtain ⟨rfl, Nq44, eq44⟩ := hQ44
                have N44 := Fr.app N39 Nq44
                have e44 : T44.heap = h0 := eq44
                refine own_go (fun t k => st44 t k) ?_
                show OwnG p.tables e below _ (T44.setTop (mkF m 102 #[.val (.int p0), .val (.int p1), .val (.int (p0 &&& (7 : Int32))), .val (.int ((p1 &&& (-65536 : Int32)) ||| zm_38)), .val .null] [(own_val ((p1 &&& (-65536 : Int32)) ||| zm_38) o_SEQ o_OR o_AND), .null]))
                rw [al40]
                show OwnG p.tables e below _ (T44.setTop (mkF m 102 #[.val (.int p0), .val (.int p1), .val (.int (p0 &&& (7 : Int32))), .val (.int ((p1 &&& (-65536 : Int32)) ||| zm_38)), .val .null] [.null, .null]))
                refine own_go (fun t k => Jvm.RoadKit.acmp (g := (mkF m 102 #[.val (.int p0), .val (.int p1), .val (.int (p0 &&& (7 : Int32))), .val (.int ((p1 &&& (-65536 : Int32)) ||| zm_38)), .val .null] [.null, .null])) X44 hx rfl rfl rfl (pc0 := 102) (pc' := 105) (same := true) rfl (hb hby at_102) rfl (decide_eq_true rfl) (by decide) (by decide) k) ?_
                show OwnG p.tables e below _ (T44.setTop (mkF m 105 #[.val (.int p0), .val (.int p1), .val (.int (p0 &&& (7 : Int32))), .val (.int ((p1 &&& (-65536 : Int32)) ||| zm_38)), .val .null] []))
                refine own_go (fun t k => XS.iconst X44.here hx rfl (hb hby at_105) k) ?_
                show OwnG p.tables e below _ (T44.setTop (mkF m 106 #[.val (.int p0), .val (.int p1), .val (.int (p0 &&& (7 : Int32))), .val (.int ((p1 &&& (-65536 : Int32)) ||| zm_38)), .val .null] [(.int (1 : Int32))]))
                refine own_go (fun t k => XS.goto X44.here hx rfl (pc0 := 106) (pc' := 110) rfl (hb hby at_106) (by decide) (by decide) k) ?_
                show OwnG p.tables e below _ (T44.setTop (mkF m 110 #[.val (.int p0), .val (.int p1), .val (.int (p0 &&& (7 : Int32))), .val (.int ((p1 &&& (-65536 : Int32)) ||| zm_38)), .val .null] [(.int (1 : Int32))]))
                obtain ⟨fs, hr, hrun, hended, hW, hsame⟩ := X44.leave (v := some (.int (1 : Int32))) (fun h => by rw [Bd.returns] at h; cases h)
                refine ⟨_, _, retN X44 hx (t := .boolean) Bd.returns (by simp) (hb hby at_110) hr, hrun, hended, _, _, rfl, ?_, ⟨_, rfl⟩, hW, hsame.mono (by decide) (by decide)⟩
                show Q_own_law Z p0 p1 o_CONNECTORS o_SEQ o_OR o_AND kc_o_CONNECTORS h0 n0 _ T44.heap _
                rw [e44]
                exact ⟨rfl, N44⟩
            · refine own_go (fun t k => XS.icmpYes X0.here hx rfl (pc0 := 72) (pc' := 88) rfl (hb hby at_72) rfl (feq hc37).2 (by decide) (by decide) k) ?_
              show OwnG p.tables e below _ (s₁.setTop (mkF m 88 #[.val (.int p0), .val (.int p1), .val (.int (p0 &&& (7 : Int32))), .unset, .unset] []))
              refine own_go (fun t k => XS.iloadN X0.here hx rfl (hb hby at_88) rfl  k) ?_
              show OwnG p.tables e below _ (s₁.setTop (mkF m 89 #[.val (.int p0), .val (.int p1), .val (.int (p0 &&& (7 : Int32))), .unset, .unset] [(.int p1)]))
              refine own_go (fun t k => XS.istoreN X0.here hx rfl (hb hby at_89) rfl (l' := #[.val (.int p0), .val (.int p1), .val (.int (p0 &&& (7 : Int32))), .val (.int p1), .unset]) rfl k) ?_
              show OwnG p.tables e below _ (s₁.setTop (mkF m 90 #[.val (.int p0), .val (.int p1), .val (.int (p0 &&& (7 : Int32))), .val (.int p1), .unset] []))
              refine own_go (fun t k => XS.iloadN X0.here hx rfl (hb hby at_90) rfl  k) ?_
              show OwnG p.tables e below _ (s₁.setTop (mkF m 91 #[.val (.int p0), .val (.int p1), .val (.int (p0 &&& (7 : Int32))), .val (.int p1), .unset] [(.int p1)]))
              obtain ⟨_, _, ⟨T45, L45, k45, n45⟩, -, X45, ⟨Lc45, hQ45, l45, y45, z45⟩, st45⟩ := Jvm.LawKit.callS X0 hx (y := (⟨"com/example/vigilant_grammar/vigilantgrammar/ModelGroup$Connector", "writtenAs", "(I)Lcom/example/vigilant_grammar/vigilantgrammar/ModelGroup$Connector;"⟩ : MethodName)) hown (mvT hZ (hw _ (List.mem_of_getElem? (i := 0) rfl))) (mvT hZ (hw _ (List.mem_of_getElem? (i := 1) rfl))) (mvT hZ (hw _ (List.mem_of_getElem? (i := 2) rfl))) (mvT hZ (hw _ (List.mem_of_getElem? (i := 3) rfl))) (by decide) (backOf (W := 0) (own_written l Z a0 hw [] p1 o_CONNECTORS o_SEQ o_OR o_AND kc_o_CONNECTORS h0 n0 Z0 O0 S_CONNECTORS S_SEQ E_o_SEQ F_o_SEQ_mark S_OR E_o_OR F_o_OR_mark S_AND E_o_AND F_o_AND_mark V_o_CONNECTORS) hZ (hw _ (List.mem_of_getElem? (i := 3) rfl)) (hw _ (List.mem_of_getElem? (i := 2) rfl)) (by decide) (by decide)) (g := (mkF m 91 #[.val (.int p0), .val (.int p1), .val (.int (p0 &&& (7 : Int32))), .val (.int p1), .unset] [(.int p1)])) rfl (by rw [hml]; rfl) (argsL := [(.int p1)]) (rest := []) (lenOf own_pd64 rfl) rfl (by show 2 * 0 + _ ≤ _; exact Nat.le_of_eq rfl) (hb hby at_91) (fun _ _ => ⟨rfl, e0, (by decide : 0 + 0 ≤ _), (by decide : 0 + 0 ≤ _)⟩)
              dsimp only [Pt.U, Pt.locs, Pt.cells, Pt.slots] at X45 l45 y45 z45 st45 hQ45
              subst l45 y45 z45
              obtain ⟨rfl, Nq45, eq45⟩ := hQ45
              have N45 := Fr.app N0 Nq45
              have e45 : T45.heap = h0 := eq45
              refine own_go (fun t k => st45 t k) ?_
              show OwnG p.tables e below _ (T45.setTop (mkF m 94 #[.val (.int p0), .val (.int p1), .val (.int (p0 &&& (7 : Int32))), .val (.int p1), .unset] [(own_val p1 o_SEQ o_OR o_AND)]))
              rcases own_val_or p1 o_SEQ o_OR o_AND with al46 | al46 | al46 | al46
              · rw [al46]
                show OwnG p.tables e below _ (T45.setTop (mkF m 94 #[.val (.int p0), .val (.int p1), .val (.int (p0 &&& (7 : Int32))), .val (.int p1), .unset] [(.ref o_SEQ)]))
                refine own_go (fun t k => XS.astore X45.here hx rfl (hb hby at_94) rfl rfl (l' := #[.val (.int p0), .val (.int p1), .val (.int (p0 &&& (7 : Int32))), .val (.int p1), .val (.ref o_SEQ)]) rfl k) ?_
                show OwnG p.tables e below _ (T45.setTop (mkF m 96 #[.val (.int p0), .val (.int p1), .val (.int (p0 &&& (7 : Int32))), .val (.int p1), .val (.ref o_SEQ)] []))
                refine own_go (fun t k => XS.aload X45.here hx rfl (hb hby at_96) rfl rfl k) ?_
                show OwnG p.tables e below _ (T45.setTop (mkF m 98 #[.val (.int p0), .val (.int p1), .val (.int (p0 &&& (7 : Int32))), .val (.int p1), .val (.ref o_SEQ)] [(.ref o_SEQ)]))
                refine own_go (fun t k => XS.iloadN X45.here hx rfl (hb hby at_98) rfl  k) ?_
                show OwnG p.tables e below _ (T45.setTop (mkF m 99 #[.val (.int p0), .val (.int p1), .val (.int (p0 &&& (7 : Int32))), .val (.int p1), .val (.ref o_SEQ)] [(.int p1), (.ref o_SEQ)]))
                obtain ⟨_, _, ⟨T47, L47, k47, n47⟩, -, X47, ⟨Lc47, hQ47, l47, y47, z47⟩, st47⟩ := Jvm.LawKit.callS X45 hx (y := (⟨"com/example/vigilant_grammar/vigilantgrammar/ConnectorWrittenAsPinLaw", "expected", "(I)Lcom/example/vigilant_grammar/vigilantgrammar/ModelGroup$Connector;"⟩ : MethodName)) hown (mvT hZ (hw _ (List.mem_of_getElem? (i := 9) rfl))) (mvT hZ (hw _ (List.mem_of_getElem? (i := 10) rfl))) (mvT hZ (hw _ (List.mem_of_getElem? (i := 11) rfl))) (mvT hZ (hw _ (List.mem_of_getElem? (i := 12) rfl))) (by decide) (backOf (W := 1) (own_expected l Z a0 hw [] p1 o_CONNECTORS o_SEQ o_OR o_AND kc_o_CONNECTORS h0 n0 Z0 O0 S_CONNECTORS S_SEQ E_o_SEQ F_o_SEQ_mark S_OR E_o_OR F_o_OR_mark S_AND E_o_AND F_o_AND_mark V_o_CONNECTORS) hZ (hw _ (List.mem_of_getElem? (i := 12) rfl)) (hw _ (List.mem_of_getElem? (i := 11) rfl)) (by decide) (by decide)) (g := (mkF m 99 #[.val (.int p0), .val (.int p1), .val (.int (p0 &&& (7 : Int32))), .val (.int p1), .val (.ref o_SEQ)] [(.int p1), (.ref o_SEQ)])) rfl (by rw [hml]; rfl) (argsL := [(.int p1)]) (rest := [(.ref o_SEQ)]) (lenOf own_pd64 rfl) rfl (by show 2 * 0 + _ ≤ _; exact Nat.le_of_eq rfl) (hb hby at_99) (fun _ _ => ⟨rfl, e45, (by decide : 0 + 0 ≤ _), (by decide : 0 + 0 ≤ _)⟩)
                dsimp only [Pt.U, Pt.locs, Pt.cells, Pt.slots] at X47 l47 y47 z47 st47 hQ47
                subst l47 y47 z47
                obtain ⟨rfl, Nq47, eq47⟩ := hQ47
                have N47 := Fr.app N45 Nq47
                have e47 : T47.heap = h0 := eq47
                refine own_go (fun t k => st47 t k) ?_
                show OwnG p.tables e below _ (T47.setTop (mkF m 102 #[.val (.int p0), .val (.int p1), .val (.int (p0 &&& (7 : Int32))), .val (.int p1), .val (.ref o_SEQ)] [(own_val p1 o_SEQ o_OR o_AND), (.ref o_SEQ)]))
                rw [al46]
                show OwnG p.tables e below _ (T47.setTop (mkF m 102 #[.val (.int p0), .val (.int p1), .val (.int (p0 &&& (7 : Int32))), .val (.int p1), .val (.ref o_SEQ)] [(.ref o_SEQ), (.ref o_SEQ)]))
                refine own_go (fun t k => Jvm.RoadKit.acmp (g := (mkF m 102 #[.val (.int p0), .val (.int p1), .val (.int (p0 &&& (7 : Int32))), .val (.int p1), .val (.ref o_SEQ)] [(.ref o_SEQ), (.ref o_SEQ)])) X47 hx rfl rfl rfl (pc0 := 102) (pc' := 105) (same := true) rfl (hb hby at_102) rfl (decide_eq_true rfl) (by decide) (by decide) k) ?_
                show OwnG p.tables e below _ (T47.setTop (mkF m 105 #[.val (.int p0), .val (.int p1), .val (.int (p0 &&& (7 : Int32))), .val (.int p1), .val (.ref o_SEQ)] []))
                refine own_go (fun t k => XS.iconst X47.here hx rfl (hb hby at_105) k) ?_
                show OwnG p.tables e below _ (T47.setTop (mkF m 106 #[.val (.int p0), .val (.int p1), .val (.int (p0 &&& (7 : Int32))), .val (.int p1), .val (.ref o_SEQ)] [(.int (1 : Int32))]))
                refine own_go (fun t k => XS.goto X47.here hx rfl (pc0 := 106) (pc' := 110) rfl (hb hby at_106) (by decide) (by decide) k) ?_
                show OwnG p.tables e below _ (T47.setTop (mkF m 110 #[.val (.int p0), .val (.int p1), .val (.int (p0 &&& (7 : Int32))), .val (.int p1), .val (.ref o_SEQ)] [(.int (1 : Int32))]))
                obtain ⟨fs, hr, hrun, hended, hW, hsame⟩ := X47.leave (v := some (.int (1 : Int32))) (fun h => by rw [Bd.returns] at h; cases h)
                refine ⟨_, _, retN X47 hx (t := .boolean) Bd.returns (by simp) (hb hby at_110) hr, hrun, hended, _, _, rfl, ?_, ⟨_, rfl⟩, hW, hsame.mono (by decide) (by decide)⟩
                show Q_own_law Z p0 p1 o_CONNECTORS o_SEQ o_OR o_AND kc_o_CONNECTORS h0 n0 _ T47.heap _
                rw [e47]
                exact ⟨rfl, N47⟩
              · rw [al46]
                show OwnG p.tables e below _ (T45.setTop (mkF m 94 #[.val (.int p0), .val (.int p1), .val (.int (p0 &&& (7 : Int32))), .val (.int p1), .unset] [(.ref o_OR)]))
                refine own_go (fun t k => XS.astore X45.here hx rfl (hb hby at_94) rfl rfl (l' := #[.val (.int p0), .val (.int p1), .val (.int (p0 &&& (7 : Int32))), .val (.int p1), .val (.ref o_OR)]) rfl k) ?_
                show OwnG p.tables e below _ (T45.setTop (mkF m 96 #[.val (.int p0), .val (.int p1), .val (.int (p0 &&& (7 : Int32))), .val (.int p1), .val (.ref o_OR)] []))
                refine own_go (fun t k => XS.aload X45.here hx rfl (hb hby at_96) rfl rfl k) ?_
                show OwnG p.tables e below _ (T45.setTop (mkF m 98 #[.val (.int p0), .val (.int p1), .val (.int (p0 &&& (7 : Int32))), .val (.int p1), .val (.ref o_OR)] [(.ref o_OR)]))
                refine own_go (fun t k => XS.iloadN X45.here hx rfl (hb hby at_98) rfl  k) ?_
                show OwnG p.tables e below _ (T45.setTop (mkF m 99 #[.val (.int p0), .val (.int p1), .val (.int (p0 &&& (7 : Int32))), .val (.int p1), .val (.ref o_OR)] [(.int p1), (.ref o_OR)]))
                obtain ⟨_, _, ⟨T48, L48, k48, n48⟩, -, X48, ⟨Lc48, hQ48, l48, y48, z48⟩, st48⟩ := Jvm.LawKit.callS X45 hx (y := (⟨"com/example/vigilant_grammar/vigilantgrammar/ConnectorWrittenAsPinLaw", "expected", "(I)Lcom/example/vigilant_grammar/vigilantgrammar/ModelGroup$Connector;"⟩ : MethodName)) hown (mvT hZ (hw _ (List.mem_of_getElem? (i := 9) rfl))) (mvT hZ (hw _ (List.mem_of_getElem? (i := 10) rfl))) (mvT hZ (hw _ (List.mem_of_getElem? (i := 11) rfl))) (mvT hZ (hw _ (List.mem_of_getElem? (i := 12) rfl))) (by decide) (backOf (W := 1) (own_expected l Z a0 hw [] p1 o_CONNECTORS o_SEQ o_OR o_AND kc_o_CONNECTORS h0 n0 Z0 O0 S_CONNECTORS S_SEQ E_o_SEQ F_o_SEQ_mark S_OR E_o_OR F_o_OR_mark S_AND E_o_AND F_o_AND_mark V_o_CONNECTORS) hZ (hw _ (List.mem_of_getElem? (i := 12) rfl)) (hw _ (List.mem_of_getElem? (i := 11) rfl)) (by decide) (by decide)) (g := (mkF m 99 #[.val (.int p0), .val (.int p1), .val (.int (p0 &&& (7 : Int32))), .val (.int p1), .val (.ref o_OR)] [(.int p1), (.ref o_OR)])) rfl (by rw [hml]; rfl) (argsL := [(.int p1)]) (rest := [(.ref o_OR)]) (lenOf own_pd64 rfl) rfl (by show 2 * 0 + _ ≤ _; exact Nat.le_of_eq rfl) (hb hby at_99) (fun _ _ => ⟨rfl, e45, (by decide : 0 + 0 ≤ _), (by decide : 0 + 0 ≤ _)⟩)
                dsimp only [Pt.U, Pt.locs, Pt.cells, Pt.slots] at X48 l48 y48 z48 st48 hQ48
                subst l48 y48 z48
                obtain ⟨rfl, Nq48, eq48⟩ := hQ48
                have N48 := Fr.app N45 Nq48
                have e48 : T48.heap = h0 := eq48
                refine own_go (fun t k => st48 t k) ?_
                show OwnG p.tables e below _ (T48.setTop (mkF m 102 #[.val (.int p0), .val (.int p1), .val (.int (p0 &&& (7 : Int32))), .val (.int p1), .val (.ref o_OR)] [(own_val p1 o_SEQ o_OR o_AND), (.ref o_OR)]))
                rw [al46]
                show OwnG p.tables e below _ (T48.setTop (mkF m 102 #[.val (.int p0), .val (.int p1), .val (.int (p0 &&& (7 : Int32))), .val (.int p1), .val (.ref o_OR)] [(.ref o_OR), (.ref o_OR)]))
                refine own_go (fun t k => Jvm.RoadKit.acmp (g := (mkF m 102 #[.val (.int p0), .val (.int p1), .val (.int (p0 &&& (7 : Int32))), .val (.int p1), .val (.ref o_OR)] [(.ref o_OR), (.ref o_OR)])) X48 hx rfl rfl rfl (pc0 := 102) (pc' := 105) (same := true) rfl (hb hby at_102) rfl (decide_eq_true rfl) (by decide) (by decide) k) ?_
                show OwnG p.tables e below _ (T48.setTop (mkF m 105 #[.val (.int p0), .val (.int p1), .val (.int (p0 &&& (7 : Int32))), .val (.int p1), .val (.ref o_OR)] []))
                refine own_go (fun t k => XS.iconst X48.here hx rfl (hb hby at_105) k) ?_
                show OwnG p.tables e below _ (T48.setTop (mkF m 106 #[.val (.int p0), .val (.int p1), .val (.int (p0 &&& (7 : Int32))), .val (.int p1), .val (.ref o_OR)] [(.int (1 : Int32))]))
                refine own_go (fun t k => XS.goto X48.here hx rfl (pc0 := 106) (pc' := 110) rfl (hb hby at_106) (by decide) (by decide) k) ?_
                show OwnG p.tables e below _ (T48.setTop (mkF m 110 #[.val (.int p0), .val (.int p1), .val (.int (p0 &&& (7 : Int32))), .val (.int p1), .val (.ref o_OR)] [(.int (1 : Int32))]))
                obtain ⟨fs, hr, hrun, hended, hW, hsame⟩ := X48.leave (v := some (.int (1 : Int32))) (fun h => by rw [Bd.returns] at h; cases h)
                refine ⟨_, _, retN X48 hx (t := .boolean) Bd.returns (by simp) (hb hby at_110) hr, hrun, hended, _, _, rfl, ?_, ⟨_, rfl⟩, hW, hsame.mono (by decide) (by decide)⟩
                show Q_own_law Z p0 p1 o_CONNECTORS o_SEQ o_OR o_AND kc_o_CONNECTORS h0 n0 _ T48.heap _
                rw [e48]
                exact ⟨rfl, N48⟩
              · rw [al46]
                show OwnG p.tables e below _ (T45.setTop (mkF m 94 #[.val (.int p0), .val (.int p1), .val (.int (p0 &&& (7 : Int32))), .val (.int p1), .unset] [(.ref o_AND)]))
                refine own_go (fun t k => XS.astore X45.here hx rfl (hb hby at_94) rfl rfl (l' := #[.val (.int p0), .val (.int p1), .val (.int (p0 &&& (7 : Int32))), .val (.int p1), .val (.ref o_AND)]) rfl k) ?_
                show OwnG p.tables e below _ (T45.setTop (mkF m 96 #[.val (.int p0), .val (.int p1), .val (.int (p0 &&& (7 : Int32))), .val (.int p1), .val (.ref o_AND)] []))
                refine own_go (fun t k => XS.aload X45.here hx rfl (hb hby at_96) rfl rfl k) ?_
                show OwnG p.tables e below _ (T45.setTop (mkF m 98 #[.val (.int p0), .val (.int p1), .val (.int (p0 &&& (7 : Int32))), .val (.int p1), .val (.ref o_AND)] [(.ref o_AND)]))
                refine own_go (fun t k => XS.iloadN X45.here hx rfl (hb hby at_98) rfl  k) ?_
                show OwnG p.tables e below _ (T45.setTop (mkF m 99 #[.val (.int p0), .val (.int p1), .val (.int (p0 &&& (7 : Int32))), .val (.int p1), .val (.ref o_AND)] [(.int p1), (.ref o_AND)]))
                obtain ⟨_, _, ⟨T49, L49, k49, n49⟩, -, X49, ⟨Lc49, hQ49, l49, y49, z49⟩, st49⟩ := Jvm.LawKit.callS X45 hx (y := (⟨"com/example/vigilant_grammar/vigilantgrammar/ConnectorWrittenAsPinLaw", "expected", "(I)Lcom/example/vigilant_grammar/vigilantgrammar/ModelGroup$Connector;"⟩ : MethodName)) hown (mvT hZ (hw _ (List.mem_of_getElem? (i := 9) rfl))) (mvT hZ (hw _ (List.mem_of_getElem? (i := 10) rfl))) (mvT hZ (hw _ (List.mem_of_getElem? (i := 11) rfl))) (mvT hZ (hw _ (List.mem_of_getElem? (i := 12) rfl))) (by decide) (backOf (W := 1) (own_expected l Z a0 hw [] p1 o_CONNECTORS o_SEQ o_OR o_AND kc_o_CONNECTORS h0 n0 Z0 O0 S_CONNECTORS S_SEQ E_o_SEQ F_o_SEQ_mark S_OR E_o_OR F_o_OR_mark S_AND E_o_AND F_o_AND_mark V_o_CONNECTORS) hZ (hw _ (List.mem_of_getElem? (i := 12) rfl)) (hw _ (List.mem_of_getElem? (i := 11) rfl)) (by decide) (by decide)) (g := (mkF m 99 #[.val (.int p0), .val (.int p1), .val (.int (p0 &&& (7 : Int32))), .val (.int p1), .val (.ref o_AND)] [(.int p1), (.ref o_AND)])) rfl (by rw [hml]; rfl) (argsL := [(.int p1)]) (rest := [(.ref o_AND)]) (lenOf own_pd64 rfl) rfl (by show 2 * 0 + _ ≤ _; exact Nat.le_of_eq rfl) (hb hby at_99) (fun _ _ => ⟨rfl, e45, (by decide : 0 + 0 ≤ _), (by decide : 0 + 0 ≤ _)⟩)
                dsimp only [Pt.U, Pt.locs, Pt.cells, Pt.slots] at X49 l49 y49 z49 st49 hQ49
                subst l49 y49 z49
                obtain ⟨rfl, Nq49, eq49⟩ := hQ49
                have N49 := Fr.app N45 Nq49
                have e49 : T49.heap = h0 := eq49
                refine own_go (fun t k => st49 t k) ?_
                show OwnG p.tables e below _ (T49.setTop (mkF m 102 #[.val (.int p0), .val (.int p1), .val (.int (p0 &&& (7 : Int32))), .val (.int p1), .val (.ref o_AND)] [(own_val p1 o_SEQ o_OR o_AND), (.ref o_AND)]))
                rw [al46]
                show OwnG p.tables e below _ (T49.setTop (mkF m 102 #[.val (.int p0), .val (.int p1), .val (.int (p0 &&& (7 : Int32))), .val (.int p1), .val (.ref o_AND)] [(.ref o_AND), (.ref o_AND)]))
                refine own_go (fun t k => Jvm.RoadKit.acmp (g := (mkF m 102 #[.val (.int p0), .val (.int p1), .val (.int (p0 &&& (7 : Int32))), .val (.int p1), .val (.ref o_AND)] [(.ref o_AND), (.ref o_AND)])) X49 hx rfl rfl rfl (pc0 := 102) (pc' := 105) (same := true) rfl (hb hby at_102) rfl (decide_eq_true rfl) (by decide) (by decide) k) ?_
                show OwnG p.tables e below _ (T49.setTop (mkF m 105 #[.val (.int p0), .val (.int p1), .val (.int (p0 &&& (7 : Int32))), .val (.int p1), .val (.ref o_AND)] []))
                refine own_go (fun t k => XS.iconst X49.here hx rfl (hb hby at_105) k) ?_
                show OwnG p.tables e below _ (T49.setTop (mkF m 106 #[.val (.int p0), .val (.int p1), .val (.int (p0 &&& (7 : Int32))), .val (.int p1), .val (.ref o_AND)] [(.int (1 : Int32))]))
                refine own_go (fun t k => XS.goto X49.here hx rfl (pc0 := 106) (pc' := 110) rfl (hb hby at_106) (by decide) (by decide) k) ?_
                show OwnG p.tables e below _ (T49.setTop (mkF m 110 #[.val (.int p0), .val (.int p1), .val (.int (p0 &&& (7 : Int32))), .val (.int p1), .val (.ref o_AND)] [(.int (1 : Int32))]))
                obtain ⟨fs, hr, hrun, hended, hW, hsame⟩ := X49.leave (v := some (.int (1 : Int32))) (fun h => by rw [Bd.returns] at h; cases h)
                refine ⟨_, _, retN X49 hx (t := .boolean) Bd.returns (by simp) (hb hby at_110) hr, hrun, hended, _, _, rfl, ?_, ⟨_, rfl⟩, hW, hsame.mono (by decide) (by decide)⟩
                show Q_own_law Z p0 p1 o_CONNECTORS o_SEQ o_OR o_AND kc_o_CONNECTORS h0 n0 _ T49.heap _
                rw [e49]
                exact ⟨rfl, N49⟩
              · rw [al46]
                show OwnG p.tables e below _ (T45.setTop (mkF m 94 #[.val (.int p0), .val (.int p1), .val (.int (p0 &&& (7 : Int32))), .val (.int p1), .unset] [.null]))
                refine own_go (fun t k => XS.astore X45.here hx rfl (hb hby at_94) rfl rfl (l' := #[.val (.int p0), .val (.int p1), .val (.int (p0 &&& (7 : Int32))), .val (.int p1), .val .null]) rfl k) ?_
                show OwnG p.tables e below _ (T45.setTop (mkF m 96 #[.val (.int p0), .val (.int p1), .val (.int (p0 &&& (7 : Int32))), .val (.int p1), .val .null] []))
                refine own_go (fun t k => XS.aload X45.here hx rfl (hb hby at_96) rfl rfl k) ?_
                show OwnG p.tables e below _ (T45.setTop (mkF m 98 #[.val (.int p0), .val (.int p1), .val (.int (p0 &&& (7 : Int32))), .val (.int p1), .val .null] [.null]))
                refine own_go (fun t k => XS.iloadN X45.here hx rfl (hb hby at_98) rfl  k) ?_
                show OwnG p.tables e below _ (T45.setTop (mkF m 99 #[.val (.int p0), .val (.int p1), .val (.int (p0 &&& (7 : Int32))), .val (.int p1), .val .null] [(.int p1), .null]))
                obtain ⟨_, _, ⟨T50, L50, k50, n50⟩, -, X50, ⟨Lc50, hQ50, l50, y50, z50⟩, st50⟩ := Jvm.LawKit.callS X45 hx (y := (⟨"com/example/vigilant_grammar/vigilantgrammar/ConnectorWrittenAsPinLaw", "expected", "(I)Lcom/example/vigilant_grammar/vigilantgrammar/ModelGroup$Connector;"⟩ : MethodName)) hown (mvT hZ (hw _ (List.mem_of_getElem? (i := 9) rfl))) (mvT hZ (hw _ (List.mem_of_getElem? (i := 10) rfl))) (mvT hZ (hw _ (List.mem_of_getElem? (i := 11) rfl))) (mvT hZ (hw _ (List.mem_of_getElem? (i := 12) rfl))) (by decide) (backOf (W := 1) (own_expected l Z a0 hw [] p1 o_CONNECTORS o_SEQ o_OR o_AND kc_o_CONNECTORS h0 n0 Z0 O0 S_CONNECTORS S_SEQ E_o_SEQ F_o_SEQ_mark S_OR E_o_OR F_o_OR_mark S_AND E_o_AND F_o_AND_mark V_o_CONNECTORS) hZ (hw _ (List.mem_of_getElem? (i := 12) rfl)) (hw _ (List.mem_of_getElem? (i := 11) rfl)) (by decide) (by decide)) (g := (mkF m 99 #[.val (.int p0), .val (.int p1), .val (.int (p0 &&& (7 : Int32))), .val (.int p1), .val .null] [(.int p1), .null])) rfl (by rw [hml]; rfl) (argsL := [(.int p1)]) (rest := [.null]) (lenOf own_pd64 rfl) rfl (by show 2 * 0 + _ ≤ _; exact Nat.le_of_eq rfl) (hb hby at_99) (fun _ _ => ⟨rfl, e45, (by decide : 0 + 0 ≤ _), (by decide : 0 + 0 ≤ _)⟩)
                dsimp only [Pt.U, Pt.locs, Pt.cells, Pt.slots] at X50 l50 y50 z50 st50 hQ50
                subst l50 y50 z50
                obtain ⟨rfl, Nq50, eq50⟩ := hQ50
                have N50 := Fr.app N45 Nq50
                have e50 : T50.heap = h0 := eq50
                refine own_go (fun t k => st50 t k) ?_
                show OwnG p.tables e below _ (T50.setTop (mkF m 102 #[.val (.int p0), .val (.int p1), .val (.int (p0 &&& (7 : Int32))), .val (.int p1), .val .null] [(own_val p1 o_SEQ o_OR o_AND), .null]))
                rw [al46]
                show OwnG p.tables e below _ (T50.setTop (mkF m 102 #[.val (.int p0), .val (.int p1), .val (.int (p0 &&& (7 : Int32))), .val (.int p1), .val .null] [.null, .null]))
                refine own_go (fun t k => Jvm.RoadKit.acmp (g := (mkF m 102 #[.val (.int p0), .val (.int p1), .val (.int (p0 &&& (7 : Int32))), .val (.int p1), .val .null] [.null, .null])) X50 hx rfl rfl rfl (pc0 := 102) (pc' := 105) (same := true) rfl (hb hby at_102) rfl (decide_eq_true rfl) (by decide) (by decide) k) ?_
                show OwnG p.tables e below _ (T50.setTop (mkF m 105 #[.val (.int p0), .val (.int p1), .val (.int (p0 &&& (7 : Int32))), .val (.int p1), .val .null] []))
                refine own_go (fun t k => XS.iconst X50.here hx rfl (hb hby at_105) k) ?_
                show OwnG p.tables e below _ (T50.setTop (mkF m 106 #[.val (.int p0), .val (.int p1), .val (.int (p0 &&& (7 : Int32))), .val (.int p1), .val .null] [(.int (1 : Int32))]))
                refine own_go (fun t k => XS.goto X50.here hx rfl (pc0 := 106) (pc' := 110) rfl (hb hby at_106) (by decide) (by decide) k) ?_
                show OwnG p.tables e below _ (T50.setTop (mkF m 110 #[.val (.int p0), .val (.int p1), .val (.int (p0 &&& (7 : Int32))), .val (.int p1), .val .null] [(.int (1 : Int32))]))
                obtain ⟨fs, hr, hrun, hended, hW, hsame⟩ := X50.leave (v := some (.int (1 : Int32))) (fun h => by rw [Bd.returns] at h; cases h)
                refine ⟨_, _, retN X50 hx (t := .boolean) Bd.returns (by simp) (hb hby at_110) hr, hrun, hended, _, _, rfl, ?_, ⟨_, rfl⟩, hW, hsame.mono (by decide) (by decide)⟩
                show Q_own_law Z p0 p1 o_CONNECTORS o_SEQ o_OR o_AND kc_o_CONNECTORS h0 n0 _ T50.heap _
                rw [e50]
                exact ⟨rfl, N50⟩
set_option maxRecDepth 65536 in
set_option maxHeartbeats 40000000 in
theorem comes_1 {Post : Tables → Env → Array Value → State → Outcome → State → Prop} (hpost : ∀ tb e args s v u, (limb_1_1.after args s (.returned v) u = true ∧ limb_1_2.after args s (.returned v) u = true ∧ True) → FrameEnd s (.returned v) u (Jvm.fieldLocs frame_1_writes args s ++ Jvm.arrayLocs frame_1_arrays args s ++ Jvm.staticLocs frame_1_statics s) 0 0 → Post tb e args s (.returned v) u) :
    ArmFor flags0 classFile x code maxLocals ret World_1 tables_1 room_1 Calls_1 rest_1 Pre_1 Post := by
  intro l hfl _ _ p e ha hc hk s m args below hf hA hF happ hP
  obtain ⟨hcalls, hrest, hpre⟩ := hP
  obtain ⟨-, -, -, hnamed, -, -, -, hat⟩ := (Spec.applies_iff hf).mp happ
  obtain ⟨hg, hn⟩ := and_e (Cond.before_iff.mp (show (Jvm.Cond.and given_1 narrow_1).before args s = true from hpre))
  obtain ⟨hcount, hg⟩ := and_e hg
  obtain ⟨ga0, hg⟩ := and_e hg
  have ga1 := hg
  obtain ⟨w0, w1, rfl⟩ : ∃ w0 w1 : Value, args = #[w0, w1] := by
    have hs : args.size = 2 := by simpa [Cond.value, given_1] using hcount
    obtain ⟨L⟩ := args
    match L, hs with
    | [w0, w1], _ => exact ⟨w0, w1, rfl⟩
  have hw := fun d (hd : d ∈ tables_1) => atoms_spec (ws := Jvm.Cond.code x code maxLocals ret :: tables_1) hat d (List.mem_cons_of_mem _ hd)
  have hfit : Fit s := fun {y c} hc i hi => by
    obtain ⟨ha, rfl⟩ := Array.getElem?_eq_some_iff.mp hc
    have q := List.all_eq_true.mp ((Array.all_eq_true_iff_forall_mem.mp hF) _ (Array.getElem_mem ha)) i (List.mem_range.mpr hi)
    simpa [Array.getElem?_eq_getElem hi] using q
  obtain ⟨i0, ei0⟩ := is_v ga0
  obtain rfl : w0 = (.int i0) := Option.some.inj ei0
  obtain ⟨i1, ei1⟩ := is_v ga1
  obtain rfl : w1 = (.int i1) := Option.some.inj ei1
  obtain ⟨hn1, hn⟩ := and_e hn
  obtain ⟨o_CONNECTORS, ev_o_CONNECTORS⟩ := arr_v hn1
  have S_CONNECTORS : Sta s s.heap "com/example/vigilant_grammar/vigilantgrammar/ModelGroup$Connector" "CONNECTORS" "[Lcom/example/vigilant_grammar/vigilantgrammar/ModelGroup$Connector;" (.ref o_CONNECTORS) := Sta.start ev_o_CONNECTORS (Or.inr ⟨(hw _ (List.mem_of_getElem? (i := 2) rfl)), (hw _ (List.mem_of_getElem? (i := 5) rfl))⟩)
  obtain ⟨cl_o_CONNECTORS, Ar_o_CONNECTORS⟩ := Arr.start ev_o_CONNECTORS hn1
  obtain ⟨hn2, hn⟩ := and_e hn
  obtain ⟨sm_o_CONNECTORS, ln_o_CONNECTORS⟩ := own_len ev_o_CONNECTORS Ar_o_CONNECTORS hn2
  obtain ⟨hn3, hn⟩ := and_e hn
  obtain ⟨o_SEQ, ev_o_SEQ⟩ := exa_v hn3
  have S_SEQ : Sta s s.heap "com/example/vigilant_grammar/vigilantgrammar/ModelGroup$Connector" "SEQ" "Lcom/example/vigilant_grammar/vigilantgrammar/ModelGroup$Connector;" (.ref o_SEQ) := Sta.start ev_o_SEQ (Or.inr ⟨(hw _ (List.mem_of_getElem? (i := 2) rfl)), (hw _ (List.mem_of_getElem? (i := 6) rfl))⟩)
  have E_o_SEQ : Exa s s.heap o_SEQ "com/example/vigilant_grammar/vigilantgrammar/ModelGroup$Connector" := Exa.start ev_o_SEQ hn3
  obtain ⟨hn4, hn⟩ := and_e hn
  have el_o_CONNECTORS_0 : cl_o_CONNECTORS.slots[(0 : Int32).toNatClampNeg]? = some (.ref o_SEQ) := own_elem (by decide) ev_o_CONNECTORS Ar_o_CONNECTORS (own_eqR hn4 ev_o_SEQ)
  obtain ⟨hn5, hn⟩ := and_e hn
  have F_o_SEQ_mark : Fld s s.heap o_SEQ "com/example/vigilant_grammar/vigilantgrammar/ModelGroup$Connector" "mark" "C" (.int (44 : Int32)) := own_fld ev_o_SEQ (own_eqI hn5)
  obtain ⟨hn6, hn⟩ := and_e hn
  obtain ⟨o_OR, ev_o_OR⟩ := exa_v hn6
  have S_OR : Sta s s.heap "com/example/vigilant_grammar/vigilantgrammar/ModelGroup$Connector" "OR" "Lcom/example/vigilant_grammar/vigilantgrammar/ModelGroup$Connector;" (.ref o_OR) := Sta.start ev_o_OR (Or.inr ⟨(hw _ (List.mem_of_getElem? (i := 2) rfl)), (hw _ (List.mem_of_getElem? (i := 14) rfl))⟩)
  have E_o_OR : Exa s s.heap o_OR "com/example/vigilant_grammar/vigilantgrammar/ModelGroup$Connector" := Exa.start ev_o_OR hn6
  obtain ⟨hn7, hn⟩ := and_e hn
  have el_o_CONNECTORS_1 : cl_o_CONNECTORS.slots[(1 : Int32).toNatClampNeg]? = some (.ref o_OR) := own_elem (by decide) ev_o_CONNECTORS Ar_o_CONNECTORS (own_eqR hn7 ev_o_OR)
  obtain ⟨hn8, hn⟩ := and_e hn
  have F_o_OR_mark : Fld s s.heap o_OR "com/example/vigilant_grammar/vigilantgrammar/ModelGroup$Connector" "mark" "C" (.int (124 : Int32)) := own_fld ev_o_OR (own_eqI hn8)
  obtain ⟨hn9, hn⟩ := and_e hn
  obtain ⟨o_AND, ev_o_AND⟩ := exa_v hn9
  have S_AND : Sta s s.heap "com/example/vigilant_grammar/vigilantgrammar/ModelGroup$Connector" "AND" "Lcom/example/vigilant_grammar/vigilantgrammar/ModelGroup$Connector;" (.ref o_AND) := Sta.start ev_o_AND (Or.inr ⟨(hw _ (List.mem_of_getElem? (i := 2) rfl)), (hw _ (List.mem_of_getElem? (i := 15) rfl))⟩)
  have E_o_AND : Exa s s.heap o_AND "com/example/vigilant_grammar/vigilantgrammar/ModelGroup$Connector" := Exa.start ev_o_AND hn9
  obtain ⟨hn10, hn⟩ := and_e hn
  have el_o_CONNECTORS_2 : cl_o_CONNECTORS.slots[(2 : Int32).toNatClampNeg]? = some (.ref o_AND) := own_elem (by decide) ev_o_CONNECTORS Ar_o_CONNECTORS (own_eqR hn10 ev_o_AND)
  have F_o_AND_mark : Fld s s.heap o_AND "com/example/vigilant_grammar/vigilantgrammar/ModelGroup$Connector" "mark" "C" (.int (38 : Int32)) := own_fld ev_o_AND (own_eqI hn)
  obtain ⟨kc_o_CONNECTORS, V_o_CONNECTORS⟩ : ∃ k, Arv s s.heap o_CONNECTORS k (.object "com/example/vigilant_grammar/vigilantgrammar/ModelGroup$Connector") (3 : Int32) [(.ref o_SEQ), (.ref o_OR), (.ref o_AND)] .null := ⟨_, Arv.start hfit Ar_o_CONNECTORS sm_o_CONNECTORS ln_o_CONNECTORS (by decide) rfl ⟨el_o_CONNECTORS_0, el_o_CONNECTORS_1, el_o_CONNECTORS_2, trivial⟩⟩
  obtain ⟨n, o, h1, h2, h3, _, L, rfl, ⟨rfl, N⟩, hq⟩ := own_law l s _ hw tables_1 i0 i1 o_CONNECTORS o_SEQ o_OR o_AND kc_o_CONNECTORS s.heap s.heap.size (Nat.le_refl _) (Old.start s) S_CONNECTORS S_SEQ E_o_SEQ F_o_SEQ_mark S_OR E_o_OR F_o_OR_mark S_AND E_o_AND F_o_AND_mark V_o_CONNECTORS  p e ha hc hk s m _ below hf ((Spec.applies_iff_loose hf).mp happ).1 ⟨rfl, State.Warmed39.refl s, rfl⟩ trivial
  refine ⟨n, _, h1, h2, h3, hpost _ _ _ _ _ _ ⟨Cond.after_iff.mpr rfl, Cond.after_iff.mpr (eq_i res_at (Term.int_eval (1)) rfl), trivial⟩ ⟨hq.1, hq.2.1, (hq.2.2.sift fun y hy => Or.inr (N y hy)).mono (by decide) (by decide)⟩⟩
theorem main_1_1 : Claimed_1_1 := comes_1 fun _ _ _ _ _ _ h hF => ⟨h.1, hF⟩
theorem main_1_2 : Claimed_1_2 := comes_1 fun _ _ _ _ _ _ h hF => ⟨h.2.1, hF⟩
end Jvm.Pilot.@@N@@
namespace Jvm.Pilot.@@N@@
open Jvm Jvm.ClassFile Sem Op Lib Jvm.Free Jvm.Stand Jvm.Pilot.@@N@@.Jvm.D
/-! MADE BY PROGRAM (witnessworld.py) out of the Statement's table words and the real class files: 13 classes; the members and pool entries that the words name. The judged class is class 1, her method 3. -/
namespace start1
open Jvm.ClassFile
def u (s : String) : CpInfo := .utf8 (stringToUtf16 s)
/-- a pool by its gaps: so many unusable entries, then the entry; so many at the end -/
def gap : Nat → List CpInfo → List CpInfo
  | 0, r => r
  | n + 1, r => .unusable :: gap n r
def poolList (es : List (Nat × CpInfo)) (last : Nat) : List CpInfo := es.foldr (fun e r => gap e.1 (e.2 :: r)) (gap last [])
def pool (es : List (Nat × CpInfo)) (last : Nat) : Array CpInfo := ⟨poolList es last⟩
def fileOf (pool : Array CpInfo) (this : Nat) (attrs : Array Attribute := #[]) (ms : Array MethodInfo := #[]) (fl : Nat := 33) (sup : Nat := 0) (ifs : Array Nat := #[]) (fds : Array FieldInfo := #[]) : ClassFile where
  minorVersion := 0
  majorVersion := 65
  constantPool := pool
  accessFlags := fl
  thisClass := this
  superClass := sup
  interfaces := ifs
  fields := fds
  methods := ms
  attributes := attrs
def plain (name : String) (sup : Option ClassId) : Class where
  name := name
  kind := .ordinary
  loader := none
  accessFlags := 33
  super := sup
  interfaces := #[]
  cf := none
  fields := #[]
  methods := #[]
  instanceTypes := #[]
  staticTypes := #[]
  resolved := #[]
  callSites := []
  init := .initialized
  statics := none
  mirror := none

def pool0 : Array CpInfo := pool [(5, u "<init>"), (0, u "()V"), (1, .class_ 10), (1, u "java/lang/Object")] 113

def k0m0 : Method := { name := "<init>", desc := "()V", sig := { parameters := [], returnType := none }, accessFlags := 1, code := none }
/-- java/lang/Object -/
def k0 : Class := { plain "java/lang/Object" none with
  accessFlags := 33
  interfaces := #[]
  cf := some (fileOf pool0 8 #[] #[{ accessFlags := 1, nameIndex := 5, descriptorIndex := 6, attributes := #[] }] 33 0 #[] #[])
  fields := #[]
  methods := #[k0m0]
  instanceTypes := #[]
  staticTypes := #[]
  resolved := Array.replicate 124 none
  statics := none }

def pool1 : Array CpInfo := pool [(2, .class_ 4), (1, u "java/lang/Object"), (0, u "<init>"), (0, u "()V"), (0, .integer 2147483647), (0, .fieldref 9 10), (0, .class_ 11), (0, .nameAndType 12 13), (0, u "com/example/vigilant_grammar/vigilantgrammar/ModelGroup$Connector"), (0, u "SEQ"), (0, u "Lcom/example/vigilant_grammar/vigilantgrammar/ModelGroup$Connector;"), (0, .fieldref 9 15), (0, .nameAndType 16 13), (0, u "OR"), (0, .fieldref 9 18), (0, .nameAndType 19 13), (0, u "AND"), (0, .methodref 21 22), (0, .class_ 23), (0, .nameAndType 24 25), (0, u "com/example/vigilant_grammar/vigilantgrammar/ConnectorWrittenAsPinLaw"), (0, u "mark"), (0, u "(I)I"), (0, .integer 4294901760), (0, .methodref 9 28), (0, .nameAndType 29 30), (0, u "writtenAs"), (0, u "(I)Lcom/example/vigilant_grammar/vigilantgrammar/ModelGroup$Connector;"), (0, .methodref 21 32), (0, .nameAndType 33 30), (0, u "expected"), (3, u "law"), (0, u "(II)Z")] 6

def k1m0 : Method := { name := "<init>", desc := "()V", sig := { parameters := [], returnType := none }, accessFlags := 1, code := none }
def k1c1 : Code := { maxStack := 2, maxLocals := 2, code := method_2_code, exceptionTable := #[], attributes := #[] }
def k1m1 : Method := { name := "mark", desc := "(I)I", sig := { parameters := [.int], returnType := some .int }, accessFlags := 10, code := some k1c1 }
def k1c2 : Code := { maxStack := 2, maxLocals := 1, code := method_3_code, exceptionTable := #[], attributes := #[] }
def k1m2 : Method := { name := "expected", desc := "(I)Lcom/example/vigilant_grammar/vigilantgrammar/ModelGroup$Connector;", sig := { parameters := [.int], returnType := some (.object "com/example/vigilant_grammar/vigilantgrammar/ModelGroup$Connector") }, accessFlags := 10, code := some k1c2 }
def k1c3 : Code := { maxStack := 3, maxLocals := 5, code := code, exceptionTable := #[], attributes := #[] }
def k1m3 : Method := { name := "law", desc := "(II)Z", sig := { parameters := [.int, .int], returnType := some .boolean }, accessFlags := 9, code := some k1c3 }
/-- com/example/vigilant_grammar/vigilantgrammar/ConnectorWrittenAsPinLaw -/
def k1 : Class := { plain "com/example/vigilant_grammar/vigilantgrammar/ConnectorWrittenAsPinLaw" (some 0) with
  accessFlags := 49
  interfaces := #[]
  cf := some (fileOf pool1 21 #[] #[{ accessFlags := 1, nameIndex := 5, descriptorIndex := 6, attributes := #[] }, { accessFlags := 10, nameIndex := 24, descriptorIndex := 25, attributes := #[] }, { accessFlags := 10, nameIndex := 33, descriptorIndex := 30, attributes := #[] }, { accessFlags := 9, nameIndex := 37, descriptorIndex := 38, attributes := #[] }] 49 2 #[] #[])
  fields := #[]
  methods := #[k1m0, k1m1, k1m2, k1m3]
  instanceTypes := #[]
  staticTypes := #[]
  resolved := Array.replicate 45 none
  statics := none }

def pool2 : Array CpInfo := pool [(1, .class_ 2), (0, u "java/lang/constant/Constable"), (0, .class_ 4), (0, u "java/lang/Object")] 6

/-- java/lang/constant/Constable -/
def k2 : Class := { plain "java/lang/constant/Constable" (some 0) with
  accessFlags := 1537
  interfaces := #[]
  cf := some (fileOf pool2 1 #[] #[] 1537 3 #[] #[])
  fields := #[]
  methods := #[]
  instanceTypes := #[]
  staticTypes := #[]
  resolved := Array.replicate 11 none
  statics := none }

def pool3 : Array CpInfo := pool [(1, .class_ 2), (0, u "java/lang/Comparable"), (0, .class_ 4), (0, u "java/lang/Object")] 7

/-- java/lang/Comparable -/
def k3 : Class := { plain "java/lang/Comparable" (some 0) with
  accessFlags := 1537
  interfaces := #[]
  cf := some (fileOf pool3 1 #[] #[] 1537 3 #[] #[])
  fields := #[]
  methods := #[]
  instanceTypes := #[]
  staticTypes := #[]
  resolved := Array.replicate 12 none
  statics := none }

def pool4 : Array CpInfo := pool [(1, .class_ 2), (0, u "java/io/Serializable"), (0, .class_ 4), (0, u "java/lang/Object")] 2

/-- java/io/Serializable -/
def k4 : Class := { plain "java/io/Serializable" (some 0) with
  accessFlags := 1537
  interfaces := #[]
  cf := some (fileOf pool4 1 #[] #[] 1537 3 #[] #[])
  fields := #[]
  methods := #[]
  instanceTypes := #[]
  staticTypes := #[]
  resolved := Array.replicate 7 none
  statics := none }

def pool5 : Array CpInfo := pool [(2, .class_ 4), (1, u "java/lang/Enum"), (0, u "name"), (0, u "Ljava/lang/String;"), (2, u "ordinal"), (0, u "I"), (1, .class_ 14), (1, u "java/lang/Object"), (4, u "hash"), (86, .class_ 108), (1, u "java/lang/Enum$EnumDesc"), (2, .class_ 112), (0, u "java/lang/constant/Constable"), (0, .class_ 114), (0, u "java/lang/Comparable"), (0, .class_ 116), (0, u "java/io/Serializable")] 87

/-- java/lang/Enum -/
def k5 : Class := { plain "java/lang/Enum" (some 0) with
  accessFlags := 1057
  interfaces := #[2, 3, 4]
  cf := some (fileOf pool5 2 #[.nestMembers #[106]] #[] 1057 12 #[111, 113, 115] #[{ accessFlags := 18, nameIndex := 5, descriptorIndex := 6, attributes := #[] }, { accessFlags := 18, nameIndex := 9, descriptorIndex := 10, attributes := #[] }, { accessFlags := 2, nameIndex := 19, descriptorIndex := 10, attributes := #[] }])
  fields := #[{ name := "name", type := (.object "java/lang/String"), accessFlags := 18, slot := 0, constantValue := 0 }, { name := "ordinal", type := .int, accessFlags := 18, slot := 1, constantValue := 0 }, { name := "hash", type := .int, accessFlags := 2, slot := 2, constantValue := 0 }]
  methods := #[]
  instanceTypes := #[(.object "java/lang/String"), .int, .int]
  staticTypes := #[]
  resolved := Array.replicate 204 none
  statics := none }

def pool6 : Array CpInfo := pool [(1, .class_ 2), (0, u "com/example/vigilant_grammar/vigilantgrammar/ModelGroup$Connector"), (2, u "SEQ"), (0, u "Lcom/example/vigilant_grammar/vigilantgrammar/ModelGroup$Connector;"), (2, u "OR"), (2, u "AND"), (2, u "$VALUES"), (0, u "[Lcom/example/vigilant_grammar/vigilantgrammar/ModelGroup$Connector;"), (6, .class_ 25), (1, u "java/lang/Enum"), (8, u "symbol"), (0, u "Ljava/lang/String;"), (6, .fieldref 1 43), (0, .nameAndType 44 45), (0, u "mark"), (0, u "C"), (0, .fieldref 1 47), (0, .nameAndType 48 16), (0, u "CONNECTORS"), (25, u "writtenAs"), (0, u "(I)Lcom/example/vigilant_grammar/vigilantgrammar/ModelGroup$Connector;"), (8, .class_ 85), (0, u "com/example/vigilant_grammar/vigilantgrammar/ModelGroup")] 2

def k6c0 : Code := { maxStack := 2, maxLocals := 5, code := prog_98_method_4_code, exceptionTable := #[], attributes := #[] }
def k6m0 : Method := { name := "writtenAs", desc := "(I)Lcom/example/vigilant_grammar/vigilantgrammar/ModelGroup$Connector;", sig := { parameters := [.int], returnType := some (.object "com/example/vigilant_grammar/vigilantgrammar/ModelGroup$Connector") }, accessFlags := 8, code := some k6c0 }
/-- com/example/vigilant_grammar/vigilantgrammar/ModelGroup$Connector -/
def k6 : Class := { plain "com/example/vigilant_grammar/vigilantgrammar/ModelGroup$Connector" (some 5) with
  accessFlags := 16433
  interfaces := #[]
  cf := some (fileOf pool6 1 #[.nestHost 84] #[{ accessFlags := 8, nameIndex := 74, descriptorIndex := 75, attributes := #[] }] 16433 23 #[] #[{ accessFlags := 16409, nameIndex := 5, descriptorIndex := 6, attributes := #[] }, { accessFlags := 16409, nameIndex := 9, descriptorIndex := 6, attributes := #[] }, { accessFlags := 16409, nameIndex := 12, descriptorIndex := 6, attributes := #[] }, { accessFlags := 26, nameIndex := 48, descriptorIndex := 16, attributes := #[] }, { accessFlags := 18, nameIndex := 34, descriptorIndex := 35, attributes := #[] }, { accessFlags := 18, nameIndex := 44, descriptorIndex := 45, attributes := #[] }, { accessFlags := 4122, nameIndex := 15, descriptorIndex := 16, attributes := #[] }])
  fields := #[{ name := "SEQ", type := (.object "com/example/vigilant_grammar/vigilantgrammar/ModelGroup$Connector"), accessFlags := 16409, slot := 0, constantValue := 0 }, { name := "OR", type := (.object "com/example/vigilant_grammar/vigilantgrammar/ModelGroup$Connector"), accessFlags := 16409, slot := 1, constantValue := 0 }, { name := "AND", type := (.object "com/example/vigilant_grammar/vigilantgrammar/ModelGroup$Connector"), accessFlags := 16409, slot := 2, constantValue := 0 }, { name := "CONNECTORS", type := (.array (.object "com/example/vigilant_grammar/vigilantgrammar/ModelGroup$Connector")), accessFlags := 26, slot := 3, constantValue := 0 }, { name := "symbol", type := (.object "java/lang/String"), accessFlags := 18, slot := 3, constantValue := 0 }, { name := "mark", type := .char, accessFlags := 18, slot := 4, constantValue := 0 }, { name := "$VALUES", type := (.array (.object "com/example/vigilant_grammar/vigilantgrammar/ModelGroup$Connector")), accessFlags := 4122, slot := 4, constantValue := 0 }]
  methods := #[k6m0]
  instanceTypes := #[(.object "java/lang/String"), .int, .int, (.object "java/lang/String"), .char]
  staticTypes := #[(.object "com/example/vigilant_grammar/vigilantgrammar/ModelGroup$Connector"), (.object "com/example/vigilant_grammar/vigilantgrammar/ModelGroup$Connector"), (.object "com/example/vigilant_grammar/vigilantgrammar/ModelGroup$Connector"), (.array (.object "com/example/vigilant_grammar/vigilantgrammar/ModelGroup$Connector")), (.array (.object "com/example/vigilant_grammar/vigilantgrammar/ModelGroup$Connector"))]
  resolved := Array.replicate 88 none
  statics := some 0 }

def pool7 : Array CpInfo := pool [(1, u "java/lang/Cloneable"), (0, .class_ 1), (0, u "java/lang/Object"), (0, .class_ 3)] 3

/-- java/lang/Cloneable -/
def k7 : Class := { plain "java/lang/Cloneable" (some 0) with
  accessFlags := 1537
  interfaces := #[]
  cf := some (fileOf pool7 2 #[] #[] 1537 4 #[] #[])
  fields := #[]
  methods := #[]
  instanceTypes := #[]
  staticTypes := #[]
  resolved := Array.replicate 8 none
  statics := none }

/-- the primitive byte -/
def k8 : Class := { plain "byte" none with kind := .primitive 'B', accessFlags := 0x411 }
/-- [B -/
def k9 : Class := { plain "[B" (some 0) with kind := .array 8 .byte, interfaces := #[7, 4], accessFlags := 1041 }

/-- the primitive int -/
def k10 : Class := { plain "int" none with kind := .primitive 'I', accessFlags := 0x411 }
/-- [I -/
def k11 : Class := { plain "[I" (some 0) with kind := .array 10 .int, interfaces := #[7, 4], accessFlags := 1041 }

/-- [Lcom/example/vigilant_grammar/vigilantgrammar/ModelGroup$Connector; -/
def k12 : Class := { plain "[Lcom/example/vigilant_grammar/vigilantgrammar/ModelGroup$Connector;" (some 0) with kind := .array 6 (.object "com/example/vigilant_grammar/vigilantgrammar/ModelGroup$Connector"), interfaces := #[7, 4], accessFlags := 1041 }

def heap : Heap := #[{ cls := 6, slots := #[.ref 2, .ref 3, .ref 4, .ref 1, .null], vm := .statics 6 },
  { cls := 12, slots := #[.ref 2, .ref 3, .ref 4], vm := .none },
  { cls := 6, slots := #[.null, .int 0, .int 0, .null, .int 44], vm := .none },
  { cls := 6, slots := #[.null, .int 1, .int 0, .null, .int 124], vm := .none },
  { cls := 6, slots := #[.null, .int 2, .int 0, .null, .int 38], vm := .none }]
def classes : Array Class := #[k0, k1, k2, k3, k4, k5, k6, k7, k8, k9, k10, k11, k12]
def interned : List (Array UInt16 × Addr) := []
def slotsUsed : Nat := 23
def theMethod : MethodId := ⟨1, 3⟩
def args0 : Array Value := #[.int 1, .int 5]
def aboutOver (below : List Frame) : State where
  vm := { classes := classes, interned := interned.toArray }
  heap := heap
  slotsUsed := slotsUsed
  threads := #[{ frames := .invoking theMethod args0 :: below }]
def below0 : List Frame := [.native { method := ⟨0, 0⟩, args := #[] }]
def about1 : State := aboutOver below0
def p0 : Program := .bare "" "" ""
def e0 : Env := launch0.env 0 0 0
theorem w_frames : about1.frames = Frame.invoking theMethod args0 :: below0 := rfl
set_option maxRecDepth 65536 in
theorem w_args : argsFit about1.vm theMethod args0 = true := by decide +kernel
set_option maxRecDepth 65536 in
theorem w_heap : heapFits about1 = true := by decide +kernel
set_option maxRecDepth 65536 in
theorem w_runnable : about1.curStatus? = some .runnable := by decide +kernel
set_option maxRecDepth 65536 in
theorem w_alone : about1.alone = true := by decide +kernel
set_option maxRecDepth 65536 in
theorem w_named : about1.methodNamed? x = some theMethod := by decide +kernel
set_option maxRecDepth 65536 in
theorem w_hears : about1.hears theMethod below0 = true := by decide +kernel
set_option maxRecDepth 65536 in
theorem w_ripe : about1.ripe theMethod args0 below0 = true := by decide +kernel
theorem w_running : about1.status = .running := rfl
set_option maxRecDepth 65536 in
theorem w_room : about1.hasRoom e0.platform room_1 = true :=
  launch0.hasRoom_least _ room_1 (by decide +kernel) (by decide +kernel) (by decide +kernel) (by decide +kernel) (by decide +kernel) (by decide +kernel)
theorem allAtoms_all (ts : List Jvm.Cond) (a : Array Jvm.Value) (st : Jvm.State) : (allAtoms ts).before a st = ts.all (fun c => c.before a st) := by
  induction ts with
  | nil => rfl
  | cons c t ih =>
    show (Jvm.Cond.and c (allAtoms t)).before a st = _
    rw [Jvm.Cond.before_and, ih, List.all_cons]
def words1 : List Jvm.Cond := Jvm.Cond.code x code maxLocals ret :: tables_1
/-- a 'code' word, met by the world's own term for the bytes: nothing is compared byte by byte -/
theorem code_word {y : MethodName} {bytes : ByteArray} {mx : Nat} {rt : Option FieldType} {a : Array Value} {s : State} {m : MethodId} {meth : Method} {c : Code} (h1 : s.methodNamed? y = some m) (h2 : s.vm.method? m = some meth) (h3 : meth.code = some c) (h4 : c.code = bytes)
    (h5 : (c.maxLocals == mx && c.exceptionTable.isEmpty && decide (c.maxStack ≤ mostOperands) && decide (meth.sig.returnType = rt) && !meth.locks && decide (parseMethodDescriptor y.desc = some meth.sig)) = true) : (Jvm.Cond.code y bytes mx rt).before a s = true := by
  simp only [Bool.and_eq_true, beq_iff_eq, Bool.not_eq_true', decide_eq_true_eq] at h5
  obtain ⟨⟨⟨⟨⟨g1, g2⟩, g3⟩, g4⟩, g5⟩, g6⟩ := h5
  simp [Cond.before, Cond.holds, Cond.value, h1, h2, h3, h4, g1, g2, g3, g4, g5, g6]
def isCode : Jvm.Cond → Bool
  | .code _ _ _ _ => true
  | _ => false
theorem all_split {L : List Jvm.Cond} {P : Jvm.Cond → Bool} (h1 : L.all (fun c => isCode c || P c) = true) (h2 : ∀ c ∈ L.filter isCode, P c = true) : L.all P = true := by
  refine List.all_eq_true.mpr fun c hc => ?_
  have h := List.all_eq_true.mp h1 c hc
  rcases Bool.eq_false_or_eq_true (isCode c) with hi | hi
  · exact h2 c (List.mem_filter.mpr ⟨hc, hi⟩)
  · simpa [hi] using h
set_option maxRecDepth 65536 in
theorem w_c0 : (Jvm.Cond.code x code maxLocals ret).before args0 about1 = true := code_word (m := ⟨1, 3⟩) (meth := k1m3) (c := k1c3) (by decide +kernel) rfl rfl rfl (by decide +kernel)
set_option maxRecDepth 65536 in
theorem w_c1 : (Jvm.Cond.code ({ cls := "com/example/vigilant_grammar/vigilantgrammar/ModelGroup$Connector", name := "writtenAs", desc := "(I)Lcom/example/vigilant_grammar/vigilantgrammar/ModelGroup$Connector;" } : Jvm.MethodName) prog_98_method_4_code (5 : Nat) (Option.some (Jvm.ClassFile.FieldType.object "com/example/vigilant_grammar/vigilantgrammar/ModelGroup$Connector"))).before args0 about1 = true := code_word (m := ⟨6, 0⟩) (meth := k6m0) (c := k6c0) (by decide +kernel) rfl rfl rfl (by decide +kernel)
set_option maxRecDepth 65536 in
theorem w_c2 : (Jvm.Cond.code ({ cls := "com/example/vigilant_grammar/vigilantgrammar/ConnectorWrittenAsPinLaw", name := "expected", desc := "(I)Lcom/example/vigilant_grammar/vigilantgrammar/ModelGroup$Connector;" } : Jvm.MethodName) method_3_code (1 : Nat) (Option.some (Jvm.ClassFile.FieldType.object "com/example/vigilant_grammar/vigilantgrammar/ModelGroup$Connector"))).before args0 about1 = true := code_word (m := ⟨1, 2⟩) (meth := k1m2) (c := k1c2) (by decide +kernel) rfl rfl rfl (by decide +kernel)
set_option maxRecDepth 65536 in
theorem w_c3 : (Jvm.Cond.code ({ cls := "com/example/vigilant_grammar/vigilantgrammar/ConnectorWrittenAsPinLaw", name := "mark", desc := "(I)I" } : Jvm.MethodName) method_2_code (2 : Nat) (Option.some Jvm.ClassFile.FieldType.int)).before args0 about1 = true := code_word (m := ⟨1, 1⟩) (meth := k1m1) (c := k1c1) (by decide +kernel) rfl rfl rfl (by decide +kernel)
def codes1 : List Jvm.Cond := [Jvm.Cond.code x code maxLocals ret, Jvm.Cond.code ({ cls := "com/example/vigilant_grammar/vigilantgrammar/ModelGroup$Connector", name := "writtenAs", desc := "(I)Lcom/example/vigilant_grammar/vigilantgrammar/ModelGroup$Connector;" } : Jvm.MethodName) prog_98_method_4_code (5 : Nat) (Option.some (Jvm.ClassFile.FieldType.object "com/example/vigilant_grammar/vigilantgrammar/ModelGroup$Connector")), Jvm.Cond.code ({ cls := "com/example/vigilant_grammar/vigilantgrammar/ConnectorWrittenAsPinLaw", name := "expected", desc := "(I)Lcom/example/vigilant_grammar/vigilantgrammar/ModelGroup$Connector;" } : Jvm.MethodName) method_3_code (1 : Nat) (Option.some (Jvm.ClassFile.FieldType.object "com/example/vigilant_grammar/vigilantgrammar/ModelGroup$Connector")), Jvm.Cond.code ({ cls := "com/example/vigilant_grammar/vigilantgrammar/ConnectorWrittenAsPinLaw", name := "mark", desc := "(I)I" } : Jvm.MethodName) method_2_code (2 : Nat) (Option.some Jvm.ClassFile.FieldType.int)]
set_option maxRecDepth 65536 in
theorem codes_eq : words1.filter isCode = codes1 := rfl
theorem w_codes : ∀ c ∈ words1.filter isCode, c.before args0 about1 = true := by
  rw [codes_eq]
  intro c hc
  simp only [codes1, List.mem_cons, List.not_mem_nil, or_false] at hc
  rcases hc with rfl | rfl | rfl | rfl
  · exact w_c0
  · exact w_c1
  · exact w_c2
  · exact w_c3
set_option maxRecDepth 65536 in
theorem w_t1 : words1.all (fun c => isCode c || c.before args0 about1) = true := by decide +kernel
theorem w_tables : (allAtoms (Jvm.Cond.code x code maxLocals ret :: tables_1)).before args0 about1 = true := by
  rw [allAtoms_all]
  show words1.all (fun c => c.before args0 about1) = true
  refine all_split ?_ w_codes
  rw [w_t1]
set_option maxRecDepth 65536 in
theorem w_case : (Jvm.Cond.and given_1 narrow_1).before args0 about1 = true := by decide +kernel
theorem w_applies : (headSpec (Jvm.Cond.code x code maxLocals ret :: tables_1) room_1).applies x e0.platform about1 = true :=
  (Spec.applies_iff w_frames).mpr ⟨w_running, w_runnable, w_alone, w_named, w_hears, w_ripe, w_room, w_tables⟩
theorem atStart : AtStart classFile x code maxLocals ret World_1 tables_1 room_1 Calls_1 rest_1 Pre_1 launch0 p0 e0 about1 theMethod args0 below0 :=
  ⟨lists_1, trivial, launch0.admits_env _ _ _, launch0.least_env, fairChoices_fair.cas, fairChoices_fair.clock, w_frames, w_args, w_heap, w_applies, trivial, trivial, w_case⟩
end start1
theorem witness_1 : WitnessClaimed_1 := ⟨start1.p0, start1.e0, start1.about1, start1.theMethod, start1.args0, start1.below0, start1.atStart⟩
end Jvm.Pilot.@@N@@
