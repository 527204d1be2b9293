import JvmDerived
import JvmDerived.Pilot.@@N@@Statement
import JvmDerived.Pilot.@@N@@Code
set_option linter.unusedVariables false
set_option linter.unusedSimpArgs false
namespace Jvm.RoadKit
open Sem ClassFile Op Lib Jvm.Stand Jvm.Free Jvm.LawKit
section New
variable {p : Program} {l : Launch} {e : Env} {R : Room} {s : State} {m : MethodId} {args : Array Value} {below : List Frame} {meth : Method} {c : Code} {T : State} {locs : List Loc} {cells slots : Nat}
theorem retI (X : Stand p l e R s m args below meth c T locs cells slots) (hx : p.tables.exec = Jvm.exec) {pc : Nat} {Ls : Array Slot} {z : Int32} {rest : List Value} (hret : meth.sig.returnType = some .int) (hd : decode c.code pc = .ok (.ireturn, 1)) {fs : List Frame}
    (hl : ∀ (f : JFrame) (acts : List Action), f.method = m → f.locked = none → f.entered = [] → (doReturn e (T.setTop f) acts (some (.int z))).1 = T.setFrames fs) : Steps p.tables e below (T.setTop (mkF m pc Ls (.int z :: rest))) (T.setFrames fs) := by
  have hm' : T.vm.method? m = some meth := X.method'
  have hn : narrow .int (.int z) = .int z := rfl
  show Steps p.tables e below (T.setTop { method := m, pc := pc, locals := Ls, stack := _ :: rest, locked := none }) _
  jvm_step X.here [X.here.top, hx, hd, hm', hret, hn]
  first | (intro acts; rw [hl _ acts rfl rfl rfl]) | rw [hl _ _ rfl rfl rfl]
  exact Steps.refl _
end New
end Jvm.RoadKit
namespace Jvm.Pilot.@@N@@
open Jvm Jvm.ClassFile Sem Op Lib Jvm.Free Jvm.Stand Jvm.LawKit Jvm.RoadKit Bundle Jvm.Pilot.@@N@@.Jvm.D
abbrev OwnG (tb : Tables) (e : Env) (below : List Frame) (R : State → Outcome → Prop) (cur : State) : Prop := ∃ s₂ o, Steps tb e below cur s₂ ∧ R s₂ o
theorem own_go {tb : Tables} {e : Env} {below : List Frame} {R : State → Outcome → Prop} {cur nxt : State} (h : ∀ t, Steps tb e below nxt t → Steps tb e below cur t) (k : OwnG tb e below R nxt) : OwnG tb e below R cur := by
  obtain ⟨s₂, o, h1, h2⟩ := k
  exact ⟨s₂, o, h _ h1, h2⟩
theorem own_pick {α : Type} (c : Prop) (a b : α) : ∃ z : α, (c → z = a) ∧ (¬ c → z = b) := by
  by_cases h : c
  · exact ⟨a, fun _ => rfl, fun q => absurd h q⟩
  · exact ⟨b, fun q => absurd q h, fun _ => rfl⟩
theorem own_ne_or {a d x n : Nat} (h : x = d ∨ n ≤ x) (h1 : a ≠ d) (h2 : a < n) : a ≠ x := by
  rcases h with h | h <;> omega
theorem own_ge_or {d x n k : Nat} (h : x = d ∨ n ≤ x) (h1 : k ≤ d) (h2 : k ≤ n) : k ≤ x := by
  rcases h with h | h <;> omega
theorem own_in_or {d x n k : Nat} {ws : List Nat} (h : x = d ∨ n ≤ x) (h1 : d ∈ ws) (h2 : k ≤ n) : x ∈ ws ∨ k ≤ x := by
  rcases h with rfl | h
  · exact Or.inl h1
  · exact Or.inr (Nat.le_trans h2 h)
theorem own_iw_or {d x n k : Nat} {ws : List Nat} (h : x = d ∨ n ≤ x) (h1 : d ∈ ws ∨ k ≤ d) (h2 : k ≤ n) : x ∈ ws ∨ k ≤ x := by
  rcases h with rfl | h
  · exact h1
  · exact Or.inr (Nat.le_trans h2 h)
section OwnStat
variable {args : Array Value} {s : State} {t u w : Term} {a b : Addr} {cl : Cell} {ty : FieldType}
theorem own_eqI {v : Int32} (h : (Cond.eq t (.int v)).value args s none s [] = some true) : t.eval args s none [] s = some (.int v) := by
  cases hx : t.eval args s none [] s with
  | none => simp [Cond.value, Term.eval, hx] at h
  | some y => cases y <;> simp [Cond.value, Term.eval, hx] at h; rw [h]
theorem own_eqJ {v : Int64} (h : (Cond.eq t (.long v)).value args s none s [] = some true) : t.eval args s none [] s = some (.long v) := by
  cases hx : t.eval args s none [] s with
  | none => simp [Cond.value, Term.eval, hx] at h
  | some y => cases y <;> simp [Cond.value, Term.eval, hx] at h; rw [h]
theorem own_eqR (h : (Cond.eq t u).value args s none s [] = some true) (hu : u.eval args s none [] s = some (.ref b)) : t.eval args s none [] s = some (.ref b) := by
  cases hx : t.eval args s none [] s with
  | none => simp [Cond.value, hu, hx] at h
  | some y => cases y <;> simp [Cond.value, hu, hx] at h; rw [h]
theorem own_neI {i v : Int32} (h : (Cond.not (.eq t (.int v))).value args s none s [] = some true) (ev : t.eval args s none [] s = some (.int i)) : i ≠ v := by
  intro e
  subst e
  simp [Cond.value, ev, Term.eval] at h
theorem own_len {n : Int32} (ev : t.eval args s none [] s = some (.ref a)) (A : Arr s s.heap a cl ty) (h : (Cond.eq (.length t) (.int n)).value args s none s [] = some true) : cl.slots.size < 2 ^ 31 ∧ cl.slots.size.toInt32 = n := by
  have e := own_eqI h
  have hA : s.arrayAt? a = some cl := A.fin (Vm.Alike.refl _)
  by_cases q : cl.slots.size < 2 ^ 31
  · rw [len_f ev hA q] at e
    exact ⟨q, by cases e; rfl⟩
  · simp [Term.eval, ev, hA, q] at e
theorem own_elem {j : Int32} {v : Value} (hj : ¬ j < 0) (ev : t.eval args s none [] s = some (.ref a)) (A : Arr s s.heap a cl ty) (h : (Term.elem t (.int j)).eval args s none [] s = some v) : cl.slots[j.toNatClampNeg]? = some v := by
  rw [elem_f (a := .int j) ev rfl (A.fin (Vm.Alike.refl _)) hj] at h; exact h
theorem own_fld {C n d : String} {v : Value} (ev : t.eval args s none [] s = some (.ref a)) (h : (Term.field t C n d).eval args s none [] s = some v) : Fld s s.heap a C n d v :=
  Fld.start (by rw [← fld_at ev]; exact h)
end OwnStat

def own_val (c : Int32) (a0 a1 a2 a3 a4 a5 a6 a7 a8 a9 a10 a11 : Addr) : Value := if c = (0 : Int32) then .ref a0 else if c = (1 : Int32) then .ref a1 else if c = (2 : Int32) then .ref a2 else if c = (5 : Int32) then .ref a3 else if c = (6 : Int32) then .ref a4 else if c = (7 : Int32) then .ref a5 else if c = (8 : Int32) then .ref a6 else if c = (9 : Int32) then .ref a7 else if c = (10 : Int32) then .ref a8 else if c = (11 : Int32) then .ref a9 else if c = (13 : Int32) then .ref a10 else if c = (15 : Int32) then .ref a11 else .null
theorem own_val_or (c : Int32) (a0 a1 a2 a3 a4 a5 a6 a7 a8 a9 a10 a11 : Addr) : (own_val c a0 a1 a2 a3 a4 a5 a6 a7 a8 a9 a10 a11 = .ref a0 ∧ c = (0 : Int32)) ∨ (own_val c a0 a1 a2 a3 a4 a5 a6 a7 a8 a9 a10 a11 = .ref a1 ∧ c = (1 : Int32)) ∨ (own_val c a0 a1 a2 a3 a4 a5 a6 a7 a8 a9 a10 a11 = .ref a2 ∧ c = (2 : Int32)) ∨ (own_val c a0 a1 a2 a3 a4 a5 a6 a7 a8 a9 a10 a11 = .ref a3 ∧ c = (5 : Int32)) ∨ (own_val c a0 a1 a2 a3 a4 a5 a6 a7 a8 a9 a10 a11 = .ref a4 ∧ c = (6 : Int32)) ∨ (own_val c a0 a1 a2 a3 a4 a5 a6 a7 a8 a9 a10 a11 = .ref a5 ∧ c = (7 : Int32)) ∨ (own_val c a0 a1 a2 a3 a4 a5 a6 a7 a8 a9 a10 a11 = .ref a6 ∧ c = (8 : Int32)) ∨ (own_val c a0 a1 a2 a3 a4 a5 a6 a7 a8 a9 a10 a11 = .ref a7 ∧ c = (9 : Int32)) ∨ (own_val c a0 a1 a2 a3 a4 a5 a6 a7 a8 a9 a10 a11 = .ref a8 ∧ c = (10 : Int32)) ∨ (own_val c a0 a1 a2 a3 a4 a5 a6 a7 a8 a9 a10 a11 = .ref a9 ∧ c = (11 : Int32)) ∨ (own_val c a0 a1 a2 a3 a4 a5 a6 a7 a8 a9 a10 a11 = .ref a10 ∧ c = (13 : Int32)) ∨ (own_val c a0 a1 a2 a3 a4 a5 a6 a7 a8 a9 a10 a11 = .ref a11 ∧ c = (15 : Int32)) ∨ (own_val c a0 a1 a2 a3 a4 a5 a6 a7 a8 a9 a10 a11 = .null ∧ True) := by
  unfold own_val
  by_cases h0 : c = (0 : Int32)
  · left; exact ⟨by subst h0; rfl, h0⟩
  by_cases h1 : c = (1 : Int32)
  · right; left; exact ⟨by subst h1; rfl, h1⟩
  by_cases h2 : c = (2 : Int32)
  · right; right; left; exact ⟨by subst h2; rfl, h2⟩
  by_cases h3 : c = (5 : Int32)
  · right; right; right; left; exact ⟨by subst h3; rfl, h3⟩
  by_cases h4 : c = (6 : Int32)
  · right; right; right; right; left; exact ⟨by subst h4; rfl, h4⟩
  by_cases h5 : c = (7 : Int32)
  · right; right; right; right; right; left; exact ⟨by subst h5; rfl, h5⟩
  by_cases h6 : c = (8 : Int32)
  · right; right; right; right; right; right; left; exact ⟨by subst h6; rfl, h6⟩
  by_cases h7 : c = (9 : Int32)
  · right; right; right; right; right; right; right; left; exact ⟨by subst h7; rfl, h7⟩
  by_cases h8 : c = (10 : Int32)
  · right; right; right; right; right; right; right; right; left; exact ⟨by subst h8; rfl, h8⟩
  by_cases h9 : c = (11 : Int32)
  · right; right; right; right; right; right; right; right; right; left; exact ⟨by subst h9; rfl, h9⟩
  by_cases h10 : c = (13 : Int32)
  · right; right; right; right; right; right; right; right; right; right; left; exact ⟨by subst h10; rfl, h10⟩
  by_cases h11 : c = (15 : Int32)
  · right; right; right; right; right; right; right; right; right; right; right; left; exact ⟨by subst h11; rfl, h11⟩
  right; right; right; right; right; right; right; right; right; right; right; right; exact ⟨by simp only [h0, h1, h2, h3, h4, h5, h6, h7, h8, h9, h10, h11, if_false], trivial⟩
theorem own_ef0 (m : MethodId)  : entryFrame m #[] 0 = mkF m 0 #[] [] := by first | (simp [entryFrame, mkF, argsToLocals, Value.category]; done) | rfl
theorem own_pn1 : plainName "com/example/keyspace/keyspace/server/Opcode" = true := by first | (simp [plainName, overriddenIn]; done) | decide +kernel
theorem own_d2 : decode prog_150_method_1_code 0 = .ok (.getstatic 40, 3) := by decide +kernel
theorem own_d3 : decode prog_150_method_1_code 3 = .ok (.invokevirtual 44, 3) := by decide +kernel
theorem own_d4 : decode prog_150_method_1_code 6 = .ok (.checkcast 45, 3) := by decide +kernel
theorem own_d5 : decode prog_150_method_1_code 9 = .ok (.areturn, 1) := by decide +kernel
def Q_own_values (Z : State) (o__VALUES : Addr) (o_ERROR : Addr) (o_STARTUP : Addr) (o_READY : Addr) (o_OPTIONS : Addr) (o_SUPPORTED : Addr) (o_QUERY : Addr) (o_RESULT : Addr) (o_PREPARE : Addr) (o_EXECUTE : Addr) (o_REGISTER : Addr) (o_BATCH : Addr) (o_AUTH_RESPONSE : Addr) (kc_o__VALUES : ClassId) (h0 : Heap) (n0 : Nat) (v : Option Value) (h : Heap) (L : List Loc) : Prop := ∃ bv : Addr, v = some (.ref bv) ∧ Fr n0 L ∧ Keep h0 h [] ∧ Arv Z h bv kc_o__VALUES (.object "com/example/keyspace/keyspace/server/Opcode") (12 : Int32) [(.ref o_ERROR), (.ref o_STARTUP), (.ref o_READY), (.ref o_OPTIONS), (.ref o_SUPPORTED), (.ref o_QUERY), (.ref o_RESULT), (.ref o_PREPARE), (.ref o_EXECUTE), (.ref o_REGISTER), (.ref o_BATCH), (.ref o_AUTH_RESPONSE)] .null
set_option maxRecDepth 65536 in
set_option maxHeartbeats 40000000 in
theorem own_values (l : Launch) (Z : State) (a0 : Array Value) (hw : ∀ d ∈ tables_1, d.before a0 Z = true) (ws : List Jvm.Cond) (o__VALUES : Addr) (o_ERROR : Addr) (o_STARTUP : Addr) (o_READY : Addr) (o_OPTIONS : Addr) (o_SUPPORTED : Addr) (o_QUERY : Addr) (o_RESULT : Addr) (o_PREPARE : Addr) (o_EXECUTE : Addr) (o_REGISTER : Addr) (o_BATCH : Addr) (o_AUTH_RESPONSE : Addr) (kc_o__VALUES : ClassId) (h0 : Heap) (n0 : Nat) (Z0 : n0 ≤ h0.size) (O0 : Old Z n0 h0) (S__VALUES : Sta Z Z.heap "com/example/keyspace/keyspace/server/Opcode" "$VALUES" "[Lcom/example/keyspace/keyspace/server/Opcode;" (.ref o__VALUES)) (E_o__VALUES : Exa Z Z.heap o__VALUES "[Lcom/example/keyspace/keyspace/server/Opcode;") (S_ERROR : Sta Z Z.heap "com/example/keyspace/keyspace/server/Opcode" "ERROR" "Lcom/example/keyspace/keyspace/server/Opcode;" (.ref o_ERROR)) (E_o_ERROR : Exa Z Z.heap o_ERROR "com/example/keyspace/keyspace/server/Opcode") (S_STARTUP : Sta Z Z.heap "com/example/keyspace/keyspace/server/Opcode" "STARTUP" "Lcom/example/keyspace/keyspace/server/Opcode;" (.ref o_STARTUP)) (E_o_STARTUP : Exa Z Z.heap o_STARTUP "com/example/keyspace/keyspace/server/Opcode") (S_READY : Sta Z Z.heap "com/example/keyspace/keyspace/server/Opcode" "READY" "Lcom/example/keyspace/keyspace/server/Opcode;" (.ref o_READY)) (E_o_READY : Exa Z Z.heap o_READY "com/example/keyspace/keyspace/server/Opcode") (S_OPTIONS : Sta Z Z.heap "com/example/keyspace/keyspace/server/Opcode" "OPTIONS" "Lcom/example/keyspace/keyspace/server/Opcode;" (.ref o_OPTIONS)) (E_o_OPTIONS : Exa Z Z.heap o_OPTIONS "com/example/keyspace/keyspace/server/Opcode") (S_SUPPORTED : Sta Z Z.heap "com/example/keyspace/keyspace/server/Opcode" "SUPPORTED" "Lcom/example/keyspace/keyspace/server/Opcode;" (.ref o_SUPPORTED)) (E_o_SUPPORTED : Exa Z Z.heap o_SUPPORTED "com/example/keyspace/keyspace/server/Opcode") (S_QUERY : Sta Z Z.heap "com/example/keyspace/keyspace/server/Opcode" "QUERY" "Lcom/example/keyspace/keyspace/server/Opcode;" (.ref o_QUERY)) (E_o_QUERY : Exa Z Z.heap o_QUERY "com/example/keyspace/keyspace/server/Opcode") (S_RESULT : Sta Z Z.heap "com/example/keyspace/keyspace/server/Opcode" "RESULT" "Lcom/example/keyspace/keyspace/server/Opcode;" (.ref o_RESULT)) (E_o_RESULT : Exa Z Z.heap o_RESULT "com/example/keyspace/keyspace/server/Opcode") (S_PREPARE : Sta Z Z.heap "com/example/keyspace/keyspace/server/Opcode" "PREPARE" "Lcom/example/keyspace/keyspace/server/Opcode;" (.ref o_PREPARE)) (E_o_PREPARE : Exa Z Z.heap o_PREPARE "com/example/keyspace/keyspace/server/Opcode") (S_EXECUTE : Sta Z Z.heap "com/example/keyspace/keyspace/server/Opcode" "EXECUTE" "Lcom/example/keyspace/keyspace/server/Opcode;" (.ref o_EXECUTE)) (E_o_EXECUTE : Exa Z Z.heap o_EXECUTE "com/example/keyspace/keyspace/server/Opcode") (S_REGISTER : Sta Z Z.heap "com/example/keyspace/keyspace/server/Opcode" "REGISTER" "Lcom/example/keyspace/keyspace/server/Opcode;" (.ref o_REGISTER)) (E_o_REGISTER : Exa Z Z.heap o_REGISTER "com/example/keyspace/keyspace/server/Opcode") (S_BATCH : Sta Z Z.heap "com/example/keyspace/keyspace/server/Opcode" "BATCH" "Lcom/example/keyspace/keyspace/server/Opcode;" (.ref o_BATCH)) (E_o_BATCH : Exa Z Z.heap o_BATCH "com/example/keyspace/keyspace/server/Opcode") (S_AUTH_RESPONSE : Sta Z Z.heap "com/example/keyspace/keyspace/server/Opcode" "AUTH_RESPONSE" "Lcom/example/keyspace/keyspace/server/Opcode;" (.ref o_AUTH_RESPONSE)) (E_o_AUTH_RESPONSE : Exa Z Z.heap o_AUTH_RESPONSE "com/example/keyspace/keyspace/server/Opcode") (F_o_ERROR_code : Fld Z Z.heap o_ERROR "com/example/keyspace/keyspace/server/Opcode" "code" "I" (.int (0 : Int32))) (F_o_STARTUP_code : Fld Z Z.heap o_STARTUP "com/example/keyspace/keyspace/server/Opcode" "code" "I" (.int (1 : Int32))) (F_o_READY_code : Fld Z Z.heap o_READY "com/example/keyspace/keyspace/server/Opcode" "code" "I" (.int (2 : Int32))) (F_o_OPTIONS_code : Fld Z Z.heap o_OPTIONS "com/example/keyspace/keyspace/server/Opcode" "code" "I" (.int (5 : Int32))) (F_o_SUPPORTED_code : Fld Z Z.heap o_SUPPORTED "com/example/keyspace/keyspace/server/Opcode" "code" "I" (.int (6 : Int32))) (F_o_QUERY_code : Fld Z Z.heap o_QUERY "com/example/keyspace/keyspace/server/Opcode" "code" "I" (.int (7 : Int32))) (F_o_RESULT_code : Fld Z Z.heap o_RESULT "com/example/keyspace/keyspace/server/Opcode" "code" "I" (.int (8 : Int32))) (F_o_PREPARE_code : Fld Z Z.heap o_PREPARE "com/example/keyspace/keyspace/server/Opcode" "code" "I" (.int (9 : Int32))) (F_o_EXECUTE_code : Fld Z Z.heap o_EXECUTE "com/example/keyspace/keyspace/server/Opcode" "code" "I" (.int (10 : Int32))) (F_o_REGISTER_code : Fld Z Z.heap o_REGISTER "com/example/keyspace/keyspace/server/Opcode" "code" "I" (.int (11 : Int32))) (F_o_BATCH_code : Fld Z Z.heap o_BATCH "com/example/keyspace/keyspace/server/Opcode" "code" "I" (.int (13 : Int32))) (F_o_AUTH_RESPONSE_code : Fld Z Z.heap o_AUTH_RESPONSE "com/example/keyspace/keyspace/server/Opcode" "code" "I" (.int (15 : Int32))) (V_o__VALUES : Arv Z Z.heap o__VALUES kc_o__VALUES (.object "com/example/keyspace/keyspace/server/Opcode") (12 : Int32) [(.ref o_ERROR), (.ref o_STARTUP), (.ref o_READY), (.ref o_OPTIONS), (.ref o_SUPPORTED), (.ref o_QUERY), (.ref o_RESULT), (.ref o_PREPARE), (.ref o_EXECUTE), (.ref o_REGISTER), (.ref o_BATCH), (.ref o_AUTH_RESPONSE)] .null) :
    MetFree l (⟨"com/example/keyspace/keyspace/server/Opcode", "values", "()[Lcom/example/keyspace/keyspace/server/Opcode;"⟩ : MethodName) (head1 (Jvm.Cond.code (⟨"com/example/keyspace/keyspace/server/Opcode", "values", "()[Lcom/example/keyspace/keyspace/server/Opcode;"⟩ : MethodName) prog_150_method_1_code 0 (some (.array (.object "com/example/keyspace/keyspace/server/Opcode"))) :: ws) ({ frames := 1, cells := 1, slots := 12, locals := 14 } : Room)) (fun a U => a = #[] ∧ Z.Warmed39 U.vm ∧ U.heap = h0) (fun _ _ _ _ _ => True) (fun _ U o U' => ∃ v L, o = .returned v ∧ Q_own_values Z o__VALUES o_ERROR o_STARTUP o_READY o_OPTIONS o_SUPPORTED o_QUERY o_RESULT o_PREPARE o_EXECUTE o_REGISTER o_BATCH o_AUTH_RESPONSE kc_o__VALUES h0 n0 v U'.heap L ∧ FrameEnd U o U' L ({ frames := 1, cells := 1, slots := 12, locals := 14 } : Room).cells ({ frames := 1, cells := 1, slots := 12, locals := 14 } : Room).slots) := by
  refine MetFree.of_bodySF (plainFor_of_name own_pn1) hisR ?_
  intro p e s m args below meth c s₁ Bd hml0 hP hK
  obtain ⟨rfl, hZ, hh⟩ := hP
  have hx := Bd.exec
  have hby := Bd.bytes
  have hml : c.maxLocals = 0 := hml0
  have hown : s.vm.findClass "com/example/keyspace/keyspace/server/Opcode" = some m.cls := findClass_of_methodNamed Bd.named
  have hnm := (name_of_methodNamed Bd.named Bd.method).1
  have X0 : Stand p l e ({ frames := 1, cells := 1, slots := 12, locals := 14 } : Room) s m #[] below meth c s₁ [] 0 0 := Stand.of_body Bd
  have e0 : s₁.heap = h0 := by rw [← hh, Bd.state]; rfl
  have N0 := Fr.nil n0
  have K0 := Keep.refl h0 []
  refine own_go (fun t k => castTop (own_ef0 m ) k) ?_
  show OwnG p.tables e below _ (s₁.setTop (mkF m 0 #[] []))
  obtain ⟨T1, X1, e1, st1⟩ := getS2 X0 hx hZ hown (host := "") (Or.inl (hw _ (List.mem_of_getElem? (i := 7) rfl))) Via.refl e0 (S__VALUES.ext O0.2) (g := (mkF m 0 #[] [])) rfl (hb hby own_d2)
  refine own_go (fun t k => st1 t k) ?_
  show OwnG p.tables e below _ (T1.setTop (mkF m 3 #[] [(.ref o__VALUES)]))
  obtain ⟨T2, h2, X2, e2, E2, A2, B2, st2⟩ := cloneH X1 hx hZ hown (hw _ (List.mem_of_getElem? (i := 9) rfl)) (hw _ (List.mem_of_getElem? (i := 10) rfl)) (hw _ (List.mem_of_getElem? (i := 14) rfl)) (hw _ (List.mem_of_getElem? (i := 12) rfl)) (hw _ (List.mem_of_getElem? (i := 13) rfl)) (hw _ (List.mem_of_getElem? (i := 15) rfl)) e1 (Arv.arh (V_o__VALUES.ext O0.2)) (E_o__VALUES.ext O0.2) (g := (mkF m 3 #[] [(.ref o__VALUES)])) rfl (by rw [hml]; rfl) rfl (hb hby own_d3) (by decide) (W := 0) (cap := 12) (by show 2 * 0 + _ ≤ _; exact Nat.le_of_eq rfl) (by decide) (by decide) (by decide) (by decide)
  obtain ⟨b2, g2⟩ : ∃ z, z = h0.size := ⟨_, rfl⟩
  rw [← g2] at A2 B2 st2
  have g_b2 : n0 ≤ b2 := Nat.le_trans Z0 (Nat.le_of_eq g2.symm)
  have sz_b2 : h0.size ≤ b2 := Nat.le_trans K0.1 (Nat.le_of_eq g2.symm)
  have F3 : Old Z n0 h2 := O0.ext E2
  have K4 : Keep h0 h2 [] := K0.ext E2
  have Z4 : n0 ≤ h2.size := Nat.le_trans Z0 E2.1
  have F5 : Arv Z h2 b2 kc_o__VALUES (.object "com/example/keyspace/keyspace/server/Opcode") (12 : Int32) [(.ref o_ERROR), (.ref o_STARTUP), (.ref o_READY), (.ref o_OPTIONS), (.ref o_SUPPORTED), (.ref o_QUERY), (.ref o_RESULT), (.ref o_PREPARE), (.ref o_EXECUTE), (.ref o_REGISTER), (.ref o_BATCH), (.ref o_AUTH_RESPONSE)] .null := A2
  refine own_go (fun t k => st2 t k) ?_
  show OwnG p.tables e below _ (T2.setTop (mkF m 6 #[] [(.ref b2)]))
  obtain ⟨T6, X6, e6, st6⟩ := castY X2 hx hZ hown (hw _ (List.mem_of_getElem? (i := 29) rfl)) e2 (Ins.self B2) (g := (mkF m 6 #[] [(.ref b2)])) rfl rfl (hb hby own_d4)
  refine own_go (fun t k => st6 t k) ?_
  show OwnG p.tables e below _ (T6.setTop (mkF m 9 #[] [(.ref b2)]))
  obtain ⟨fs, hr, hrun, hended, hW, hsame⟩ := X6.leave (v := some (.ref b2)) (fun h => by rw [Bd.returns] at h; cases h)
  have hlast : Steps p.tables e below (T6.setTop (mkF m 9 #[] [(.ref b2)])) (T6.setFrames fs) := by
    exact retOut X6 hx (t := (.array (.object "com/example/keyspace/keyspace/server/Opcode"))) Bd.returns rfl (Or.inr (Or.inr (Or.inr (Or.inr ⟨rfl, rfl, rfl⟩)))) (hb hby own_d5) hr
  refine ⟨_, _, hlast, hrun, hended, _, _, rfl, ?_, ⟨_, rfl⟩, hW, hsame.mono (by decide) (by decide)⟩
  show Q_own_values Z o__VALUES o_ERROR o_STARTUP o_READY o_OPTIONS o_SUPPORTED o_QUERY o_RESULT o_PREPARE o_EXECUTE o_REGISTER o_BATCH o_AUTH_RESPONSE kc_o__VALUES h0 n0 _ T6.heap _
  rw [e6]
  exact ⟨b2, rfl, N0, K4, F5⟩
theorem own_ef6 (m : MethodId) (p1 : Int32) : entryFrame m #[(.int p1)] 5 = mkF m 0 #[.val (.int p1), .unset, .unset, .unset, .unset] [] := by first | (simp [entryFrame, mkF, argsToLocals, Value.category]; done) | rfl
theorem own_d7 : decode prog_150_method_5_code 0 = .ok (.invokestatic 63, 3) := by decide +kernel
theorem own_pd8 : parseMethodDescriptor "()[Lcom/example/keyspace/keyspace/server/Opcode;" = some ⟨[], some (.array (.object "com/example/keyspace/keyspace/server/Opcode"))⟩ := by decide +kernel
theorem own_d9 : decode prog_150_method_5_code 3 = .ok (.astore_n 1, 1) := by decide +kernel
theorem own_d10 : decode prog_150_method_5_code 4 = .ok (.aload_n 1, 1) := by decide +kernel
theorem own_d11 : decode prog_150_method_5_code 5 = .ok (.arraylength, 1) := by decide +kernel
theorem own_d12 : decode prog_150_method_5_code 6 = .ok (.istore_n 2, 1) := by decide +kernel
theorem own_d13 : decode prog_150_method_5_code 7 = .ok (.iconst 0, 1) := by decide +kernel
theorem own_d14 : decode prog_150_method_5_code 8 = .ok (.istore_n 3, 1) := by decide +kernel
theorem own_d15 : decode prog_150_method_5_code 9 = .ok (.iload_n 3, 1) := by decide +kernel
theorem own_d16 : decode prog_150_method_5_code 10 = .ok (.iload_n 2, 1) := by decide +kernel
theorem own_d17 : decode prog_150_method_5_code 11 = .ok (.if_icmp .ge 26, 3) := by decide +kernel
theorem own_d18 : decode prog_150_method_5_code 14 = .ok (.aload_n 1, 1) := by decide +kernel
theorem own_d19 : decode prog_150_method_5_code 15 = .ok (.iload_n 3, 1) := by decide +kernel
theorem own_d20 : decode prog_150_method_5_code 16 = .ok (.aaload, 1) := by decide +kernel
theorem own_d21 : decode prog_150_method_5_code 17 = .ok (.astore 4, 2) := by decide +kernel
theorem own_d22 : decode prog_150_method_5_code 19 = .ok (.aload 4, 2) := by decide +kernel
theorem own_d23 : decode prog_150_method_5_code 21 = .ok (.getfield 59, 3) := by decide +kernel
theorem own_d24 : decode prog_150_method_5_code 24 = .ok (.iload_n 0, 1) := by decide +kernel
theorem own_d25 : decode prog_150_method_5_code 25 = .ok (.if_icmp .ne 6, 3) := by decide +kernel
theorem own_d26 : decode prog_150_method_5_code 28 = .ok (.aload 4, 2) := by decide +kernel
theorem own_d27 : decode prog_150_method_5_code 30 = .ok (.areturn, 1) := by decide +kernel
theorem own_d28 : decode prog_150_method_5_code 31 = .ok (.iinc 3 1, 3) := by decide +kernel
theorem own_d29 : decode prog_150_method_5_code 34 = .ok (.goto (-25), 3) := by decide +kernel
theorem own_d30 : decode prog_150_method_5_code 37 = .ok (.aconst_null, 1) := by decide +kernel
theorem own_d31 : decode prog_150_method_5_code 38 = .ok (.areturn, 1) := by decide +kernel
def Q_own_of (Z : State) (p1 : Int32) (o__VALUES : Addr) (o_ERROR : Addr) (o_STARTUP : Addr) (o_READY : Addr) (o_OPTIONS : Addr) (o_SUPPORTED : Addr) (o_QUERY : Addr) (o_RESULT : Addr) (o_PREPARE : Addr) (o_EXECUTE : Addr) (o_REGISTER : Addr) (o_BATCH : Addr) (o_AUTH_RESPONSE : Addr) (kc_o__VALUES : ClassId) (h0 : Heap) (n0 : Nat) (v : Option Value) (h : Heap) (L : List Loc) : Prop := v = some (own_val p1 o_ERROR o_STARTUP o_READY o_OPTIONS o_SUPPORTED o_QUERY o_RESULT o_PREPARE o_EXECUTE o_REGISTER o_BATCH o_AUTH_RESPONSE) ∧ Fr n0 L ∧ Keep h0 h []
set_option maxRecDepth 65536 in
set_option maxHeartbeats 40000000 in
theorem own_of (l : Launch) (Z : State) (a0 : Array Value) (hw : ∀ d ∈ tables_1, d.before a0 Z = true) (ws : List Jvm.Cond) (p1 : Int32) (o__VALUES : Addr) (o_ERROR : Addr) (o_STARTUP : Addr) (o_READY : Addr) (o_OPTIONS : Addr) (o_SUPPORTED : Addr) (o_QUERY : Addr) (o_RESULT : Addr) (o_PREPARE : Addr) (o_EXECUTE : Addr) (o_REGISTER : Addr) (o_BATCH : Addr) (o_AUTH_RESPONSE : Addr) (kc_o__VALUES : ClassId) (h0 : Heap) (n0 : Nat) (Z0 : n0 ≤ h0.size) (O0 : Old Z n0 h0) (S__VALUES : Sta Z Z.heap "com/example/keyspace/keyspace/server/Opcode" "$VALUES" "[Lcom/example/keyspace/keyspace/server/Opcode;" (.ref o__VALUES)) (E_o__VALUES : Exa Z Z.heap o__VALUES "[Lcom/example/keyspace/keyspace/server/Opcode;") (S_ERROR : Sta Z Z.heap "com/example/keyspace/keyspace/server/Opcode" "ERROR" "Lcom/example/keyspace/keyspace/server/Opcode;" (.ref o_ERROR)) (E_o_ERROR : Exa Z Z.heap o_ERROR "com/example/keyspace/keyspace/server/Opcode") (S_STARTUP : Sta Z Z.heap "com/example/keyspace/keyspace/server/Opcode" "STARTUP" "Lcom/example/keyspace/keyspace/server/Opcode;" (.ref o_STARTUP)) (E_o_STARTUP : Exa Z Z.heap o_STARTUP "com/example/keyspace/keyspace/server/Opcode") (S_READY : Sta Z Z.heap "com/example/keyspace/keyspace/server/Opcode" "READY" "Lcom/example/keyspace/keyspace/server/Opcode;" (.ref o_READY)) (E_o_READY : Exa Z Z.heap o_READY "com/example/keyspace/keyspace/server/Opcode") (S_OPTIONS : Sta Z Z.heap "com/example/keyspace/keyspace/server/Opcode" "OPTIONS" "Lcom/example/keyspace/keyspace/server/Opcode;" (.ref o_OPTIONS)) (E_o_OPTIONS : Exa Z Z.heap o_OPTIONS "com/example/keyspace/keyspace/server/Opcode") (S_SUPPORTED : Sta Z Z.heap "com/example/keyspace/keyspace/server/Opcode" "SUPPORTED" "Lcom/example/keyspace/keyspace/server/Opcode;" (.ref o_SUPPORTED)) (E_o_SUPPORTED : Exa Z Z.heap o_SUPPORTED "com/example/keyspace/keyspace/server/Opcode") (S_QUERY : Sta Z Z.heap "com/example/keyspace/keyspace/server/Opcode" "QUERY" "Lcom/example/keyspace/keyspace/server/Opcode;" (.ref o_QUERY)) (E_o_QUERY : Exa Z Z.heap o_QUERY "com/example/keyspace/keyspace/server/Opcode") (S_RESULT : Sta Z Z.heap "com/example/keyspace/keyspace/server/Opcode" "RESULT" "Lcom/example/keyspace/keyspace/server/Opcode;" (.ref o_RESULT)) (E_o_RESULT : Exa Z Z.heap o_RESULT "com/example/keyspace/keyspace/server/Opcode") (S_PREPARE : Sta Z Z.heap "com/example/keyspace/keyspace/server/Opcode" "PREPARE" "Lcom/example/keyspace/keyspace/server/Opcode;" (.ref o_PREPARE)) (E_o_PREPARE : Exa Z Z.heap o_PREPARE "com/example/keyspace/keyspace/server/Opcode") (S_EXECUTE : Sta Z Z.heap "com/example/keyspace/keyspace/server/Opcode" "EXECUTE" "Lcom/example/keyspace/keyspace/server/Opcode;" (.ref o_EXECUTE)) (E_o_EXECUTE : Exa Z Z.heap o_EXECUTE "com/example/keyspace/keyspace/server/Opcode") (S_REGISTER : Sta Z Z.heap "com/example/keyspace/keyspace/server/Opcode" "REGISTER" "Lcom/example/keyspace/keyspace/server/Opcode;" (.ref o_REGISTER)) (E_o_REGISTER : Exa Z Z.heap o_REGISTER "com/example/keyspace/keyspace/server/Opcode") (S_BATCH : Sta Z Z.heap "com/example/keyspace/keyspace/server/Opcode" "BATCH" "Lcom/example/keyspace/keyspace/server/Opcode;" (.ref o_BATCH)) (E_o_BATCH : Exa Z Z.heap o_BATCH "com/example/keyspace/keyspace/server/Opcode") (S_AUTH_RESPONSE : Sta Z Z.heap "com/example/keyspace/keyspace/server/Opcode" "AUTH_RESPONSE" "Lcom/example/keyspace/keyspace/server/Opcode;" (.ref o_AUTH_RESPONSE)) (E_o_AUTH_RESPONSE : Exa Z Z.heap o_AUTH_RESPONSE "com/example/keyspace/keyspace/server/Opcode") (F_o_ERROR_code : Fld Z Z.heap o_ERROR "com/example/keyspace/keyspace/server/Opcode" "code" "I" (.int (0 : Int32))) (F_o_STARTUP_code : Fld Z Z.heap o_STARTUP "com/example/keyspace/keyspace/server/Opcode" "code" "I" (.int (1 : Int32))) (F_o_READY_code : Fld Z Z.heap o_READY "com/example/keyspace/keyspace/server/Opcode" "code" "I" (.int (2 : Int32))) (F_o_OPTIONS_code : Fld Z Z.heap o_OPTIONS "com/example/keyspace/keyspace/server/Opcode" "code" "I" (.int (5 : Int32))) (F_o_SUPPORTED_code : Fld Z Z.heap o_SUPPORTED "com/example/keyspace/keyspace/server/Opcode" "code" "I" (.int (6 : Int32))) (F_o_QUERY_code : Fld Z Z.heap o_QUERY "com/example/keyspace/keyspace/server/Opcode" "code" "I" (.int (7 : Int32))) (F_o_RESULT_code : Fld Z Z.heap o_RESULT "com/example/keyspace/keyspace/server/Opcode" "code" "I" (.int (8 : Int32))) (F_o_PREPARE_code : Fld Z Z.heap o_PREPARE "com/example/keyspace/keyspace/server/Opcode" "code" "I" (.int (9 : Int32))) (F_o_EXECUTE_code : Fld Z Z.heap o_EXECUTE "com/example/keyspace/keyspace/server/Opcode" "code" "I" (.int (10 : Int32))) (F_o_REGISTER_code : Fld Z Z.heap o_REGISTER "com/example/keyspace/keyspace/server/Opcode" "code" "I" (.int (11 : Int32))) (F_o_BATCH_code : Fld Z Z.heap o_BATCH "com/example/keyspace/keyspace/server/Opcode" "code" "I" (.int (13 : Int32))) (F_o_AUTH_RESPONSE_code : Fld Z Z.heap o_AUTH_RESPONSE "com/example/keyspace/keyspace/server/Opcode" "code" "I" (.int (15 : Int32))) (V_o__VALUES : Arv Z Z.heap o__VALUES kc_o__VALUES (.object "com/example/keyspace/keyspace/server/Opcode") (12 : Int32) [(.ref o_ERROR), (.ref o_STARTUP), (.ref o_READY), (.ref o_OPTIONS), (.ref o_SUPPORTED), (.ref o_QUERY), (.ref o_RESULT), (.ref o_PREPARE), (.ref o_EXECUTE), (.ref o_REGISTER), (.ref o_BATCH), (.ref o_AUTH_RESPONSE)] .null) :
    MetFree l (⟨"com/example/keyspace/keyspace/server/Opcode", "of", "(I)Lcom/example/keyspace/keyspace/server/Opcode;"⟩ : MethodName) (head1 (Jvm.Cond.code (⟨"com/example/keyspace/keyspace/server/Opcode", "of", "(I)Lcom/example/keyspace/keyspace/server/Opcode;"⟩ : MethodName) prog_150_method_5_code 5 (some (.object "com/example/keyspace/keyspace/server/Opcode")) :: ws) ({ frames := 2, cells := 1, slots := 12, locals := 25 } : Room)) (fun a U => a = #[(.int p1)] ∧ Z.Warmed39 U.vm ∧ U.heap = h0) (fun _ _ _ _ _ => True) (fun _ U o U' => ∃ v L, o = .returned v ∧ Q_own_of Z p1 o__VALUES o_ERROR o_STARTUP o_READY o_OPTIONS o_SUPPORTED o_QUERY o_RESULT o_PREPARE o_EXECUTE o_REGISTER o_BATCH o_AUTH_RESPONSE kc_o__VALUES h0 n0 v U'.heap L ∧ FrameEnd U o U' L ({ frames := 2, cells := 1, slots := 12, locals := 25 } : Room).cells ({ frames := 2, cells := 1, slots := 12, locals := 25 } : Room).slots) := by
  refine MetFree.of_bodySF (plainFor_of_name own_pn1) hisR ?_
  intro p e s m args below meth c s₁ Bd hml0 hP hK
  obtain ⟨rfl, hZ, hh⟩ := hP
  have hx := Bd.exec
  have hby := Bd.bytes
  have hml : c.maxLocals = 5 := hml0
  have hown : s.vm.findClass "com/example/keyspace/keyspace/server/Opcode" = some m.cls := findClass_of_methodNamed Bd.named
  have hnm := (name_of_methodNamed Bd.named Bd.method).1
  have X0 : Stand p l e ({ frames := 2, cells := 1, slots := 12, locals := 25 } : Room) s m #[(.int p1)] below meth c s₁ [] 0 0 := Stand.of_body Bd
  have e0 : s₁.heap = h0 := by rw [← hh, Bd.state]; rfl
  have N0 := Fr.nil n0
  have K0 := Keep.refl h0 []
  refine own_go (fun t k => castTop (own_ef6 m p1) k) ?_
  show OwnG p.tables e below _ (s₁.setTop (mkF m 0 #[.val (.int p1), .unset, .unset, .unset, .unset] []))
  obtain ⟨_, _, ⟨T1, L1, k1, n1⟩, -, X1, ⟨Lc1, hQ1, l1, y1, z1⟩, st1⟩ := Jvm.LawKit.callS X0 hx (y := (⟨"com/example/keyspace/keyspace/server/Opcode", "values", "()[Lcom/example/keyspace/keyspace/server/Opcode;"⟩ : MethodName)) hown (mvT hZ (hw _ (List.mem_of_getElem? (i := 4) rfl))) (mvT hZ (hw _ (List.mem_of_getElem? (i := 5) rfl))) (mvT hZ (hw _ (List.mem_of_getElem? (i := 2) rfl))) (mvT hZ (hw _ (List.mem_of_getElem? (i := 6) rfl))) (by decide) (backOf (W := 0) (own_values l Z a0 hw [] o__VALUES o_ERROR o_STARTUP o_READY o_OPTIONS o_SUPPORTED o_QUERY o_RESULT o_PREPARE o_EXECUTE o_REGISTER o_BATCH o_AUTH_RESPONSE kc_o__VALUES h0 n0 Z0 O0 S__VALUES E_o__VALUES S_ERROR E_o_ERROR S_STARTUP E_o_STARTUP S_READY E_o_READY S_OPTIONS E_o_OPTIONS S_SUPPORTED E_o_SUPPORTED S_QUERY E_o_QUERY S_RESULT E_o_RESULT S_PREPARE E_o_PREPARE S_EXECUTE E_o_EXECUTE S_REGISTER E_o_REGISTER S_BATCH E_o_BATCH S_AUTH_RESPONSE E_o_AUTH_RESPONSE F_o_ERROR_code F_o_STARTUP_code F_o_READY_code F_o_OPTIONS_code F_o_SUPPORTED_code F_o_QUERY_code F_o_RESULT_code F_o_PREPARE_code F_o_EXECUTE_code F_o_REGISTER_code F_o_BATCH_code F_o_AUTH_RESPONSE_code V_o__VALUES) hZ (hw _ (List.mem_of_getElem? (i := 6) rfl)) (hw _ (List.mem_of_getElem? (i := 2) rfl)) (by decide) (by decide)) (g := (mkF m 0 #[.val (.int p1), .unset, .unset, .unset, .unset] [])) rfl (by rw [hml]; rfl) (argsL := []) (rest := []) (lenOf own_pd8 rfl) rfl (by show 2 * 0 + _ ≤ _; exact Nat.le_of_eq rfl) (hb hby own_d7) (fun _ _ => ⟨rfl, e0, (by decide : 0 + 1 ≤ _), (by decide : 0 + 12 ≤ _)⟩)
  dsimp only [Pt.U, Pt.locs, Pt.cells, Pt.slots] at X1 l1 y1 z1 st1 hQ1
  subst l1 y1 z1
  obtain ⟨bv_1, rfl, Nq1, Kq1, Fq1_0⟩ := hQ1
  have N1 := Fr.app N0 Nq1
  have F2 : Old Z n0 T1.heap := O0.keep Kq1 all0
  have K1 : Keep h0 T1.heap [] := K0.trans Kq1 all0
  have Z1 : n0 ≤ T1.heap.size := Nat.le_trans Z0 Kq1.1
  refine own_go (fun t k => st1 t k) ?_
  show OwnG p.tables e below _ (T1.setTop (mkF m 3 #[.val (.int p1), .unset, .unset, .unset, .unset] [(.ref bv_1)]))
  refine own_go (fun t k => XS.astoreN X1.here hx rfl (hb hby own_d9) rfl rfl (l' := #[.val (.int p1), .val (.ref bv_1), .unset, .unset, .unset]) rfl k) ?_
  show OwnG p.tables e below _ (T1.setTop (mkF m 4 #[.val (.int p1), .val (.ref bv_1), .unset, .unset, .unset] []))
  refine own_go (fun t k => XS.aloadN X1.here hx rfl (hb hby own_d10) rfl rfl k) ?_
  show OwnG p.tables e below _ (T1.setTop (mkF m 5 #[.val (.int p1), .val (.ref bv_1), .unset, .unset, .unset] [(.ref bv_1)]))
  have vv3 := Fq1_0
  obtain ⟨cl3, Ar3, qk3, Sz3, Nn3, Hs3, Gs3⟩ := vv3
  have st3 : ∀ t, Steps p.tables e below (T1.setTop (mkF m 6 #[.val (.int p1), .val (.ref bv_1), .unset, .unset, .unset] [(.int (12 : Int32))])) t → Steps p.tables e below (T1.setTop (mkF m 5 #[.val (.int p1), .val (.ref bv_1), .unset, .unset, .unset] [(.ref bv_1)])) t := fun t k => by
    refine X1.arraylength hx Ar3.1 (State.isArrayOf_alike hZ.alike Ar3.2.1) (g := (mkF m 5 #[.val (.int p1), .val (.ref bv_1), .unset, .unset, .unset] [(.ref bv_1)])) rfl rfl (hb hby own_d11) _ ?_
    rw [len_of Sz3 Nn3]
    exact k
  refine own_go (fun t k => st3 t k) ?_
  show OwnG p.tables e below _ (T1.setTop (mkF m 6 #[.val (.int p1), .val (.ref bv_1), .unset, .unset, .unset] [(.int (12 : Int32))]))
  refine own_go (fun t k => XS.istoreN X1.here hx rfl (hb hby own_d12) rfl (l' := #[.val (.int p1), .val (.ref bv_1), .val (.int (12 : Int32)), .unset, .unset]) rfl k) ?_
  show OwnG p.tables e below _ (T1.setTop (mkF m 7 #[.val (.int p1), .val (.ref bv_1), .val (.int (12 : Int32)), .unset, .unset] []))
  refine own_go (fun t k => XS.iconst X1.here hx rfl (hb hby own_d13) k) ?_
  show OwnG p.tables e below _ (T1.setTop (mkF m 8 #[.val (.int p1), .val (.ref bv_1), .val (.int (12 : Int32)), .unset, .unset] [(.int (0 : Int32))]))
  refine own_go (fun t k => XS.istoreN X1.here hx rfl (hb hby own_d14) rfl (l' := #[.val (.int p1), .val (.ref bv_1), .val (.int (12 : Int32)), .val (.int (0 : Int32)), .unset]) rfl k) ?_
  show OwnG p.tables e below _ (T1.setTop (mkF m 9 #[.val (.int p1), .val (.ref bv_1), .val (.int (12 : Int32)), .val (.int (0 : Int32)), .unset] []))
  refine own_go (fun t k => XS.iloadN X1.here hx rfl (hb hby own_d15) rfl  k) ?_
  show OwnG p.tables e below _ (T1.setTop (mkF m 10 #[.val (.int p1), .val (.ref bv_1), .val (.int (12 : Int32)), .val (.int (0 : Int32)), .unset] [(.int (0 : Int32))]))
  refine own_go (fun t k => XS.iloadN X1.here hx rfl (hb hby own_d16) rfl  k) ?_
  show OwnG p.tables e below _ (T1.setTop (mkF m 11 #[.val (.int p1), .val (.ref bv_1), .val (.int (12 : Int32)), .val (.int (0 : Int32)), .unset] [(.int (12 : Int32)), (.int (0 : Int32))]))
  refine own_go (fun t k => XS.icmpNo X1.here hx rfl (hb hby own_d17) rfl (tlt (by decide : (0 : Int32) < (12 : Int32))).2.1 k) ?_
  show OwnG p.tables e below _ (T1.setTop (mkF m 14 #[.val (.int p1), .val (.ref bv_1), .val (.int (12 : Int32)), .val (.int (0 : Int32)), .unset] []))
  refine own_go (fun t k => XS.aloadN X1.here hx rfl (hb hby own_d18) rfl rfl k) ?_
  show OwnG p.tables e below _ (T1.setTop (mkF m 15 #[.val (.int p1), .val (.ref bv_1), .val (.int (12 : Int32)), .val (.int (0 : Int32)), .unset] [(.ref bv_1)]))
  refine own_go (fun t k => XS.iloadN X1.here hx rfl (hb hby own_d19) rfl  k) ?_
  show OwnG p.tables e below _ (T1.setTop (mkF m 16 #[.val (.int p1), .val (.ref bv_1), .val (.int (12 : Int32)), .val (.int (0 : Int32)), .unset] [(.int (0 : Int32)), (.ref bv_1)]))
  have vv4 := Fq1_0
  obtain ⟨cl4, Ar4, qk4, Sz4, Nn4, Hs4, Gs4⟩ := vv4
  have hin4 : ¬ ((0 : Int32) < 0 ∨ cl4.slots.size ≤ ((0 : Int32)).toNatClampNeg) := inb_of Sz4 ⟨by decide, by decide⟩
  have hat4 : cl4.slots[((0 : Int32)).toNatClampNeg]? = some (.ref o_ERROR) := Hs4.at hin4 rfl
  refine own_go (fun t k => (X1.aaload hx (j := (0 : Int32)) (v := (.ref o_ERROR)) Ar4.1 (State.isArrayOf_alike hZ.alike Ar4.2.1) rfl Ar4.2.2 hin4 hat4 (g := (mkF m 16 #[.val (.int p1), .val (.ref bv_1), .val (.int (12 : Int32)), .val (.int (0 : Int32)), .unset] [(.int (0 : Int32)), (.ref bv_1)])) rfl rfl (hb hby own_d20)) t k) ?_
  show OwnG p.tables e below _ (T1.setTop (mkF m 17 #[.val (.int p1), .val (.ref bv_1), .val (.int (12 : Int32)), .val (.int (0 : Int32)), .unset] [(.ref o_ERROR)]))
  refine own_go (fun t k => XS.astore X1.here hx rfl (hb hby own_d21) rfl rfl (l' := #[.val (.int p1), .val (.ref bv_1), .val (.int (12 : Int32)), .val (.int (0 : Int32)), .val (.ref o_ERROR)]) rfl k) ?_
  show OwnG p.tables e below _ (T1.setTop (mkF m 19 #[.val (.int p1), .val (.ref bv_1), .val (.int (12 : Int32)), .val (.int (0 : Int32)), .val (.ref o_ERROR)] []))
  refine own_go (fun t k => XS.aload X1.here hx rfl (hb hby own_d22) rfl rfl k) ?_
  show OwnG p.tables e below _ (T1.setTop (mkF m 21 #[.val (.int p1), .val (.ref bv_1), .val (.int (12 : Int32)), .val (.int (0 : Int32)), .val (.ref o_ERROR)] [(.ref o_ERROR)]))
  obtain ⟨T5, X5, e5, st5⟩ := getF X1 hx hZ hown (host := "") (Or.inl (hw _ (List.mem_of_getElem? (i := 31) rfl))) Via.refl rfl (F_o_ERROR_code.ext F2.2) (g := (mkF m 21 #[.val (.int p1), .val (.ref bv_1), .val (.int (12 : Int32)), .val (.int (0 : Int32)), .val (.ref o_ERROR)] [(.ref o_ERROR)])) rfl rfl (hb hby own_d23)
  refine own_go (fun t k => st5 t k) ?_
  show OwnG p.tables e below _ (T5.setTop (mkF m 24 #[.val (.int p1), .val (.ref bv_1), .val (.int (12 : Int32)), .val (.int (0 : Int32)), .val (.ref o_ERROR)] [(.int (0 : Int32))]))
  refine own_go (fun t k => XS.iloadN X5.here hx rfl (hb hby own_d24) rfl  k) ?_
  show OwnG p.tables e below _ (T5.setTop (mkF m 25 #[.val (.int p1), .val (.ref bv_1), .val (.int (12 : Int32)), .val (.int (0 : Int32)), .val (.ref o_ERROR)] [(.int p1), (.int (0 : Int32))]))
  by_cases hc6 : (0 : Int32) = p1
  · refine own_go (fun t k => XS.icmpNo X5.here hx rfl (hb hby own_d25) rfl (teq hc6).2 k) ?_
    show OwnG p.tables e below _ (T5.setTop (mkF m 28 #[.val (.int p1), .val (.ref bv_1), .val (.int (12 : Int32)), .val (.int (0 : Int32)), .val (.ref o_ERROR)] []))
    refine own_go (fun t k => XS.aload X5.here hx rfl (hb hby own_d26) rfl rfl k) ?_
    show OwnG p.tables e below _ (T5.setTop (mkF m 30 #[.val (.int p1), .val (.ref bv_1), .val (.int (12 : Int32)), .val (.int (0 : Int32)), .val (.ref o_ERROR)] [(.ref o_ERROR)]))
    obtain ⟨fs, hr, hrun, hended, hW, hsame⟩ := X5.leave (v := some (.ref o_ERROR)) (fun h => by rw [Bd.returns] at h; cases h)
    have hlast : Steps p.tables e below (T5.setTop (mkF m 30 #[.val (.int p1), .val (.ref bv_1), .val (.int (12 : Int32)), .val (.int (0 : Int32)), .val (.ref o_ERROR)] [(.ref o_ERROR)])) (T5.setFrames fs) := by
      exact retOut X5 hx (t := (.object "com/example/keyspace/keyspace/server/Opcode")) Bd.returns rfl (Or.inr (Or.inr (Or.inr (Or.inr ⟨rfl, rfl, rfl⟩)))) (hb hby own_d27) hr
    refine ⟨_, _, hlast, hrun, hended, _, _, rfl, ?_, ⟨_, rfl⟩, hW, hsame.mono (by decide) (by decide)⟩
    show Q_own_of Z p1 o__VALUES o_ERROR o_STARTUP o_READY o_OPTIONS o_SUPPORTED o_QUERY o_RESULT o_PREPARE o_EXECUTE o_REGISTER o_BATCH o_AUTH_RESPONSE kc_o__VALUES h0 n0 _ T5.heap _
    rw [e5]
    exact ⟨by simp [own_val, hc6.symm], N1, K1⟩
  · refine own_go (fun t k => XS.icmpYes X5.here hx rfl (pc0 := 25) (pc' := 31) rfl (hb hby own_d25) rfl (feq hc6).2 (by decide) (by decide) k) ?_
    show OwnG p.tables e below _ (T5.setTop (mkF m 31 #[.val (.int p1), .val (.ref bv_1), .val (.int (12 : Int32)), .val (.int (0 : Int32)), .val (.ref o_ERROR)] []))
    refine own_go (fun t k => XS.iinc X5.here hx rfl (hb hby own_d28) rfl (l' := #[.val (.int p1), .val (.ref bv_1), .val (.int (12 : Int32)), .val (.int ((0 : Int32) + (1 : Int32))), .val (.ref o_ERROR)]) rfl k) ?_
    show OwnG p.tables e below _ (T5.setTop (mkF m 34 #[.val (.int p1), .val (.ref bv_1), .val (.int (12 : Int32)), .val (.int ((0 : Int32) + (1 : Int32))), .val (.ref o_ERROR)] []))
    rw [show ((0 : Int32) + (1 : Int32)) = (1 : Int32) from by decide]
    show OwnG p.tables e below _ (T5.setTop (mkF m 34 #[.val (.int p1), .val (.ref bv_1), .val (.int (12 : Int32)), .val (.int (1 : Int32)), .val (.ref o_ERROR)] []))
    refine own_go (fun t k => XS.goto X5.here hx rfl (pc0 := 34) (pc' := 9) rfl (hb hby own_d29) (by decide) (by decide) k) ?_
    show OwnG p.tables e below _ (T5.setTop (mkF m 9 #[.val (.int p1), .val (.ref bv_1), .val (.int (12 : Int32)), .val (.int (1 : Int32)), .val (.ref o_ERROR)] []))
    refine own_go (fun t k => XS.iloadN X5.here hx rfl (hb hby own_d15) rfl  k) ?_
    show OwnG p.tables e below _ (T5.setTop (mkF m 10 #[.val (.int p1), .val (.ref bv_1), .val (.int (12 : Int32)), .val (.int (1 : Int32)), .val (.ref o_ERROR)] [(.int (1 : Int32))]))
    refine own_go (fun t k => XS.iloadN X5.here hx rfl (hb hby own_d16) rfl  k) ?_
    show OwnG p.tables e below _ (T5.setTop (mkF m 11 #[.val (.int p1), .val (.ref bv_1), .val (.int (12 : Int32)), .val (.int (1 : Int32)), .val (.ref o_ERROR)] [(.int (12 : Int32)), (.int (1 : Int32))]))
    refine own_go (fun t k => XS.icmpNo X5.here hx rfl (hb hby own_d17) rfl (tlt (by decide : (1 : Int32) < (12 : Int32))).2.1 k) ?_
    show OwnG p.tables e below _ (T5.setTop (mkF m 14 #[.val (.int p1), .val (.ref bv_1), .val (.int (12 : Int32)), .val (.int (1 : Int32)), .val (.ref o_ERROR)] []))
    refine own_go (fun t k => XS.aloadN X5.here hx rfl (hb hby own_d18) rfl rfl k) ?_
    show OwnG p.tables e below _ (T5.setTop (mkF m 15 #[.val (.int p1), .val (.ref bv_1), .val (.int (12 : Int32)), .val (.int (1 : Int32)), .val (.ref o_ERROR)] [(.ref bv_1)]))
    refine own_go (fun t k => XS.iloadN X5.here hx rfl (hb hby own_d19) rfl  k) ?_
    show OwnG p.tables e below _ (T5.setTop (mkF m 16 #[.val (.int p1), .val (.ref bv_1), .val (.int (12 : Int32)), .val (.int (1 : Int32)), .val (.ref o_ERROR)] [(.int (1 : Int32)), (.ref bv_1)]))
    have vv7 := Fq1_0
    obtain ⟨cl7, Ar7, qk7, Sz7, Nn7, Hs7, Gs7⟩ := vv7
    have hin7 : ¬ ((1 : Int32) < 0 ∨ cl7.slots.size ≤ ((1 : Int32)).toNatClampNeg) := inb_of Sz7 ⟨by decide, by decide⟩
    have hat7 : cl7.slots[((1 : Int32)).toNatClampNeg]? = some (.ref o_STARTUP) := Hs7.at hin7 rfl
    refine own_go (fun t k => (X5.aaload hx (j := (1 : Int32)) (v := (.ref o_STARTUP)) (by rw [e5]; exact Ar7.1) (State.isArrayOf_alike hZ.alike Ar7.2.1) rfl Ar7.2.2 hin7 hat7 (g := (mkF m 16 #[.val (.int p1), .val (.ref bv_1), .val (.int (12 : Int32)), .val (.int (1 : Int32)), .val (.ref o_ERROR)] [(.int (1 : Int32)), (.ref bv_1)])) rfl rfl (hb hby own_d20)) t k) ?_
    show OwnG p.tables e below _ (T5.setTop (mkF m 17 #[.val (.int p1), .val (.ref bv_1), .val (.int (12 : Int32)), .val (.int (1 : Int32)), .val (.ref o_ERROR)] [(.ref o_STARTUP)]))
    refine own_go (fun t k => XS.astore X5.here hx rfl (hb hby own_d21) rfl rfl (l' := #[.val (.int p1), .val (.ref bv_1), .val (.int (12 : Int32)), .val (.int (1 : Int32)), .val (.ref o_STARTUP)]) rfl k) ?_
    show OwnG p.tables e below _ (T5.setTop (mkF m 19 #[.val (.int p1), .val (.ref bv_1), .val (.int (12 : Int32)), .val (.int (1 : Int32)), .val (.ref o_STARTUP)] []))
    refine own_go (fun t k => XS.aload X5.here hx rfl (hb hby own_d22) rfl rfl k) ?_
    show OwnG p.tables e below _ (T5.setTop (mkF m 21 #[.val (.int p1), .val (.ref bv_1), .val (.int (12 : Int32)), .val (.int (1 : Int32)), .val (.ref o_STARTUP)] [(.ref o_STARTUP)]))
    obtain ⟨T8, X8, e8, st8⟩ := getF X5 hx hZ hown (host := "") (Or.inl (hw _ (List.mem_of_getElem? (i := 31) rfl))) Via.refl e5 (F_o_STARTUP_code.ext F2.2) (g := (mkF m 21 #[.val (.int p1), .val (.ref bv_1), .val (.int (12 : Int32)), .val (.int (1 : Int32)), .val (.ref o_STARTUP)] [(.ref o_STARTUP)])) rfl rfl (hb hby own_d23)
    refine own_go (fun t k => st8 t k) ?_
    show OwnG p.tables e below _ (T8.setTop (mkF m 24 #[.val (.int p1), .val (.ref bv_1), .val (.int (12 : Int32)), .val (.int (1 : Int32)), .val (.ref o_STARTUP)] [(.int (1 : Int32))]))
    refine own_go (fun t k => XS.iloadN X8.here hx rfl (hb hby own_d24) rfl  k) ?_
    show OwnG p.tables e below _ (T8.setTop (mkF m 25 #[.val (.int p1), .val (.ref bv_1), .val (.int (12 : Int32)), .val (.int (1 : Int32)), .val (.ref o_STARTUP)] [(.int p1), (.int (1 : Int32))]))
    by_cases hc9 : (1 : Int32) = p1
    · refine own_go (fun t k => XS.icmpNo X8.here hx rfl (hb hby own_d25) rfl (teq hc9).2 k) ?_
      show OwnG p.tables e below _ (T8.setTop (mkF m 28 #[.val (.int p1), .val (.ref bv_1), .val (.int (12 : Int32)), .val (.int (1 : Int32)), .val (.ref o_STARTUP)] []))
      refine own_go (fun t k => XS.aload X8.here hx rfl (hb hby own_d26) rfl rfl k) ?_
      show OwnG p.tables e below _ (T8.setTop (mkF m 30 #[.val (.int p1), .val (.ref bv_1), .val (.int (12 : Int32)), .val (.int (1 : Int32)), .val (.ref o_STARTUP)] [(.ref o_STARTUP)]))
      obtain ⟨fs, hr, hrun, hended, hW, hsame⟩ := X8.leave (v := some (.ref o_STARTUP)) (fun h => by rw [Bd.returns] at h; cases h)
      have hlast : Steps p.tables e below (T8.setTop (mkF m 30 #[.val (.int p1), .val (.ref bv_1), .val (.int (12 : Int32)), .val (.int (1 : Int32)), .val (.ref o_STARTUP)] [(.ref o_STARTUP)])) (T8.setFrames fs) := by
        exact retOut X8 hx (t := (.object "com/example/keyspace/keyspace/server/Opcode")) Bd.returns rfl (Or.inr (Or.inr (Or.inr (Or.inr ⟨rfl, rfl, rfl⟩)))) (hb hby own_d27) hr
      refine ⟨_, _, hlast, hrun, hended, _, _, rfl, ?_, ⟨_, rfl⟩, hW, hsame.mono (by decide) (by decide)⟩
      show Q_own_of Z p1 o__VALUES o_ERROR o_STARTUP o_READY o_OPTIONS o_SUPPORTED o_QUERY o_RESULT o_PREPARE o_EXECUTE o_REGISTER o_BATCH o_AUTH_RESPONSE kc_o__VALUES h0 n0 _ T8.heap _
      rw [e8]
      exact ⟨by simp [own_val, Ne.symm hc6, hc9.symm], N1, K1⟩
    · refine own_go (fun t k => XS.icmpYes X8.here hx rfl (pc0 := 25) (pc' := 31) rfl (hb hby own_d25) rfl (feq hc9).2 (by decide) (by decide) k) ?_
      show OwnG p.tables e below _ (T8.setTop (mkF m 31 #[.val (.int p1), .val (.ref bv_1), .val (.int (12 : Int32)), .val (.int (1 : Int32)), .val (.ref o_STARTUP)] []))
      refine own_go (fun t k => XS.iinc X8.here hx rfl (hb hby own_d28) rfl (l' := #[.val (.int p1), .val (.ref bv_1), .val (.int (12 : Int32)), .val (.int ((1 : Int32) + (1 : Int32))), .val (.ref o_STARTUP)]) rfl k) ?_
      show OwnG p.tables e below _ (T8.setTop (mkF m 34 #[.val (.int p1), .val (.ref bv_1), .val (.int (12 : Int32)), .val (.int ((1 : Int32) + (1 : Int32))), .val (.ref o_STARTUP)] []))
      rw [show ((1 : Int32) + (1 : Int32)) = (2 : Int32) from by decide]
      show OwnG p.tables e below _ (T8.setTop (mkF m 34 #[.val (.int p1), .val (.ref bv_1), .val (.int (12 : Int32)), .val (.int (2 : Int32)), .val (.ref o_STARTUP)] []))
      refine own_go (fun t k => XS.goto X8.here hx rfl (pc0 := 34) (pc' := 9) rfl (hb hby own_d29) (by decide) (by decide) k) ?_
      show OwnG p.tables e below _ (T8.setTop (mkF m 9 #[.val (.int p1), .val (.ref bv_1), .val (.int (12 : Int32)), .val (.int (2 : Int32)), .val (.ref o_STARTUP)] []))
      refine own_go (fun t k => XS.iloadN X8.here hx rfl (hb hby own_d15) rfl  k) ?_
      show OwnG p.tables e below _ (T8.setTop (mkF m 10 #[.val (.int p1), .val (.ref bv_1), .val (.int (12 : Int32)), .val (.int (2 : Int32)), .val (.ref o_STARTUP)] [(.int (2 : Int32))]))
      refine own_go (fun t k => XS.iloadN X8.here hx rfl (hb hby own_d16) rfl  k) ?_
      show OwnG p.tables e below _ (T8.setTop (mkF m 11 #[.val (.int p1), .val (.ref bv_1), .val (.int (12 : Int32)), .val (.int (2 : Int32)), .val (.ref o_STARTUP)] [(.int (12 : Int32)), (.int (2 : Int32))]))
      refine own_go (fun t k => XS.icmpNo X8.here hx rfl (hb hby own_d17) rfl (tlt (by decide : (2 : Int32) < (12 : Int32))).2.1 k) ?_
      show OwnG p.tables e below _ (T8.setTop (mkF m 14 #[.val (.int p1), .val (.ref bv_1), .val (.int (12 : Int32)), .val (.int (2 : Int32)), .val (.ref o_STARTUP)] []))
      refine own_go (fun t k => XS.aloadN X8.here hx rfl (hb hby own_d18) rfl rfl k) ?_
      show OwnG p.tables e below _ (T8.setTop (mkF m 15 #[.val (.int p1), .val (.ref bv_1), .val (.int (12 : Int32)), .val (.int (2 : Int32)), .val (.ref o_STARTUP)] [(.ref bv_1)]))
      refine own_go (fun t k => XS.iloadN X8.here hx rfl (hb hby own_d19) rfl  k) ?_
      show OwnG p.tables e below _ (T8.setTop (mkF m 16 #[.val (.int p1), .val (.ref bv_1), .val (.int (12 : Int32)), .val (.int (2 : Int32)), .val (.ref o_STARTUP)] [(.int (2 : Int32)), (.ref bv_1)]))
      have vv10 := Fq1_0
      obtain ⟨cl10, Ar10, qk10, Sz10, Nn10, Hs10, Gs10⟩ := vv10
      have hin10 : ¬ ((2 : Int32) < 0 ∨ cl10.slots.size ≤ ((2 : Int32)).toNatClampNeg) := inb_of Sz10 ⟨by decide, by decide⟩
      have hat10 : cl10.slots[((2 : Int32)).toNatClampNeg]? = some (.ref o_READY) := Hs10.at hin10 rfl
      refine own_go (fun t k => (X8.aaload hx (j := (2 : Int32)) (v := (.ref o_READY)) (by rw [e8]; exact Ar10.1) (State.isArrayOf_alike hZ.alike Ar10.2.1) rfl Ar10.2.2 hin10 hat10 (g := (mkF m 16 #[.val (.int p1), .val (.ref bv_1), .val (.int (12 : Int32)), .val (.int (2 : Int32)), .val (.ref o_STARTUP)] [(.int (2 : Int32)), (.ref bv_1)])) rfl rfl (hb hby own_d20)) t k) ?_
      show OwnG p.tables e below _ (T8.setTop (mkF m 17 #[.val (.int p1), .val (.ref bv_1), .val (.int (12 : Int32)), .val (.int (2 : Int32)), .val (.ref o_STARTUP)] [(.ref o_READY)]))
      refine own_go (fun t k => XS.astore X8.here hx rfl (hb hby own_d21) rfl rfl (l' := #[.val (.int p1), .val (.ref bv_1), .val (.int (12 : Int32)), .val (.int (2 : Int32)), .val (.ref o_READY)]) rfl k) ?_
      show OwnG p.tables e below _ (T8.setTop (mkF m 19 #[.val (.int p1), .val (.ref bv_1), .val (.int (12 : Int32)), .val (.int (2 : Int32)), .val (.ref o_READY)] []))
      refine own_go (fun t k => XS.aload X8.here hx rfl (hb hby own_d22) rfl rfl k) ?_
      show OwnG p.tables e below _ (T8.setTop (mkF m 21 #[.val (.int p1), .val (.ref bv_1), .val (.int (12 : Int32)), .val (.int (2 : Int32)), .val (.ref o_READY)] [(.ref o_READY)]))
      obtain ⟨T11, X11, e11, st11⟩ := getF X8 hx hZ hown (host := "") (Or.inl (hw _ (List.mem_of_getElem? (i := 31) rfl))) Via.refl e8 (F_o_READY_code.ext F2.2) (g := (mkF m 21 #[.val (.int p1), .val (.ref bv_1), .val (.int (12 : Int32)), .val (.int (2 : Int32)), .val (.ref o_READY)] [(.ref o_READY)])) rfl rfl (hb hby own_d23)
      refine own_go (fun t k => st11 t k) ?_
      show OwnG p.tables e below _ (T11.setTop (mkF m 24 #[.val (.int p1), .val (.ref bv_1), .val (.int (12 : Int32)), .val (.int (2 : Int32)), .val (.ref o_READY)] [(.int (2 : Int32))]))
      refine own_go (fun t k => XS.iloadN X11.here hx rfl (hb hby own_d24) rfl  k) ?_
      show OwnG p.tables e below _ (T11.setTop (mkF m 25 #[.val (.int p1), .val (.ref bv_1), .val (.int (12 : Int32)), .val (.int (2 : Int32)), .val (.ref o_READY)] [(.int p1), (.int (2 : Int32))]))
      by_cases hc12 : (2 : Int32) = p1
      · refine own_go (fun t k => XS.icmpNo X11.here hx rfl (hb hby own_d25) rfl (teq hc12).2 k) ?_
        show OwnG p.tables e below _ (T11.setTop (mkF m 28 #[.val (.int p1), .val (.ref bv_1), .val (.int (12 : Int32)), .val (.int (2 : Int32)), .val (.ref o_READY)] []))
        refine own_go (fun t k => XS.aload X11.here hx rfl (hb hby own_d26) rfl rfl k) ?_
        show OwnG p.tables e below _ (T11.setTop (mkF m 30 #[.val (.int p1), .val (.ref bv_1), .val (.int (12 : Int32)), .val (.int (2 : Int32)), .val (.ref o_READY)] [(.ref o_READY)]))
        obtain ⟨fs, hr, hrun, hended, hW, hsame⟩ := X11.leave (v := some (.ref o_READY)) (fun h => by rw [Bd.returns] at h; cases h)
        have hlast : Steps p.tables e below (T11.setTop (mkF m 30 #[.val (.int p1), .val (.ref bv_1), .val (.int (12 : Int32)), .val (.int (2 : Int32)), .val (.ref o_READY)] [(.ref o_READY)])) (T11.setFrames fs) := by
          exact retOut X11 hx (t := (.object "com/example/keyspace/keyspace/server/Opcode")) Bd.returns rfl (Or.inr (Or.inr (Or.inr (Or.inr ⟨rfl, rfl, rfl⟩)))) (hb hby own_d27) hr
        refine ⟨_, _, hlast, hrun, hended, _, _, rfl, ?_, ⟨_, rfl⟩, hW, hsame.mono (by decide) (by decide)⟩
        show Q_own_of Z p1 o__VALUES o_ERROR o_STARTUP o_READY o_OPTIONS o_SUPPORTED o_QUERY o_RESULT o_PREPARE o_EXECUTE o_REGISTER o_BATCH o_AUTH_RESPONSE kc_o__VALUES h0 n0 _ T11.heap _
        rw [e11]
        exact ⟨by simp [own_val, Ne.symm hc6, Ne.symm hc9, hc12.symm], N1, K1⟩
      · refine own_go (fun t k => XS.icmpYes X11.here hx rfl (pc0 := 25) (pc' := 31) rfl (hb hby own_d25) rfl (feq hc12).2 (by decide) (by decide) k) ?_
        show OwnG p.tables e below _ (T11.setTop (mkF m 31 #[.val (.int p1), .val (.ref bv_1), .val (.int (12 : Int32)), .val (.int (2 : Int32)), .val (.ref o_READY)] []))
        refine own_go (fun t k => XS.iinc X11.here hx rfl (hb hby own_d28) rfl (l' := #[.val (.int p1), .val (.ref bv_1), .val (.int (12 : Int32)), .val (.int ((2 : Int32) + (1 : Int32))), .val (.ref o_READY)]) rfl k) ?_
        show OwnG p.tables e below _ (T11.setTop (mkF m 34 #[.val (.int p1), .val (.ref bv_1), .val (.int (12 : Int32)), .val (.int ((2 : Int32) + (1 : Int32))), .val (.ref o_READY)] []))
        rw [show ((2 : Int32) + (1 : Int32)) = (3 : Int32) from by decide]
        show OwnG p.tables e below _ (T11.setTop (mkF m 34 #[.val (.int p1), .val (.ref bv_1), .val (.int (12 : Int32)), .val (.int (3 : Int32)), .val (.ref o_READY)] []))
        refine own_go (fun t k => XS.goto X11.here hx rfl (pc0 := 34) (pc' := 9) rfl (hb hby own_d29) (by decide) (by decide) k) ?_
        show OwnG p.tables e below _ (T11.setTop (mkF m 9 #[.val (.int p1), .val (.ref bv_1), .val (.int (12 : Int32)), .val (.int (3 : Int32)), .val (.ref o_READY)] []))
        refine own_go (fun t k => XS.iloadN X11.here hx rfl (hb hby own_d15) rfl  k) ?_
        show OwnG p.tables e below _ (T11.setTop (mkF m 10 #[.val (.int p1), .val (.ref bv_1), .val (.int (12 : Int32)), .val (.int (3 : Int32)), .val (.ref o_READY)] [(.int (3 : Int32))]))
        refine own_go (fun t k => XS.iloadN X11.here hx rfl (hb hby own_d16) rfl  k) ?_
        show OwnG p.tables e below _ (T11.setTop (mkF m 11 #[.val (.int p1), .val (.ref bv_1), .val (.int (12 : Int32)), .val (.int (3 : Int32)), .val (.ref o_READY)] [(.int (12 : Int32)), (.int (3 : Int32))]))
        refine own_go (fun t k => XS.icmpNo X11.here hx rfl (hb hby own_d17) rfl (tlt (by decide : (3 : Int32) < (12 : Int32))).2.1 k) ?_
        show OwnG p.tables e below _ (T11.setTop (mkF m 14 #[.val (.int p1), .val (.ref bv_1), .val (.int (12 : Int32)), .val (.int (3 : Int32)), .val (.ref o_READY)] []))
        refine own_go (fun t k => XS.aloadN X11.here hx rfl (hb hby own_d18) rfl rfl k) ?_
        show OwnG p.tables e below _ (T11.setTop (mkF m 15 #[.val (.int p1), .val (.ref bv_1), .val (.int (12 : Int32)), .val (.int (3 : Int32)), .val (.ref o_READY)] [(.ref bv_1)]))
        refine own_go (fun t k => XS.iloadN X11.here hx rfl (hb hby own_d19) rfl  k) ?_
        show OwnG p.tables e below _ (T11.setTop (mkF m 16 #[.val (.int p1), .val (.ref bv_1), .val (.int (12 : Int32)), .val (.int (3 : Int32)), .val (.ref o_READY)] [(.int (3 : Int32)), (.ref bv_1)]))
        have vv13 := Fq1_0
        obtain ⟨cl13, Ar13, qk13, Sz13, Nn13, Hs13, Gs13⟩ := vv13
        have hin13 : ¬ ((3 : Int32) < 0 ∨ cl13.slots.size ≤ ((3 : Int32)).toNatClampNeg) := inb_of Sz13 ⟨by decide, by decide⟩
        have hat13 : cl13.slots[((3 : Int32)).toNatClampNeg]? = some (.ref o_OPTIONS) := Hs13.at hin13 rfl
        refine own_go (fun t k => (X11.aaload hx (j := (3 : Int32)) (v := (.ref o_OPTIONS)) (by rw [e11]; exact Ar13.1) (State.isArrayOf_alike hZ.alike Ar13.2.1) rfl Ar13.2.2 hin13 hat13 (g := (mkF m 16 #[.val (.int p1), .val (.ref bv_1), .val (.int (12 : Int32)), .val (.int (3 : Int32)), .val (.ref o_READY)] [(.int (3 : Int32)), (.ref bv_1)])) rfl rfl (hb hby own_d20)) t k) ?_
        show OwnG p.tables e below _ (T11.setTop (mkF m 17 #[.val (.int p1), .val (.ref bv_1), .val (.int (12 : Int32)), .val (.int (3 : Int32)), .val (.ref o_READY)] [(.ref o_OPTIONS)]))
        refine own_go (fun t k => XS.astore X11.here hx rfl (hb hby own_d21) rfl rfl (l' := #[.val (.int p1), .val (.ref bv_1), .val (.int (12 : Int32)), .val (.int (3 : Int32)), .val (.ref o_OPTIONS)]) rfl k) ?_
        show OwnG p.tables e below _ (T11.setTop (mkF m 19 #[.val (.int p1), .val (.ref bv_1), .val (.int (12 : Int32)), .val (.int (3 : Int32)), .val (.ref o_OPTIONS)] []))
        refine own_go (fun t k => XS.aload X11.here hx rfl (hb hby own_d22) rfl rfl k) ?_
        show OwnG p.tables e below _ (T11.setTop (mkF m 21 #[.val (.int p1), .val (.ref bv_1), .val (.int (12 : Int32)), .val (.int (3 : Int32)), .val (.ref o_OPTIONS)] [(.ref o_OPTIONS)]))
        obtain ⟨T14, X14, e14, st14⟩ := getF X11 hx hZ hown (host := "") (Or.inl (hw _ (List.mem_of_getElem? (i := 31) rfl))) Via.refl e11 (F_o_OPTIONS_code.ext F2.2) (g := (mkF m 21 #[.val (.int p1), .val (.ref bv_1), .val (.int (12 : Int32)), .val (.int (3 : Int32)), .val (.ref o_OPTIONS)] [(.ref o_OPTIONS)])) rfl rfl (hb hby own_d23)
        refine own_go (fun t k => st14 t k) ?_
        show OwnG p.tables e below _ (T14.setTop (mkF m 24 #[.val (.int p1), .val (.ref bv_1), .val (.int (12 : Int32)), .val (.int (3 : Int32)), .val (.ref o_OPTIONS)] [(.int (5 : Int32))]))
        refine own_go (fun t k => XS.iloadN X14.here hx rfl (hb hby own_d24) rfl  k) ?_
        show OwnG p.tables e below _ (T14.setTop (mkF m 25 #[.val (.int p1), .val (.ref bv_1), .val (.int (12 : Int32)), .val (.int (3 : Int32)), .val (.ref o_OPTIONS)] [(.int p1), (.int (5 : Int32))]))
        by_cases hc15 : (5 : Int32) = p1
        · refine own_go (fun t k => XS.icmpNo X14.here hx rfl (hb hby own_d25) rfl (teq hc15).2 k) ?_
          show OwnG p.tables e below _ (T14.setTop (mkF m 28 #[.val (.int p1), .val (.ref bv_1), .val (.int (12 : Int32)), .val (.int (3 : Int32)), .val (.ref o_OPTIONS)] []))
          refine own_go (fun t k => XS.aload X14.here hx rfl (hb hby own_d26) rfl rfl k) ?_
          show OwnG p.tables e below _ (T14.setTop (mkF m 30 #[.val (.int p1), .val (.ref bv_1), .val (.int (12 : Int32)), .val (.int (3 : Int32)), .val (.ref o_OPTIONS)] [(.ref o_OPTIONS)]))
          obtain ⟨fs, hr, hrun, hended, hW, hsame⟩ := X14.leave (v := some (.ref o_OPTIONS)) (fun h => by rw [Bd.returns] at h; cases h)
          have hlast : Steps p.tables e below (T14.setTop (mkF m 30 #[.val (.int p1), .val (.ref bv_1), .val (.int (12 : Int32)), .val (.int (3 : Int32)), .val (.ref o_OPTIONS)] [(.ref o_OPTIONS)])) (T14.setFrames fs) := by
            exact retOut X14 hx (t := (.object "com/example/keyspace/keyspace/server/Opcode")) Bd.returns rfl (Or.inr (Or.inr (Or.inr (Or.inr ⟨rfl, rfl, rfl⟩)))) (hb hby own_d27) hr
          refine ⟨_, _, hlast, hrun, hended, _, _, rfl, ?_, ⟨_, rfl⟩, hW, hsame.mono (by decide) (by decide)⟩
          show Q_own_of Z p1 o__VALUES o_ERROR o_STARTUP o_READY o_OPTIONS o_SUPPORTED o_QUERY o_RESULT o_PREPARE o_EXECUTE o_REGISTER o_BATCH o_AUTH_RESPONSE kc_o__VALUES h0 n0 _ T14.heap _
          rw [e14]
          exact ⟨by simp [own_val, Ne.symm hc6, Ne.symm hc9, Ne.symm hc12, hc15.symm], N1, K1⟩
        · refine own_go (fun t k => XS.icmpYes X14.here hx rfl (pc0 := 25) (pc' := 31) rfl (hb hby own_d25) rfl (feq hc15).2 (by decide) (by decide) k) ?_
          show OwnG p.tables e below _ (T14.setTop (mkF m 31 #[.val (.int p1), .val (.ref bv_1), .val (.int (12 : Int32)), .val (.int (3 : Int32)), .val (.ref o_OPTIONS)] []))
          refine own_go (fun t k => XS.iinc X14.here hx rfl (hb hby own_d28) rfl (l' := #[.val (.int p1), .val (.ref bv_1), .val (.int (12 : Int32)), .val (.int ((3 : Int32) + (1 : Int32))), .val (.ref o_OPTIONS)]) rfl k) ?_
          show OwnG p.tables e below _ (T14.setTop (mkF m 34 #[.val (.int p1), .val (.ref bv_1), .val (.int (12 : Int32)), .val (.int ((3 : Int32) + (1 : Int32))), .val (.ref o_OPTIONS)] []))
          rw [show ((3 : Int32) + (1 : Int32)) = (4 : Int32) from by decide]
          show OwnG p.tables e below _ (T14.setTop (mkF m 34 #[.val (.int p1), .val (.ref bv_1), .val (.int (12 : Int32)), .val (.int (4 : Int32)), .val (.ref o_OPTIONS)] []))
          refine own_go (fun t k => XS.goto X14.here hx rfl (pc0 := 34) (pc' := 9) rfl (hb hby own_d29) (by decide) (by decide) k) ?_
          show OwnG p.tables e below _ (T14.setTop (mkF m 9 #[.val (.int p1), .val (.ref bv_1), .val (.int (12 : Int32)), .val (.int (4 : Int32)), .val (.ref o_OPTIONS)] []))
          refine own_go (fun t k => XS.iloadN X14.here hx rfl (hb hby own_d15) rfl  k) ?_
          show OwnG p.tables e below _ (T14.setTop (mkF m 10 #[.val (.int p1), .val (.ref bv_1), .val (.int (12 : Int32)), .val (.int (4 : Int32)), .val (.ref o_OPTIONS)] [(.int (4 : Int32))]))
          refine own_go (fun t k => XS.iloadN X14.here hx rfl (hb hby own_d16) rfl  k) ?_
          show OwnG p.tables e below _ (T14.setTop (mkF m 11 #[.val (.int p1), .val (.ref bv_1), .val (.int (12 : Int32)), .val (.int (4 : Int32)), .val (.ref o_OPTIONS)] [(.int (12 : Int32)), (.int (4 : Int32))]))
          refine own_go (fun t k => XS.icmpNo X14.here hx rfl (hb hby own_d17) rfl (tlt (by decide : (4 : Int32) < (12 : Int32))).2.1 k) ?_
          show OwnG p.tables e below _ (T14.setTop (mkF m 14 #[.val (.int p1), .val (.ref bv_1), .val (.int (12 : Int32)), .val (.int (4 : Int32)), .val (.ref o_OPTIONS)] []))
          refine own_go (fun t k => XS.aloadN X14.here hx rfl (hb hby own_d18) rfl rfl k) ?_
          show OwnG p.tables e below _ (T14.setTop (mkF m 15 #[.val (.int p1), .val (.ref bv_1), .val (.int (12 : Int32)), .val (.int (4 : Int32)), .val (.ref o_OPTIONS)] [(.ref bv_1)]))
          refine own_go (fun t k => XS.iloadN X14.here hx rfl (hb hby own_d19) rfl  k) ?_
          show OwnG p.tables e below _ (T14.setTop (mkF m 16 #[.val (.int p1), .val (.ref bv_1), .val (.int (12 : Int32)), .val (.int (4 : Int32)), .val (.ref o_OPTIONS)] [(.int (4 : Int32)), (.ref bv_1)]))
          have vv16 := Fq1_0
          obtain ⟨cl16, Ar16, qk16, Sz16, Nn16, Hs16, Gs16⟩ := vv16
          have hin16 : ¬ ((4 : Int32) < 0 ∨ cl16.slots.size ≤ ((4 : Int32)).toNatClampNeg) := inb_of Sz16 ⟨by decide, by decide⟩
          have hat16 : cl16.slots[((4 : Int32)).toNatClampNeg]? = some (.ref o_SUPPORTED) := Hs16.at hin16 rfl
          refine own_go (fun t k => (X14.aaload hx (j := (4 : Int32)) (v := (.ref o_SUPPORTED)) (by rw [e14]; exact Ar16.1) (State.isArrayOf_alike hZ.alike Ar16.2.1) rfl Ar16.2.2 hin16 hat16 (g := (mkF m 16 #[.val (.int p1), .val (.ref bv_1), .val (.int (12 : Int32)), .val (.int (4 : Int32)), .val (.ref o_OPTIONS)] [(.int (4 : Int32)), (.ref bv_1)])) rfl rfl (hb hby own_d20)) t k) ?_
          show OwnG p.tables e below _ (T14.setTop (mkF m 17 #[.val (.int p1), .val (.ref bv_1), .val (.int (12 : Int32)), .val (.int (4 : Int32)), .val (.ref o_OPTIONS)] [(.ref o_SUPPORTED)]))
          refine own_go (fun t k => XS.astore X14.here hx rfl (hb hby own_d21) rfl rfl (l' := #[.val (.int p1), .val (.ref bv_1), .val (.int (12 : Int32)), .val (.int (4 : Int32)), .val (.ref o_SUPPORTED)]) rfl k) ?_
          show OwnG p.tables e below _ (T14.setTop (mkF m 19 #[.val (.int p1), .val (.ref bv_1), .val (.int (12 : Int32)), .val (.int (4 : Int32)), .val (.ref o_SUPPORTED)] []))
          refine own_go (fun t k => XS.aload X14.here hx rfl (hb hby own_d22) rfl rfl k) ?_
          show OwnG p.tables e below _ (T14.setTop (mkF m 21 #[.val (.int p1), .val (.ref bv_1), .val (.int (12 : Int32)), .val (.int (4 : Int32)), .val (.ref o_SUPPORTED)] [(.ref o_SUPPORTED)]))
          obtain ⟨T17, X17, e17, st17⟩ := getF X14 hx hZ hown (host := "") (Or.inl (hw _ (List.mem_of_getElem? (i := 31) rfl))) Via.refl e14 (F_o_SUPPORTED_code.ext F2.2) (g := (mkF m 21 #[.val (.int p1), .val (.ref bv_1), .val (.int (12 : Int32)), .val (.int (4 : Int32)), .val (.ref o_SUPPORTED)] [(.ref o_SUPPORTED)])) rfl rfl (hb hby own_d23)
          refine own_go (fun t k => st17 t k) ?_
          show OwnG p.tables e below _ (T17.setTop (mkF m 24 #[.val (.int p1), .val (.ref bv_1), .val (.int (12 : Int32)), .val (.int (4 : Int32)), .val (.ref o_SUPPORTED)] [(.int (6 : Int32))]))
          refine own_go (fun t k => XS.iloadN X17.here hx rfl (hb hby own_d24) rfl  k) ?_
          show OwnG p.tables e below _ (T17.setTop (mkF m 25 #[.val (.int p1), .val (.ref bv_1), .val (.int (12 : Int32)), .val (.int (4 : Int32)), .val (.ref o_SUPPORTED)] [(.int p1), (.int (6 : Int32))]))
          by_cases hc18 : (6 : Int32) = p1
          · refine own_go (fun t k => XS.icmpNo X17.here hx rfl (hb hby own_d25) rfl (teq hc18).2 k) ?_
            show OwnG p.tables e below _ (T17.setTop (mkF m 28 #[.val (.int p1), .val (.ref bv_1), .val (.int (12 : Int32)), .val (.int (4 : Int32)), .val (.ref o_SUPPORTED)] []))
            refine own_go (fun t k => XS.aload X17.here hx rfl (hb hby own_d26) rfl rfl k) ?_
            show OwnG p.tables e below _ (T17.setTop (mkF m 30 #[.val (.int p1), .val (.ref bv_1), .val (.int (12 : Int32)), .val (.int (4 : Int32)), .val (.ref o_SUPPORTED)] [(.ref o_SUPPORTED)]))
            obtain ⟨fs, hr, hrun, hended, hW, hsame⟩ := X17.leave (v := some (.ref o_SUPPORTED)) (fun h => by rw [Bd.returns] at h; cases h)
            have hlast : Steps p.tables e below (T17.setTop (mkF m 30 #[.val (.int p1), .val (.ref bv_1), .val (.int (12 : Int32)), .val (.int (4 : Int32)), .val (.ref o_SUPPORTED)] [(.ref o_SUPPORTED)])) (T17.setFrames fs) := by
              exact retOut X17 hx (t := (.object "com/example/keyspace/keyspace/server/Opcode")) Bd.returns rfl (Or.inr (Or.inr (Or.inr (Or.inr ⟨rfl, rfl, rfl⟩)))) (hb hby own_d27) hr
            refine ⟨_, _, hlast, hrun, hended, _, _, rfl, ?_, ⟨_, rfl⟩, hW, hsame.mono (by decide) (by decide)⟩
            show Q_own_of Z p1 o__VALUES o_ERROR o_STARTUP o_READY o_OPTIONS o_SUPPORTED o_QUERY o_RESULT o_PREPARE o_EXECUTE o_REGISTER o_BATCH o_AUTH_RESPONSE kc_o__VALUES h0 n0 _ T17.heap _
            rw [e17]
            exact ⟨by simp [own_val, Ne.symm hc6, Ne.symm hc9, Ne.symm hc12, Ne.symm hc15, hc18.symm], N1, K1⟩
          · refine own_go (fun t k => XS.icmpYes X17.here hx rfl (pc0 := 25) (pc' := 31) rfl (hb hby own_d25) rfl (feq hc18).2 (by decide) (by decide) k) ?_
            show OwnG p.tables e below _ (T17.setTop (mkF m 31 #[.val (.int p1), .val (.ref bv_1), .val (.int (12 : Int32)), .val (.int (4 : Int32)), .val (.ref o_SUPPORTED)] []))
            refine own_go (fun t k => XS.iinc X17.here hx rfl (hb hby own_d28) rfl (l' := #[.val (.int p1), .val (.ref bv_1), .val (.int (12 : Int32)), .val (.int ((4 : Int32) + (1 : Int32))), .val (.ref o_SUPPORTED)]) rfl k) ?_
            show OwnG p.tables e below _ (T17.setTop (mkF m 34 #[.val (.int p1), .val (.ref bv_1), .val (.int (12 : Int32)), .val (.int ((4 : Int32) + (1 : Int32))), .val (.ref o_SUPPORTED)] []))
            rw [show ((4 : Int32) + (1 : Int32)) = (5 : Int32) from by decide]
            show OwnG p.tables e below _ (T17.setTop (mkF m 34 #[.val (.int p1), .val (.ref bv_1), .val (.int (12 : Int32)), .val (.int (5 : Int32)), .val (.ref o_SUPPORTED)] []))
            refine own_go (fun t k => XS.goto X17.here hx rfl (pc0 := 34) (pc' := 9) rfl (hb hby own_d29) (by decide) (by decide) k) ?_
            show OwnG p.tables e below _ (T17.setTop (mkF m 9 #[.val (.int p1), .val (.ref bv_1), .val (.int (12 : Int32)), .val (.int (5 : Int32)), .val (.ref o_SUPPORTED)] []))
            refine own_go (fun t k => XS.iloadN X17.here hx rfl (hb hby own_d15) rfl  k) ?_
            show OwnG p.tables e below _ (T17.setTop (mkF m 10 #[.val (.int p1), .val (.ref bv_1), .val (.int (12 : Int32)), .val (.int (5 : Int32)), .val (.ref o_SUPPORTED)] [(.int (5 : Int32))]))
            refine own_go (fun t k => XS.iloadN X17.here hx rfl (hb hby own_d16) rfl  k) ?_
            show OwnG p.tables e below _ (T17.setTop (mkF m 11 #[.val (.int p1), .val (.ref bv_1), .val (.int (12 : Int32)), .val (.int (5 : Int32)), .val (.ref o_SUPPORTED)] [(.int (12 : Int32)), (.int (5 : Int32))]))
            refine own_go (fun t k => XS.icmpNo X17.here hx rfl (hb hby own_d17) rfl (tlt (by decide : (5 : Int32) < (12 : Int32))).2.1 k) ?_
            show OwnG p.tables e below _ (T17.setTop (mkF m 14 #[.val (.int p1), .val (.ref bv_1), .val (.int (12 : Int32)), .val (.int (5 : Int32)), .val (.ref o_SUPPORTED)] []))
            refine own_go (fun t k => XS.aloadN X17.here hx rfl (hb hby own_d18) rfl rfl k) ?_
            show OwnG p.tables e below _ (T17.setTop (mkF m 15 #[.val (.int p1), .val (.ref bv_1), .val (.int (12 : Int32)), .val (.int (5 : Int32)), .val (.ref o_SUPPORTED)] [(.ref bv_1)]))
            refine own_go (fun t k => XS.iloadN X17.here hx rfl (hb hby own_d19) rfl  k) ?_
            show OwnG p.tables e below _ (T17.setTop (mkF m 16 #[.val (.int p1), .val (.ref bv_1), .val (.int (12 : Int32)), .val (.int (5 : Int32)), .val (.ref o_SUPPORTED)] [(.int (5 : Int32)), (.ref bv_1)]))
            have vv19 := Fq1_0
            obtain ⟨cl19, Ar19, qk19, Sz19, Nn19, Hs19, Gs19⟩ := vv19
            have hin19 : ¬ ((5 : Int32) < 0 ∨ cl19.slots.size ≤ ((5 : Int32)).toNatClampNeg) := inb_of Sz19 ⟨by decide, by decide⟩
            have hat19 : cl19.slots[((5 : Int32)).toNatClampNeg]? = some (.ref o_QUERY) := Hs19.at hin19 rfl
            refine own_go (fun t k => (X17.aaload hx (j := (5 : Int32)) (v := (.ref o_QUERY)) (by rw [e17]; exact Ar19.1) (State.isArrayOf_alike hZ.alike Ar19.2.1) rfl Ar19.2.2 hin19 hat19 (g := (mkF m 16 #[.val (.int p1), .val (.ref bv_1), .val (.int (12 : Int32)), .val (.int (5 : Int32)), .val (.ref o_SUPPORTED)] [(.int (5 : Int32)), (.ref bv_1)])) rfl rfl (hb hby own_d20)) t k) ?_
            show OwnG p.tables e below _ (T17.setTop (mkF m 17 #[.val (.int p1), .val (.ref bv_1), .val (.int (12 : Int32)), .val (.int (5 : Int32)), .val (.ref o_SUPPORTED)] [(.ref o_QUERY)]))
            refine own_go (fun t k => XS.astore X17.here hx rfl (hb hby own_d21) rfl rfl (l' := #[.val (.int p1), .val (.ref bv_1), .val (.int (12 : Int32)), .val (.int (5 : Int32)), .val (.ref o_QUERY)]) rfl k) ?_
            show OwnG p.tables e below _ (T17.setTop (mkF m 19 #[.val (.int p1), .val (.ref bv_1), .val (.int (12 : Int32)), .val (.int (5 : Int32)), .val (.ref o_QUERY)] []))
            refine own_go (fun t k => XS.aload X17.here hx rfl (hb hby own_d22) rfl rfl k) ?_
            show OwnG p.tables e below _ (T17.setTop (mkF m 21 #[.val (.int p1), .val (.ref bv_1), .val (.int (12 : Int32)), .val (.int (5 : Int32)), .val (.ref o_QUERY)] [(.ref o_QUERY)]))
            obtain ⟨T20, X20, e20, st20⟩ := getF X17 hx hZ hown (host := "") (Or.inl (hw _ (List.mem_of_getElem? (i := 31) rfl))) Via.refl e17 (F_o_QUERY_code.ext F2.2) (g := (mkF m 21 #[.val (.int p1), .val (.ref bv_1), .val (.int (12 : Int32)), .val (.int (5 : Int32)), .val (.ref o_QUERY)] [(.ref o_QUERY)])) rfl rfl (hb hby own_d23)
            refine own_go (fun t k => st20 t k) ?_
            show OwnG p.tables e below _ (T20.setTop (mkF m 24 #[.val (.int p1), .val (.ref bv_1), .val (.int (12 : Int32)), .val (.int (5 : Int32)), .val (.ref o_QUERY)] [(.int (7 : Int32))]))
            refine own_go (fun t k => XS.iloadN X20.here hx rfl (hb hby own_d24) rfl  k) ?_
            show OwnG p.tables e below _ (T20.setTop (mkF m 25 #[.val (.int p1), .val (.ref bv_1), .val (.int (12 : Int32)), .val (.int (5 : Int32)), .val (.ref o_QUERY)] [(.int p1), (.int (7 : Int32))]))
            by_cases hc21 : (7 : Int32) = p1
            · refine own_go (fun t k => XS.icmpNo X20.here hx rfl (hb hby own_d25) rfl (teq hc21).2 k) ?_
              show OwnG p.tables e below _ (T20.setTop (mkF m 28 #[.val (.int p1), .val (.ref bv_1), .val (.int (12 : Int32)), .val (.int (5 : Int32)), .val (.ref o_QUERY)] []))
              refine own_go (fun t k => XS.aload X20.here hx rfl (hb hby own_d26) rfl rfl k) ?_
              show OwnG p.tables e below _ (T20.setTop (mkF m 30 #[.val (.int p1), .val (.ref bv_1), .val (.int (12 : Int32)), .val (.int (5 : Int32)), .val (.ref o_QUERY)] [(.ref o_QUERY)]))
              obtain ⟨fs, hr, hrun, hended, hW, hsame⟩ := X20.leave (v := some (.ref o_QUERY)) (fun h => by rw [Bd.returns] at h; cases h)
              have hlast : Steps p.tables e below (T20.setTop (mkF m 30 #[.val (.int p1), .val (.ref bv_1), .val (.int (12 : Int32)), .val (.int (5 : Int32)), .val (.ref o_QUERY)] [(.ref o_QUERY)])) (T20.setFrames fs) := by
                exact retOut X20 hx (t := (.object "com/example/keyspace/keyspace/server/Opcode")) Bd.returns rfl (Or.inr (Or.inr (Or.inr (Or.inr ⟨rfl, rfl, rfl⟩)))) (hb hby own_d27) hr
              refine ⟨_, _, hlast, hrun, hended, _, _, rfl, ?_, ⟨_, rfl⟩, hW, hsame.mono (by decide) (by decide)⟩
              show Q_own_of Z p1 o__VALUES o_ERROR o_STARTUP o_READY o_OPTIONS o_SUPPORTED o_QUERY o_RESULT o_PREPARE o_EXECUTE o_REGISTER o_BATCH o_AUTH_RESPONSE kc_o__VALUES h0 n0 _ T20.heap _
              rw [e20]
              exact ⟨by simp [own_val, Ne.symm hc6, Ne.symm hc9, Ne.symm hc12, Ne.symm hc15, Ne.symm hc18, hc21.symm], N1, K1⟩
            · refine own_go (fun t k => XS.icmpYes X20.here hx rfl (pc0 := 25) (pc' := 31) rfl (hb hby own_d25) rfl (feq hc21).2 (by decide) (by decide) k) ?_
              show OwnG p.tables e below _ (T20.setTop (mkF m 31 #[.val (.int p1), .val (.ref bv_1), .val (.int (12 : Int32)), .val (.int (5 : Int32)), .val (.ref o_QUERY)] []))
              refine own_go (fun t k => XS.iinc X20.here hx rfl (hb hby own_d28) rfl (l' := #[.val (.int p1), .val (.ref bv_1), .val (.int (12 : Int32)), .val (.int ((5 : Int32) + (1 : Int32))), .val (.ref o_QUERY)]) rfl k) ?_
              show OwnG p.tables e below _ (T20.setTop (mkF m 34 #[.val (.int p1), .val (.ref bv_1), .val (.int (12 : Int32)), .val (.int ((5 : Int32) + (1 : Int32))), .val (.ref o_QUERY)] []))
              rw [show ((5 : Int32) + (1 : Int32)) = (6 : Int32) from by decide]
              show OwnG p.tables e below _ (T20.setTop (mkF m 34 #[.val (.int p1), .val (.ref bv_1), .val (.int (12 : Int32)), .val (.int (6 : Int32)), .val (.ref o_QUERY)] []))
              refine own_go (fun t k => XS.goto X20.here hx rfl (pc0 := 34) (pc' := 9) rfl (hb hby own_d29) (by decide) (by decide) k) ?_
              show OwnG p.tables e below _ (T20.setTop (mkF m 9 #[.val (.int p1), .val (.ref bv_1), .val (.int (12 : Int32)), .val (.int (6 : Int32)), .val (.ref o_QUERY)] []))
              refine own_go (fun t k => XS.iloadN X20.here hx rfl (hb hby own_d15) rfl  k) ?_
              show OwnG p.tables e below _ (T20.setTop (mkF m 10 #[.val (.int p1), .val (.ref bv_1), .val (.int (12 : Int32)), .val (.int (6 : Int32)), .val (.ref o_QUERY)] [(.int (6 : Int32))]))
              refine own_go (fun t k => XS.iloadN X20.here hx rfl (hb hby own_d16) rfl  k) ?_
              show OwnG p.tables e below _ (T20.setTop (mkF m 11 #[.val (.int p1), .val (.ref bv_1), .val (.int (12 : Int32)), .val (.int (6 : Int32)), .val (.ref o_QUERY)] [(.int (12 : Int32)), (.int (6 : Int32))]))
              refine own_go (fun t k => XS.icmpNo X20.here hx rfl (hb hby own_d17) rfl (tlt (by decide : (6 : Int32) < (12 : Int32))).2.1 k) ?_
              show OwnG p.tables e below _ (T20.setTop (mkF m 14 #[.val (.int p1), .val (.ref bv_1), .val (.int (12 : Int32)), .val (.int (6 : Int32)), .val (.ref o_QUERY)] []))
              refine own_go (fun t k => XS.aloadN X20.here hx rfl (hb hby own_d18) rfl rfl k) ?_
              show OwnG p.tables e below _ (T20.setTop (mkF m 15 #[.val (.int p1), .val (.ref bv_1), .val (.int (12 : Int32)), .val (.int (6 : Int32)), .val (.ref o_QUERY)] [(.ref bv_1)]))
              refine own_go (fun t k => XS.iloadN X20.here hx rfl (hb hby own_d19) rfl  k) ?_
              show OwnG p.tables e below _ (T20.setTop (mkF m 16 #[.val (.int p1), .val (.ref bv_1), .val (.int (12 : Int32)), .val (.int (6 : Int32)), .val (.ref o_QUERY)] [(.int (6 : Int32)), (.ref bv_1)]))
              have vv22 := Fq1_0
              obtain ⟨cl22, Ar22, qk22, Sz22, Nn22, Hs22, Gs22⟩ := vv22
              have hin22 : ¬ ((6 : Int32) < 0 ∨ cl22.slots.size ≤ ((6 : Int32)).toNatClampNeg) := inb_of Sz22 ⟨by decide, by decide⟩
              have hat22 : cl22.slots[((6 : Int32)).toNatClampNeg]? = some (.ref o_RESULT) := Hs22.at hin22 rfl
              refine own_go (fun t k => (X20.aaload hx (j := (6 : Int32)) (v := (.ref o_RESULT)) (by rw [e20]; exact Ar22.1) (State.isArrayOf_alike hZ.alike Ar22.2.1) rfl Ar22.2.2 hin22 hat22 (g := (mkF m 16 #[.val (.int p1), .val (.ref bv_1), .val (.int (12 : Int32)), .val (.int (6 : Int32)), .val (.ref o_QUERY)] [(.int (6 : Int32)), (.ref bv_1)])) rfl rfl (hb hby own_d20)) t k) ?_
              show OwnG p.tables e below _ (T20.setTop (mkF m 17 #[.val (.int p1), .val (.ref bv_1), .val (.int (12 : Int32)), .val (.int (6 : Int32)), .val (.ref o_QUERY)] [(.ref o_RESULT)]))
              refine own_go (fun t k => XS.astore X20.here hx rfl (hb hby own_d21) rfl rfl (l' := #[.val (.int p1), .val (.ref bv_1), .val (.int (12 : Int32)), .val (.int (6 : Int32)), .val (.ref o_RESULT)]) rfl k) ?_
              show OwnG p.tables e below _ (T20.setTop (mkF m 19 #[.val (.int p1), .val (.ref bv_1), .val (.int (12 : Int32)), .val (.int (6 : Int32)), .val (.ref o_RESULT)] []))
              refine own_go (fun t k => XS.aload X20.here hx rfl (hb hby own_d22) rfl rfl k) ?_
              show OwnG p.tables e below _ (T20.setTop (mkF m 21 #[.val (.int p1), .val (.ref bv_1), .val (.int (12 : Int32)), .val (.int (6 : Int32)), .val (.ref o_RESULT)] [(.ref o_RESULT)]))
              obtain ⟨T23, X23, e23, st23⟩ := getF X20 hx hZ hown (host := "") (Or.inl (hw _ (List.mem_of_getElem? (i := 31) rfl))) Via.refl e20 (F_o_RESULT_code.ext F2.2) (g := (mkF m 21 #[.val (.int p1), .val (.ref bv_1), .val (.int (12 : Int32)), .val (.int (6 : Int32)), .val (.ref o_RESULT)] [(.ref o_RESULT)])) rfl rfl (hb hby own_d23)
              refine own_go (fun t k => st23 t k) ?_
              show OwnG p.tables e below _ (T23.setTop (mkF m 24 #[.val (.int p1), .val (.ref bv_1), .val (.int (12 : Int32)), .val (.int (6 : Int32)), .val (.ref o_RESULT)] [(.int (8 : Int32))]))
              refine own_go (fun t k => XS.iloadN X23.here hx rfl (hb hby own_d24) rfl  k) ?_
              show OwnG p.tables e below _ (T23.setTop (mkF m 25 #[.val (.int p1), .val (.ref bv_1), .val (.int (12 : Int32)), .val (.int (6 : Int32)), .val (.ref o_RESULT)] [(.int p1), (.int (8 : Int32))]))
              by_cases hc24 : (8 : Int32) = p1
              · refine own_go (fun t k => XS.icmpNo X23.here hx rfl (hb hby own_d25) rfl (teq hc24).2 k) ?_
                show OwnG p.tables e below _ (T23.setTop (mkF m 28 #[.val (.int p1), .val (.ref bv_1), .val (.int (12 : Int32)), .val (.int (6 : Int32)), .val (.ref o_RESULT)] []))
                refine own_go (fun t k => XS.aload X23.here hx rfl (hb hby own_d26) rfl rfl k) ?_
                show OwnG p.tables e below _ (T23.setTop (mkF m 30 #[.val (.int p1), .val (.ref bv_1), .val (.int (12 : Int32)), .val (.int (6 : Int32)), .val (.ref o_RESULT)] [(.ref o_RESULT)]))
                obtain ⟨fs, hr, hrun, hended, hW, hsame⟩ := X23.leave (v := some (.ref o_RESULT)) (fun h => by rw [Bd.returns] at h; cases h)
                have hlast : Steps p.tables e below (T23.setTop (mkF m 30 #[.val (.int p1), .val (.ref bv_1), .val (.int (12 : Int32)), .val (.int (6 : Int32)), .val (.ref o_RESULT)] [(.ref o_RESULT)])) (T23.setFrames fs) := by
                  exact retOut X23 hx (t := (.object "com/example/keyspace/keyspace/server/Opcode")) Bd.returns rfl (Or.inr (Or.inr (Or.inr (Or.inr ⟨rfl, rfl, rfl⟩)))) (hb hby own_d27) hr
                refine ⟨_, _, hlast, hrun, hended, _, _, rfl, ?_, ⟨_, rfl⟩, hW, hsame.mono (by decide) (by decide)⟩
                show Q_own_of Z p1 o__VALUES o_ERROR o_STARTUP o_READY o_OPTIONS o_SUPPORTED o_QUERY o_RESULT o_PREPARE o_EXECUTE o_REGISTER o_BATCH o_AUTH_RESPONSE kc_o__VALUES h0 n0 _ T23.heap _
                rw [e23]
                exact ⟨by simp [own_val, Ne.symm hc6, Ne.symm hc9, Ne.symm hc12, Ne.symm hc15, Ne.symm hc18, Ne.symm hc21, hc24.symm], N1, K1⟩
              · refine own_go (fun t k => XS.icmpYes X23.here hx rfl (pc0 := 25) (pc' := 31) rfl (hb hby own_d25) rfl (feq hc24).2 (by decide) (by decide) k) ?_
                show OwnG p.tables e below _ (T23.setTop (mkF m 31 #[.val (.int p1), .val (.ref bv_1), .val (.int (12 : Int32)), .val (.int (6 : Int32)), .val (.ref o_RESULT)] []))
                refine own_go (fun t k => XS.iinc X23.here hx rfl (hb hby own_d28) rfl (l' := #[.val (.int p1), .val (.ref bv_1), .val (.int (12 : Int32)), .val (.int ((6 : Int32) + (1 : Int32))), .val (.ref o_RESULT)]) rfl k) ?_
                show OwnG p.tables e below _ (T23.setTop (mkF m 34 #[.val (.int p1), .val (.ref bv_1), .val (.int (12 : Int32)), .val (.int ((6 : Int32) + (1 : Int32))), .val (.ref o_RESULT)] []))
                rw [show ((6 : Int32) + (1 : Int32)) = (7 : Int32) from by decide]
                show OwnG p.tables e below _ (T23.setTop (mkF m 34 #[.val (.int p1), .val (.ref bv_1), .val (.int (12 : Int32)), .val (.int (7 : Int32)), .val (.ref o_RESULT)] []))
                refine own_go (fun t k => XS.goto X23.here hx rfl (pc0 := 34) (pc' := 9) rfl (hb hby own_d29) (by decide) (by decide) k) ?_
                show OwnG p.tables e below _ (T23.setTop (mkF m 9 #[.val (.int p1), .val (.ref bv_1), .val (.int (12 : Int32)), .val (.int (7 : Int32)), .val (.ref o_RESULT)] []))
                refine own_go (fun t k => XS.iloadN X23.here hx rfl (hb hby own_d15) rfl  k) ?_
                show OwnG p.tables e below _ (T23.setTop (mkF m 10 #[.val (.int p1), .val (.ref bv_1), .val (.int (12 : Int32)), .val (.int (7 : Int32)), .val (.ref o_RESULT)] [(.int (7 : Int32))]))
                refine own_go (fun t k => XS.iloadN X23.here hx rfl (hb hby own_d16) rfl  k) ?_
                show OwnG p.tables e below _ (T23.setTop (mkF m 11 #[.val (.int p1), .val (.ref bv_1), .val (.int (12 : Int32)), .val (.int (7 : Int32)), .val (.ref o_RESULT)] [(.int (12 : Int32)), (.int (7 : Int32))]))
                refine own_go (fun t k => XS.icmpNo X23.here hx rfl (hb hby own_d17) rfl (tlt (by decide : (7 : Int32) < (12 : Int32))).2.1 k) ?_
                show OwnG p.tables e below _ (T23.setTop (mkF m 14 #[.val (.int p1), .val (.ref bv_1), .val (.int (12 : Int32)), .val (.int (7 : Int32)), .val (.ref o_RESULT)] []))
                refine own_go (fun t k => XS.aloadN X23.here hx rfl (hb hby own_d18) rfl rfl k) ?_
                show OwnG p.tables e below _ (T23.setTop (mkF m 15 #[.val (.int p1), .val (.ref bv_1), .val (.int (12 : Int32)), .val (.int (7 : Int32)), .val (.ref o_RESULT)] [(.ref bv_1)]))
                refine own_go (fun t k => XS.iloadN X23.here hx rfl (hb hby own_d19) rfl  k) ?_
                show OwnG p.tables e below _ (T23.setTop (mkF m 16 #[.val (.int p1), .val (.ref bv_1), .val (.int (12 : Int32)), .val (.int (7 : Int32)), .val (.ref o_RESULT)] [(.int (7 : Int32)), (.ref bv_1)]))
                have vv25 := Fq1_0
                obtain ⟨cl25, Ar25, qk25, Sz25, Nn25, Hs25, Gs25⟩ := vv25
                have hin25 : ¬ ((7 : Int32) < 0 ∨ cl25.slots.size ≤ ((7 : Int32)).toNatClampNeg) := inb_of Sz25 ⟨by decide, by decide⟩
                have hat25 : cl25.slots[((7 : Int32)).toNatClampNeg]? = some (.ref o_PREPARE) := Hs25.at hin25 rfl
                refine own_go (fun t k => (X23.aaload hx (j := (7 : Int32)) (v := (.ref o_PREPARE)) (by rw [e23]; exact Ar25.1) (State.isArrayOf_alike hZ.alike Ar25.2.1) rfl Ar25.2.2 hin25 hat25 (g := (mkF m 16 #[.val (.int p1), .val (.ref bv_1), .val (.int (12 : Int32)), .val (.int (7 : Int32)), .val (.ref o_RESULT)] [(.int (7 : Int32)), (.ref bv_1)])) rfl rfl (hb hby own_d20)) t k) ?_
                show OwnG p.tables e below _ (T23.setTop (mkF m 17 #[.val (.int p1), .val (.ref bv_1), .val (.int (12 : Int32)), .val (.int (7 : Int32)), .val (.ref o_RESULT)] [(.ref o_PREPARE)]))
                refine own_go (fun t k => XS.astore X23.here hx rfl (hb hby own_d21) rfl rfl (l' := #[.val (.int p1), .val (.ref bv_1), .val (.int (12 : Int32)), .val (.int (7 : Int32)), .val (.ref o_PREPARE)]) rfl k) ?_
                show OwnG p.tables e below _ (T23.setTop (mkF m 19 #[.val (.int p1), .val (.ref bv_1), .val (.int (12 : Int32)), .val (.int (7 : Int32)), .val (.ref o_PREPARE)] []))
                refine own_go (fun t k => XS.aload X23.here hx rfl (hb hby own_d22) rfl rfl k) ?_
                show OwnG p.tables e below _ (T23.setTop (mkF m 21 #[.val (.int p1), .val (.ref bv_1), .val (.int (12 : Int32)), .val (.int (7 : Int32)), .val (.ref o_PREPARE)] [(.ref o_PREPARE)]))
                obtain ⟨T26, X26, e26, st26⟩ := getF X23 hx hZ hown (host := "") (Or.inl (hw _ (List.mem_of_getElem? (i := 31) rfl))) Via.refl e23 (F_o_PREPARE_code.ext F2.2) (g := (mkF m 21 #[.val (.int p1), .val (.ref bv_1), .val (.int (12 : Int32)), .val (.int (7 : Int32)), .val (.ref o_PREPARE)] [(.ref o_PREPARE)])) rfl rfl (hb hby own_d23)
                refine own_go (fun t k => st26 t k) ?_
                show OwnG p.tables e below _ (T26.setTop (mkF m 24 #[.val (.int p1), .val (.ref bv_1), .val (.int (12 : Int32)), .val (.int (7 : Int32)), .val (.ref o_PREPARE)] [(.int (9 : Int32))]))
                refine own_go (fun t k => XS.iloadN X26.here hx rfl (hb hby own_d24) rfl  k) ?_
                show OwnG p.tables e below _ (T26.setTop (mkF m 25 #[.val (.int p1), .val (.ref bv_1), .val (.int (12 : Int32)), .val (.int (7 : Int32)), .val (.ref o_PREPARE)] [(.int p1), (.int (9 : Int32))]))
                by_cases hc27 : (9 : Int32) = p1
                · refine own_go (fun t k => XS.icmpNo X26.here hx rfl (hb hby own_d25) rfl (teq hc27).2 k) ?_
                  show OwnG p.tables e below _ (T26.setTop (mkF m 28 #[.val (.int p1), .val (.ref bv_1), .val (.int (12 : Int32)), .val (.int (7 : Int32)), .val (.ref o_PREPARE)] []))
                  refine own_go (fun t k => XS.aload X26.here hx rfl (hb hby own_d26) rfl rfl k) ?_
                  show OwnG p.tables e below _ (T26.setTop (mkF m 30 #[.val (.int p1), .val (.ref bv_1), .val (.int (12 : Int32)), .val (.int (7 : Int32)), .val (.ref o_PREPARE)] [(.ref o_PREPARE)]))
                  obtain ⟨fs, hr, hrun, hended, hW, hsame⟩ := X26.leave (v := some (.ref o_PREPARE)) (fun h => by rw [Bd.returns] at h; cases h)
                  have hlast : Steps p.tables e below (T26.setTop (mkF m 30 #[.val (.int p1), .val (.ref bv_1), .val (.int (12 : Int32)), .val (.int (7 : Int32)), .val (.ref o_PREPARE)] [(.ref o_PREPARE)])) (T26.setFrames fs) := by
                    exact retOut X26 hx (t := (.object "com/example/keyspace/keyspace/server/Opcode")) Bd.returns rfl (Or.inr (Or.inr (Or.inr (Or.inr ⟨rfl, rfl, rfl⟩)))) (hb hby own_d27) hr
                  refine ⟨_, _, hlast, hrun, hended, _, _, rfl, ?_, ⟨_, rfl⟩, hW, hsame.mono (by decide) (by decide)⟩
                  show Q_own_of Z p1 o__VALUES o_ERROR o_STARTUP o_READY o_OPTIONS o_SUPPORTED o_QUERY o_RESULT o_PREPARE o_EXECUTE o_REGISTER o_BATCH o_AUTH_RESPONSE kc_o__VALUES h0 n0 _ T26.heap _
                  rw [e26]
                  exact ⟨by simp [own_val, Ne.symm hc6, Ne.symm hc9, Ne.symm hc12, Ne.symm hc15, Ne.symm hc18, Ne.symm hc21, Ne.symm hc24, hc27.symm], N1, K1⟩
                · refine own_go (fun t k => XS.icmpYes X26.here hx rfl (pc0 := 25) (pc' := 31) rfl (hb hby own_d25) rfl (feq hc27).2 (by decide) (by decide) k) ?_
                  show OwnG p.tables e below _ (T26.setTop (mkF m 31 #[.val (.int p1), .val (.ref bv_1), .val (.int (12 : Int32)), .val (.int (7 : Int32)), .val (.ref o_PREPARE)] []))
                  refine own_go (fun t k => XS.iinc X26.here hx rfl (hb hby own_d28) rfl (l' := #[.val (.int p1), .val (.ref bv_1), .val (.int (12 : Int32)), .val (.int ((7 : Int32) + (1 : Int32))), .val (.ref o_PREPARE)]) rfl k) ?_
                  show OwnG p.tables e below _ (T26.setTop (mkF m 34 #[.val (.int p1), .val (.ref bv_1), .val (.int (12 : Int32)), .val (.int ((7 : Int32) + (1 : Int32))), .val (.ref o_PREPARE)] []))
                  rw [show ((7 : Int32) + (1 : Int32)) = (8 : Int32) from by decide]
                  show OwnG p.tables e below _ (T26.setTop (mkF m 34 #[.val (.int p1), .val (.ref bv_1), .val (.int (12 : Int32)), .val (.int (8 : Int32)), .val (.ref o_PREPARE)] []))
                  refine own_go (fun t k => XS.goto X26.here hx rfl (pc0 := 34) (pc' := 9) rfl (hb hby own_d29) (by decide) (by decide) k) ?_
                  show OwnG p.tables e below _ (T26.setTop (mkF m 9 #[.val (.int p1), .val (.ref bv_1), .val (.int (12 : Int32)), .val (.int (8 : Int32)), .val (.ref o_PREPARE)] []))
                  refine own_go (fun t k => XS.iloadN X26.here hx rfl (hb hby own_d15) rfl  k) ?_
                  show OwnG p.tables e below _ (T26.setTop (mkF m 10 #[.val (.int p1), .val (.ref bv_1), .val (.int (12 : Int32)), .val (.int (8 : Int32)), .val (.ref o_PREPARE)] [(.int (8 : Int32))]))
                  refine own_go (fun t k => XS.iloadN X26.here hx rfl (hb hby own_d16) rfl  k) ?_
                  show OwnG p.tables e below _ (T26.setTop (mkF m 11 #[.val (.int p1), .val (.ref bv_1), .val (.int (12 : Int32)), .val (.int (8 : Int32)), .val (.ref o_PREPARE)] [(.int (12 : Int32)), (.int (8 : Int32))]))
                  refine own_go (fun t k => XS.icmpNo X26.here hx rfl (hb hby own_d17) rfl (tlt (by decide : (8 : Int32) < (12 : Int32))).2.1 k) ?_
                  show OwnG p.tables e below _ (T26.setTop (mkF m 14 #[.val (.int p1), .val (.ref bv_1), .val (.int (12 : Int32)), .val (.int (8 : Int32)), .val (.ref o_PREPARE)] []))
                  refine own_go (fun t k => XS.aloadN X26.here hx rfl (hb hby own_d18) rfl rfl k) ?_
                  show OwnG p.tables e below _ (T26.setTop (mkF m 15 #[.val (.int p1), .val (.ref bv_1), .val (.int (12 : Int32)), .val (.int (8 : Int32)), .val (.ref o_PREPARE)] [(.ref bv_1)]))
                  refine own_go (fun t k => XS.iloadN X26.here hx rfl (hb hby own_d19) rfl  k) ?_
                  show OwnG p.tables e below _ (T26.setTop (mkF m 16 #[.val (.int p1), .val (.ref bv_1), .val (.int (12 : Int32)), .val (.int (8 : Int32)), .val (.ref o_PREPARE)] [(.int (8 : Int32)), (.ref bv_1)]))
                  have vv28 := Fq1_0
                  obtain ⟨cl28, Ar28, qk28, Sz28, Nn28, Hs28, Gs28⟩ := vv28
                  have hin28 : ¬ ((8 : Int32) < 0 ∨ cl28.slots.size ≤ ((8 : Int32)).toNatClampNeg) := inb_of Sz28 ⟨by decide, by decide⟩
                  have hat28 : cl28.slots[((8 : Int32)).toNatClampNeg]? = some (.ref o_EXECUTE) := Hs28.at hin28 rfl
                  refine own_go (fun t k => (X26.aaload hx (j := (8 : Int32)) (v := (.ref o_EXECUTE)) (by rw [e26]; exact Ar28.1) (State.isArrayOf_alike hZ.alike Ar28.2.1) rfl Ar28.2.2 hin28 hat28 (g := (mkF m 16 #[.val (.int p1), .val (.ref bv_1), .val (.int (12 : Int32)), .val (.int (8 : Int32)), .val (.ref o_PREPARE)] [(.int (8 : Int32)), (.ref bv_1)])) rfl rfl (hb hby own_d20)) t k) ?_
                  show OwnG p.tables e below _ (T26.setTop (mkF m 17 #[.val (.int p1), .val (.ref bv_1), .val (.int (12 : Int32)), .val (.int (8 : Int32)), .val (.ref o_PREPARE)] [(.ref o_EXECUTE)]))
                  refine own_go (fun t k => XS.astore X26.here hx rfl (hb hby own_d21) rfl rfl (l' := #[.val (.int p1), .val (.ref bv_1), .val (.int (12 : Int32)), .val (.int (8 : Int32)), .val (.ref o_EXECUTE)]) rfl k) ?_
                  show OwnG p.tables e below _ (T26.setTop (mkF m 19 #[.val (.int p1), .val (.ref bv_1), .val (.int (12 : Int32)), .val (.int (8 : Int32)), .val (.ref o_EXECUTE)] []))
                  refine own_go (fun t k => XS.aload X26.here hx rfl (hb hby own_d22) rfl rfl k) ?_
                  show OwnG p.tables e below _ (T26.setTop (mkF m 21 #[.val (.int p1), .val (.ref bv_1), .val (.int (12 : Int32)), .val (.int (8 : Int32)), .val (.ref o_EXECUTE)] [(.ref o_EXECUTE)]))
                  obtain ⟨T29, X29, e29, st29⟩ := getF X26 hx hZ hown (host := "") (Or.inl (hw _ (List.mem_of_getElem? (i := 31) rfl))) Via.refl e26 (F_o_EXECUTE_code.ext F2.2) (g := (mkF m 21 #[.val (.int p1), .val (.ref bv_1), .val (.int (12 : Int32)), .val (.int (8 : Int32)), .val (.ref o_EXECUTE)] [(.ref o_EXECUTE)])) rfl rfl (hb hby own_d23)
                  refine own_go (fun t k => st29 t k) ?_
                  show OwnG p.tables e below _ (T29.setTop (mkF m 24 #[.val (.int p1), .val (.ref bv_1), .val (.int (12 : Int32)), .val (.int (8 : Int32)), .val (.ref o_EXECUTE)] [(.int (10 : Int32))]))
                  refine own_go (fun t k => XS.iloadN X29.here hx rfl (hb hby own_d24) rfl  k) ?_
                  show OwnG p.tables e below _ (T29.setTop (mkF m 25 #[.val (.int p1), .val (.ref bv_1), .val (.int (12 : Int32)), .val (.int (8 : Int32)), .val (.ref o_EXECUTE)] [(.int p1), (.int (10 : Int32))]))
                  by_cases hc30 : (10 : Int32) = p1
                  · refine own_go (fun t k => XS.icmpNo X29.here hx rfl (hb hby own_d25) rfl (teq hc30).2 k) ?_
                    show OwnG p.tables e below _ (T29.setTop (mkF m 28 #[.val (.int p1), .val (.ref bv_1), .val (.int (12 : Int32)), .val (.int (8 : Int32)), .val (.ref o_EXECUTE)] []))
                    refine own_go (fun t k => XS.aload X29.here hx rfl (hb hby own_d26) rfl rfl k) ?_
                    show OwnG p.tables e below _ (T29.setTop (mkF m 30 #[.val (.int p1), .val (.ref bv_1), .val (.int (12 : Int32)), .val (.int (8 : Int32)), .val (.ref o_EXECUTE)] [(.ref o_EXECUTE)]))
                    obtain ⟨fs, hr, hrun, hended, hW, hsame⟩ := X29.leave (v := some (.ref o_EXECUTE)) (fun h => by rw [Bd.returns] at h; cases h)
                    have hlast : Steps p.tables e below (T29.setTop (mkF m 30 #[.val (.int p1), .val (.ref bv_1), .val (.int (12 : Int32)), .val (.int (8 : Int32)), .val (.ref o_EXECUTE)] [(.ref o_EXECUTE)])) (T29.setFrames fs) := by
                      exact retOut X29 hx (t := (.object "com/example/keyspace/keyspace/server/Opcode")) Bd.returns rfl (Or.inr (Or.inr (Or.inr (Or.inr ⟨rfl, rfl, rfl⟩)))) (hb hby own_d27) hr
                    refine ⟨_, _, hlast, hrun, hended, _, _, rfl, ?_, ⟨_, rfl⟩, hW, hsame.mono (by decide) (by decide)⟩
                    show Q_own_of Z p1 o__VALUES o_ERROR o_STARTUP o_READY o_OPTIONS o_SUPPORTED o_QUERY o_RESULT o_PREPARE o_EXECUTE o_REGISTER o_BATCH o_AUTH_RESPONSE kc_o__VALUES h0 n0 _ T29.heap _
                    rw [e29]
                    exact ⟨by simp [own_val, Ne.symm hc6, Ne.symm hc9, Ne.symm hc12, Ne.symm hc15, Ne.symm hc18, Ne.symm hc21, Ne.symm hc24, Ne.symm hc27, hc30.symm], N1, K1⟩
                  · refine own_go (fun t k => XS.icmpYes X29.here hx rfl (pc0 := 25) (pc' := 31) rfl (hb hby own_d25) rfl (feq hc30).2 (by decide) (by decide) k) ?_
                    show OwnG p.tables e below _ (T29.setTop (mkF m 31 #[.val (.int p1), .val (.ref bv_1), .val (.int (12 : Int32)), .val (.int (8 : Int32)), .val (.ref o_EXECUTE)] []))
                    refine own_go (fun t k => XS.iinc X29.here hx rfl (hb hby own_d28) rfl (l' := #[.val (.int p1), .val (.ref bv_1), .val (.int (12 : Int32)), .val (.int ((8 : Int32) + (1 : Int32))), .val (.ref o_EXECUTE)]) rfl k) ?_
                    show OwnG p.tables e below _ (T29.setTop (mkF m 34 #[.val (.int p1), .val (.ref bv_1), .val (.int (12 : Int32)), .val (.int ((8 : Int32) + (1 : Int32))), .val (.ref o_EXECUTE)] []))
                    rw [show ((8 : Int32) + (1 : Int32)) = (9 : Int32) from by decide]
                    show OwnG p.tables e below _ (T29.setTop (mkF m 34 #[.val (.int p1), .val (.ref bv_1), .val (.int (12 : Int32)), .val (.int (9 : Int32)), .val (.ref o_EXECUTE)] []))
                    refine own_go (fun t k => XS.goto X29.here hx rfl (pc0 := 34) (pc' := 9) rfl (hb hby own_d29) (by decide) (by decide) k) ?_
                    show OwnG p.tables e below _ (T29.setTop (mkF m 9 #[.val (.int p1), .val (.ref bv_1), .val (.int (12 : Int32)), .val (.int (9 : Int32)), .val (.ref o_EXECUTE)] []))
                    refine own_go (fun t k => XS.iloadN X29.here hx rfl (hb hby own_d15) rfl  k) ?_
                    show OwnG p.tables e below _ (T29.setTop (mkF m 10 #[.val (.int p1), .val (.ref bv_1), .val (.int (12 : Int32)), .val (.int (9 : Int32)), .val (.ref o_EXECUTE)] [(.int (9 : Int32))]))
                    refine own_go (fun t k => XS.iloadN X29.here hx rfl (hb hby own_d16) rfl  k) ?_
                    show OwnG p.tables e below _ (T29.setTop (mkF m 11 #[.val (.int p1), .val (.ref bv_1), .val (.int (12 : Int32)), .val (.int (9 : Int32)), .val (.ref o_EXECUTE)] [(.int (12 : Int32)), (.int (9 : Int32))]))
                    refine own_go (fun t k => XS.icmpNo X29.here hx rfl (hb hby own_d17) rfl (tlt (by decide : (9 : Int32) < (12 : Int32))).2.1 k) ?_
                    show OwnG p.tables e below _ (T29.setTop (mkF m 14 #[.val (.int p1), .val (.ref bv_1), .val (.int (12 : Int32)), .val (.int (9 : Int32)), .val (.ref o_EXECUTE)] []))
                    refine own_go (fun t k => XS.aloadN X29.here hx rfl (hb hby own_d18) rfl rfl k) ?_
                    show OwnG p.tables e below _ (T29.setTop (mkF m 15 #[.val (.int p1), .val (.ref bv_1), .val (.int (12 : Int32)), .val (.int (9 : Int32)), .val (.ref o_EXECUTE)] [(.ref bv_1)]))
                    refine own_go (fun t k => XS.iloadN X29.here hx rfl (hb hby own_d19) rfl  k) ?_
                    show OwnG p.tables e below _ (T29.setTop (mkF m 16 #[.val (.int p1), .val (.ref bv_1), .val (.int (12 : Int32)), .val (.int (9 : Int32)), .val (.ref o_EXECUTE)] [(.int (9 : Int32)), (.ref bv_1)]))
                    have vv31 := Fq1_0
                    obtain ⟨cl31, Ar31, qk31, Sz31, Nn31, Hs31, Gs31⟩ := vv31
                    have hin31 : ¬ ((9 : Int32) < 0 ∨ cl31.slots.size ≤ ((9 : Int32)).toNatClampNeg) := inb_of Sz31 ⟨by decide, by decide⟩
                    have hat31 : cl31.slots[((9 : Int32)).toNatClampNeg]? = some (.ref o_REGISTER) := Hs31.at hin31 rfl
                    refine own_go (fun t k => (X29.aaload hx (j := (9 : Int32)) (v := (.ref o_REGISTER)) (by rw [e29]; exact Ar31.1) (State.isArrayOf_alike hZ.alike Ar31.2.1) rfl Ar31.2.2 hin31 hat31 (g := (mkF m 16 #[.val (.int p1), .val (.ref bv_1), .val (.int (12 : Int32)), .val (.int (9 : Int32)), .val (.ref o_EXECUTE)] [(.int (9 : Int32)), (.ref bv_1)])) rfl rfl (hb hby own_d20)) t k) ?_
                    show OwnG p.tables e below _ (T29.setTop (mkF m 17 #[.val (.int p1), .val (.ref bv_1), .val (.int (12 : Int32)), .val (.int (9 : Int32)), .val (.ref o_EXECUTE)] [(.ref o_REGISTER)]))
                    refine own_go (fun t k => XS.astore X29.here hx rfl (hb hby own_d21) rfl rfl (l' := #[.val (.int p1), .val (.ref bv_1), .val (.int (12 : Int32)), .val (.int (9 : Int32)), .val (.ref o_REGISTER)]) rfl k) ?_
                    show OwnG p.tables e below _ (T29.setTop (mkF m 19 #[.val (.int p1), .val (.ref bv_1), .val (.int (12 : Int32)), .val (.int (9 : Int32)), .val (.ref o_REGISTER)] []))
                    refine own_go (fun t k => XS.aload X29.here hx rfl (hb hby own_d22) rfl rfl k) ?_
                    show OwnG p.tables e below _ (T29.setTop (mkF m 21 #[.val (.int p1), .val (.ref bv_1), .val (.int (12 : Int32)), .val (.int (9 : Int32)), .val (.ref o_REGISTER)] [(.ref o_REGISTER)]))
                    obtain ⟨T32, X32, e32, st32⟩ := getF X29 hx hZ hown (host := "") (Or.inl (hw _ (List.mem_of_getElem? (i := 31) rfl))) Via.refl e29 (F_o_REGISTER_code.ext F2.2) (g := (mkF m 21 #[.val (.int p1), .val (.ref bv_1), .val (.int (12 : Int32)), .val (.int (9 : Int32)), .val (.ref o_REGISTER)] [(.ref o_REGISTER)])) rfl rfl (hb hby own_d23)
                    refine own_go (fun t k => st32 t k) ?_
                    show OwnG p.tables e below _ (T32.setTop (mkF m 24 #[.val (.int p1), .val (.ref bv_1), .val (.int (12 : Int32)), .val (.int (9 : Int32)), .val (.ref o_REGISTER)] [(.int (11 : Int32))]))
                    refine own_go (fun t k => XS.iloadN X32.here hx rfl (hb hby own_d24) rfl  k) ?_
                    show OwnG p.tables e below _ (T32.setTop (mkF m 25 #[.val (.int p1), .val (.ref bv_1), .val (.int (12 : Int32)), .val (.int (9 : Int32)), .val (.ref o_REGISTER)] [(.int p1), (.int (11 : Int32))]))
                    by_cases hc33 : (11 : Int32) = p1
                    · refine own_go (fun t k => XS.icmpNo X32.here hx rfl (hb hby own_d25) rfl (teq hc33).2 k) ?_
                      show OwnG p.tables e below _ (T32.setTop (mkF m 28 #[.val (.int p1), .val (.ref bv_1), .val (.int (12 : Int32)), .val (.int (9 : Int32)), .val (.ref o_REGISTER)] []))
                      refine own_go (fun t k => XS.aload X32.here hx rfl (hb hby own_d26) rfl rfl k) ?_
                      show OwnG p.tables e below _ (T32.setTop (mkF m 30 #[.val (.int p1), .val (.ref bv_1), .val (.int (12 : Int32)), .val (.int (9 : Int32)), .val (.ref o_REGISTER)] [(.ref o_REGISTER)]))
                      obtain ⟨fs, hr, hrun, hended, hW, hsame⟩ := X32.leave (v := some (.ref o_REGISTER)) (fun h => by rw [Bd.returns] at h; cases h)
                      have hlast : Steps p.tables e below (T32.setTop (mkF m 30 #[.val (.int p1), .val (.ref bv_1), .val (.int (12 : Int32)), .val (.int (9 : Int32)), .val (.ref o_REGISTER)] [(.ref o_REGISTER)])) (T32.setFrames fs) := by
                        exact retOut X32 hx (t := (.object "com/example/keyspace/keyspace/server/Opcode")) Bd.returns rfl (Or.inr (Or.inr (Or.inr (Or.inr ⟨rfl, rfl, rfl⟩)))) (hb hby own_d27) hr
                      refine ⟨_, _, hlast, hrun, hended, _, _, rfl, ?_, ⟨_, rfl⟩, hW, hsame.mono (by decide) (by decide)⟩
                      show Q_own_of Z p1 o__VALUES o_ERROR o_STARTUP o_READY o_OPTIONS o_SUPPORTED o_QUERY o_RESULT o_PREPARE o_EXECUTE o_REGISTER o_BATCH o_AUTH_RESPONSE kc_o__VALUES h0 n0 _ T32.heap _
                      rw [e32]
                      exact ⟨by simp [own_val, Ne.symm hc6, Ne.symm hc9, Ne.symm hc12, Ne.symm hc15, Ne.symm hc18, Ne.symm hc21, Ne.symm hc24, Ne.symm hc27, Ne.symm hc30, hc33.symm], N1, K1⟩
                    · refine own_go (fun t k => XS.icmpYes X32.here hx rfl (pc0 := 25) (pc' := 31) rfl (hb hby own_d25) rfl (feq hc33).2 (by decide) (by decide) k) ?_
                      show OwnG p.tables e below _ (T32.setTop (mkF m 31 #[.val (.int p1), .val (.ref bv_1), .val (.int (12 : Int32)), .val (.int (9 : Int32)), .val (.ref o_REGISTER)] []))
                      refine own_go (fun t k => XS.iinc X32.here hx rfl (hb hby own_d28) rfl (l' := #[.val (.int p1), .val (.ref bv_1), .val (.int (12 : Int32)), .val (.int ((9 : Int32) + (1 : Int32))), .val (.ref o_REGISTER)]) rfl k) ?_
                      show OwnG p.tables e below _ (T32.setTop (mkF m 34 #[.val (.int p1), .val (.ref bv_1), .val (.int (12 : Int32)), .val (.int ((9 : Int32) + (1 : Int32))), .val (.ref o_REGISTER)] []))
                      rw [show ((9 : Int32) + (1 : Int32)) = (10 : Int32) from by decide]
                      show OwnG p.tables e below _ (T32.setTop (mkF m 34 #[.val (.int p1), .val (.ref bv_1), .val (.int (12 : Int32)), .val (.int (10 : Int32)), .val (.ref o_REGISTER)] []))
                      refine own_go (fun t k => XS.goto X32.here hx rfl (pc0 := 34) (pc' := 9) rfl (hb hby own_d29) (by decide) (by decide) k) ?_
                      show OwnG p.tables e below _ (T32.setTop (mkF m 9 #[.val (.int p1), .val (.ref bv_1), .val (.int (12 : Int32)), .val (.int (10 : Int32)), .val (.ref o_REGISTER)] []))
                      refine own_go (fun t k => XS.iloadN X32.here hx rfl (hb hby own_d15) rfl  k) ?_
                      show OwnG p.tables e below _ (T32.setTop (mkF m 10 #[.val (.int p1), .val (.ref bv_1), .val (.int (12 : Int32)), .val (.int (10 : Int32)), .val (.ref o_REGISTER)] [(.int (10 : Int32))]))
                      refine own_go (fun t k => XS.iloadN X32.here hx rfl (hb hby own_d16) rfl  k) ?_
                      show OwnG p.tables e below _ (T32.setTop (mkF m 11 #[.val (.int p1), .val (.ref bv_1), .val (.int (12 : Int32)), .val (.int (10 : Int32)), .val (.ref o_REGISTER)] [(.int (12 : Int32)), (.int (10 : Int32))]))
                      refine own_go (fun t k => XS.icmpNo X32.here hx rfl (hb hby own_d17) rfl (tlt (by decide : (10 : Int32) < (12 : Int32))).2.1 k) ?_
                      show OwnG p.tables e below _ (T32.setTop (mkF m 14 #[.val (.int p1), .val (.ref bv_1), .val (.int (12 : Int32)), .val (.int (10 : Int32)), .val (.ref o_REGISTER)] []))
                      refine own_go (fun t k => XS.aloadN X32.here hx rfl (hb hby own_d18) rfl rfl k) ?_
                      show OwnG p.tables e below _ (T32.setTop (mkF m 15 #[.val (.int p1), .val (.ref bv_1), .val (.int (12 : Int32)), .val (.int (10 : Int32)), .val (.ref o_REGISTER)] [(.ref bv_1)]))
                      refine own_go (fun t k => XS.iloadN X32.here hx rfl (hb hby own_d19) rfl  k) ?_
                      show OwnG p.tables e below _ (T32.setTop (mkF m 16 #[.val (.int p1), .val (.ref bv_1), .val (.int (12 : Int32)), .val (.int (10 : Int32)), .val (.ref o_REGISTER)] [(.int (10 : Int32)), (.ref bv_1)]))
                      have vv34 := Fq1_0
                      obtain ⟨cl34, Ar34, qk34, Sz34, Nn34, Hs34, Gs34⟩ := vv34
                      have hin34 : ¬ ((10 : Int32) < 0 ∨ cl34.slots.size ≤ ((10 : Int32)).toNatClampNeg) := inb_of Sz34 ⟨by decide, by decide⟩
                      have hat34 : cl34.slots[((10 : Int32)).toNatClampNeg]? = some (.ref o_BATCH) := Hs34.at hin34 rfl
                      refine own_go (fun t k => (X32.aaload hx (j := (10 : Int32)) (v := (.ref o_BATCH)) (by rw [e32]; exact Ar34.1) (State.isArrayOf_alike hZ.alike Ar34.2.1) rfl Ar34.2.2 hin34 hat34 (g := (mkF m 16 #[.val (.int p1), .val (.ref bv_1), .val (.int (12 : Int32)), .val (.int (10 : Int32)), .val (.ref o_REGISTER)] [(.int (10 : Int32)), (.ref bv_1)])) rfl rfl (hb hby own_d20)) t k) ?_
                      show OwnG p.tables e below _ (T32.setTop (mkF m 17 #[.val (.int p1), .val (.ref bv_1), .val (.int (12 : Int32)), .val (.int (10 : Int32)), .val (.ref o_REGISTER)] [(.ref o_BATCH)]))
                      refine own_go (fun t k => XS.astore X32.here hx rfl (hb hby own_d21) rfl rfl (l' := #[.val (.int p1), .val (.ref bv_1), .val (.int (12 : Int32)), .val (.int (10 : Int32)), .val (.ref o_BATCH)]) rfl k) ?_
                      show OwnG p.tables e below _ (T32.setTop (mkF m 19 #[.val (.int p1), .val (.ref bv_1), .val (.int (12 : Int32)), .val (.int (10 : Int32)), .val (.ref o_BATCH)] []))
                      refine own_go (fun t k => XS.aload X32.here hx rfl (hb hby own_d22) rfl rfl k) ?_
                      show OwnG p.tables e below _ (T32.setTop (mkF m 21 #[.val (.int p1), .val (.ref bv_1), .val (.int (12 : Int32)), .val (.int (10 : Int32)), .val (.ref o_BATCH)] [(.ref o_BATCH)]))
                      obtain ⟨T35, X35, e35, st35⟩ := getF X32 hx hZ hown (host := "") (Or.inl (hw _ (List.mem_of_getElem? (i := 31) rfl))) Via.refl e32 (F_o_BATCH_code.ext F2.2) (g := (mkF m 21 #[.val (.int p1), .val (.ref bv_1), .val (.int (12 : Int32)), .val (.int (10 : Int32)), .val (.ref o_BATCH)] [(.ref o_BATCH)])) rfl rfl (hb hby own_d23)
                      refine own_go (fun t k => st35 t k) ?_
                      show OwnG p.tables e below _ (T35.setTop (mkF m 24 #[.val (.int p1), .val (.ref bv_1), .val (.int (12 : Int32)), .val (.int (10 : Int32)), .val (.ref o_BATCH)] [(.int (13 : Int32))]))
                      refine own_go (fun t k => XS.iloadN X35.here hx rfl (hb hby own_d24) rfl  k) ?_
                      show OwnG p.tables e below _ (T35.setTop (mkF m 25 #[.val (.int p1), .val (.ref bv_1), .val (.int (12 : Int32)), .val (.int (10 : Int32)), .val (.ref o_BATCH)] [(.int p1), (.int (13 : Int32))]))
                      by_cases hc36 : (13 : Int32) = p1
                      · refine own_go (fun t k => XS.icmpNo X35.here hx rfl (hb hby own_d25) rfl (teq hc36).2 k) ?_
                        show OwnG p.tables e below _ (T35.setTop (mkF m 28 #[.val (.int p1), .val (.ref bv_1), .val (.int (12 : Int32)), .val (.int (10 : Int32)), .val (.ref o_BATCH)] []))
                        refine own_go (fun t k => XS.aload X35.here hx rfl (hb hby own_d26) rfl rfl k) ?_
                        show OwnG p.tables e below _ (T35.setTop (mkF m 30 #[.val (.int p1), .val (.ref bv_1), .val (.int (12 : Int32)), .val (.int (10 : Int32)), .val (.ref o_BATCH)] [(.ref o_BATCH)]))
                        obtain ⟨fs, hr, hrun, hended, hW, hsame⟩ := X35.leave (v := some (.ref o_BATCH)) (fun h => by rw [Bd.returns] at h; cases h)
                        have hlast : Steps p.tables e below (T35.setTop (mkF m 30 #[.val (.int p1), .val (.ref bv_1), .val (.int (12 : Int32)), .val (.int (10 : Int32)), .val (.ref o_BATCH)] [(.ref o_BATCH)])) (T35.setFrames fs) := by
                          exact retOut X35 hx (t := (.object "com/example/keyspace/keyspace/server/Opcode")) Bd.returns rfl (Or.inr (Or.inr (Or.inr (Or.inr ⟨rfl, rfl, rfl⟩)))) (hb hby own_d27) hr
                        refine ⟨_, _, hlast, hrun, hended, _, _, rfl, ?_, ⟨_, rfl⟩, hW, hsame.mono (by decide) (by decide)⟩
                        show Q_own_of Z p1 o__VALUES o_ERROR o_STARTUP o_READY o_OPTIONS o_SUPPORTED o_QUERY o_RESULT o_PREPARE o_EXECUTE o_REGISTER o_BATCH o_AUTH_RESPONSE kc_o__VALUES h0 n0 _ T35.heap _
                        rw [e35]
                        exact ⟨by simp [own_val, Ne.symm hc6, Ne.symm hc9, Ne.symm hc12, Ne.symm hc15, Ne.symm hc18, Ne.symm hc21, Ne.symm hc24, Ne.symm hc27, Ne.symm hc30, Ne.symm hc33, hc36.symm], N1, K1⟩
                      · refine own_go (fun t k => XS.icmpYes X35.here hx rfl (pc0 := 25) (pc' := 31) rfl (hb hby own_d25) rfl (feq hc36).2 (by decide) (by decide) k) ?_
                        show OwnG p.tables e below _ (T35.setTop (mkF m 31 #[.val (.int p1), .val (.ref bv_1), .val (.int (12 : Int32)), .val (.int (10 : Int32)), .val (.ref o_BATCH)] []))
                        refine own_go (fun t k => XS.iinc X35.here hx rfl (hb hby own_d28) rfl (l' := #[.val (.int p1), .val (.ref bv_1), .val (.int (12 : Int32)), .val (.int ((10 : Int32) + (1 : Int32))), .val (.ref o_BATCH)]) rfl k) ?_
                        show OwnG p.tables e below _ (T35.setTop (mkF m 34 #[.val (.int p1), .val (.ref bv_1), .val (.int (12 : Int32)), .val (.int ((10 : Int32) + (1 : Int32))), .val (.ref o_BATCH)] []))
                        rw [show ((10 : Int32) + (1 : Int32)) = (11 : Int32) from by decide]
                        show OwnG p.tables e below _ (T35.setTop (mkF m 34 #[.val (.int p1), .val (.ref bv_1), .val (.int (12 : Int32)), .val (.int (11 : Int32)), .val (.ref o_BATCH)] []))
                        refine own_go (fun t k => XS.goto X35.here hx rfl (pc0 := 34) (pc' := 9) rfl (hb hby own_d29) (by decide) (by decide) k) ?_
                        show OwnG p.tables e below _ (T35.setTop (mkF m 9 #[.val (.int p1), .val (.ref bv_1), .val (.int (12 : Int32)), .val (.int (11 : Int32)), .val (.ref o_BATCH)] []))
                        refine own_go (fun t k => XS.iloadN X35.here hx rfl (hb hby own_d15) rfl  k) ?_
                        show OwnG p.tables e below _ (T35.setTop (mkF m 10 #[.val (.int p1), .val (.ref bv_1), .val (.int (12 : Int32)), .val (.int (11 : Int32)), .val (.ref o_BATCH)] [(.int (11 : Int32))]))
                        refine own_go (fun t k => XS.iloadN X35.here hx rfl (hb hby own_d16) rfl  k) ?_
                        show OwnG p.tables e below _ (T35.setTop (mkF m 11 #[.val (.int p1), .val (.ref bv_1), .val (.int (12 : Int32)), .val (.int (11 : Int32)), .val (.ref o_BATCH)] [(.int (12 : Int32)), (.int (11 : Int32))]))
                        refine own_go (fun t k => XS.icmpNo X35.here hx rfl (hb hby own_d17) rfl (tlt (by decide : (11 : Int32) < (12 : Int32))).2.1 k) ?_
                        show OwnG p.tables e below _ (T35.setTop (mkF m 14 #[.val (.int p1), .val (.ref bv_1), .val (.int (12 : Int32)), .val (.int (11 : Int32)), .val (.ref o_BATCH)] []))
                        refine own_go (fun t k => XS.aloadN X35.here hx rfl (hb hby own_d18) rfl rfl k) ?_
                        show OwnG p.tables e below _ (T35.setTop (mkF m 15 #[.val (.int p1), .val (.ref bv_1), .val (.int (12 : Int32)), .val (.int (11 : Int32)), .val (.ref o_BATCH)] [(.ref bv_1)]))
                        refine own_go (fun t k => XS.iloadN X35.here hx rfl (hb hby own_d19) rfl  k) ?_
                        show OwnG p.tables e below _ (T35.setTop (mkF m 16 #[.val (.int p1), .val (.ref bv_1), .val (.int (12 : Int32)), .val (.int (11 : Int32)), .val (.ref o_BATCH)] [(.int (11 : Int32)), (.ref bv_1)]))
                        have vv37 := Fq1_0
                        obtain ⟨cl37, Ar37, qk37, Sz37, Nn37, Hs37, Gs37⟩ := vv37
                        have hin37 : ¬ ((11 : Int32) < 0 ∨ cl37.slots.size ≤ ((11 : Int32)).toNatClampNeg) := inb_of Sz37 ⟨by decide, by decide⟩
                        have hat37 : cl37.slots[((11 : Int32)).toNatClampNeg]? = some (.ref o_AUTH_RESPONSE) := Hs37.at hin37 rfl
                        refine own_go (fun t k => (X35.aaload hx (j := (11 : Int32)) (v := (.ref o_AUTH_RESPONSE)) (by rw [e35]; exact Ar37.1) (State.isArrayOf_alike hZ.alike Ar37.2.1) rfl Ar37.2.2 hin37 hat37 (g := (mkF m 16 #[.val (.int p1), .val (.ref bv_1), .val (.int (12 : Int32)), .val (.int (11 : Int32)), .val (.ref o_BATCH)] [(.int (11 : Int32)), (.ref bv_1)])) rfl rfl (hb hby own_d20)) t k) ?_
                        show OwnG p.tables e below _ (T35.setTop (mkF m 17 #[.val (.int p1), .val (.ref bv_1), .val (.int (12 : Int32)), .val (.int (11 : Int32)), .val (.ref o_BATCH)] [(.ref o_AUTH_RESPONSE)]))
                        refine own_go (fun t k => XS.astore X35.here hx rfl (hb hby own_d21) rfl rfl (l' := #[.val (.int p1), .val (.ref bv_1), .val (.int (12 : Int32)), .val (.int (11 : Int32)), .val (.ref o_AUTH_RESPONSE)]) rfl k) ?_
                        show OwnG p.tables e below _ (T35.setTop (mkF m 19 #[.val (.int p1), .val (.ref bv_1), .val (.int (12 : Int32)), .val (.int (11 : Int32)), .val (.ref o_AUTH_RESPONSE)] []))
                        refine own_go (fun t k => XS.aload X35.here hx rfl (hb hby own_d22) rfl rfl k) ?_
                        show OwnG p.tables e below _ (T35.setTop (mkF m 21 #[.val (.int p1), .val (.ref bv_1), .val (.int (12 : Int32)), .val (.int (11 : Int32)), .val (.ref o_AUTH_RESPONSE)] [(.ref o_AUTH_RESPONSE)]))
                        obtain ⟨T38, X38, e38, st38⟩ := getF X35 hx hZ hown (host := "") (Or.inl (hw _ (List.mem_of_getElem? (i := 31) rfl))) Via.refl e35 (F_o_AUTH_RESPONSE_code.ext F2.2) (g := (mkF m 21 #[.val (.int p1), .val (.ref bv_1), .val (.int (12 : Int32)), .val (.int (11 : Int32)), .val (.ref o_AUTH_RESPONSE)] [(.ref o_AUTH_RESPONSE)])) rfl rfl (hb hby own_d23)
                        refine own_go (fun t k => st38 t k) ?_
                        show OwnG p.tables e below _ (T38.setTop (mkF m 24 #[.val (.int p1), .val (.ref bv_1), .val (.int (12 : Int32)), .val (.int (11 : Int32)), .val (.ref o_AUTH_RESPONSE)] [(.int (15 : Int32))]))
                        refine own_go (fun t k => XS.iloadN X38.here hx rfl (hb hby own_d24) rfl  k) ?_
                        show OwnG p.tables e below _ (T38.setTop (mkF m 25 #[.val (.int p1), .val (.ref bv_1), .val (.int (12 : Int32)), .val (.int (11 : Int32)), .val (.ref o_AUTH_RESPONSE)] [(.int p1), (.int (15 : Int32))]))
                        by_cases hc39 : (15 : Int32) = p1
                        · refine own_go (fun t k => XS.icmpNo X38.here hx rfl (hb hby own_d25) rfl (teq hc39).2 k) ?_
                          show OwnG p.tables e below _ (T38.setTop (mkF m 28 #[.val (.int p1), .val (.ref bv_1), .val (.int (12 : Int32)), .val (.int (11 : Int32)), .val (.ref o_AUTH_RESPONSE)] []))
                          refine own_go (fun t k => XS.aload X38.here hx rfl (hb hby own_d26) rfl rfl k) ?_
                          show OwnG p.tables e below _ (T38.setTop (mkF m 30 #[.val (.int p1), .val (.ref bv_1), .val (.int (12 : Int32)), .val (.int (11 : Int32)), .val (.ref o_AUTH_RESPONSE)] [(.ref o_AUTH_RESPONSE)]))
                          obtain ⟨fs, hr, hrun, hended, hW, hsame⟩ := X38.leave (v := some (.ref o_AUTH_RESPONSE)) (fun h => by rw [Bd.returns] at h; cases h)
                          have hlast : Steps p.tables e below (T38.setTop (mkF m 30 #[.val (.int p1), .val (.ref bv_1), .val (.int (12 : Int32)), .val (.int (11 : Int32)), .val (.ref o_AUTH_RESPONSE)] [(.ref o_AUTH_RESPONSE)])) (T38.setFrames fs) := by
                            exact retOut X38 hx (t := (.object "com/example/keyspace/keyspace/server/Opcode")) Bd.returns rfl (Or.inr (Or.inr (Or.inr (Or.inr ⟨rfl, rfl, rfl⟩)))) (hb hby own_d27) hr
                          refine ⟨_, _, hlast, hrun, hended, _, _, rfl, ?_, ⟨_, rfl⟩, hW, hsame.mono (by decide) (by decide)⟩
                          show Q_own_of Z p1 o__VALUES o_ERROR o_STARTUP o_READY o_OPTIONS o_SUPPORTED o_QUERY o_RESULT o_PREPARE o_EXECUTE o_REGISTER o_BATCH o_AUTH_RESPONSE kc_o__VALUES h0 n0 _ T38.heap _
                          rw [e38]
                          exact ⟨by simp [own_val, Ne.symm hc6, Ne.symm hc9, Ne.symm hc12, Ne.symm hc15, Ne.symm hc18, Ne.symm hc21, Ne.symm hc24, Ne.symm hc27, Ne.symm hc30, Ne.symm hc33, Ne.symm hc36, hc39.symm], N1, K1⟩
                        · refine own_go (fun t k => XS.icmpYes X38.here hx rfl (pc0 := 25) (pc' := 31) rfl (hb hby own_d25) rfl (feq hc39).2 (by decide) (by decide) k) ?_
                          show OwnG p.tables e below _ (T38.setTop (mkF m 31 #[.val (.int p1), .val (.ref bv_1), .val (.int (12 : Int32)), .val (.int (11 : Int32)), .val (.ref o_AUTH_RESPONSE)] []))
                          refine own_go (fun t k => XS.iinc X38.here hx rfl (hb hby own_d28) rfl (l' := #[.val (.int p1), .val (.ref bv_1), .val (.int (12 : Int32)), .val (.int ((11 : Int32) + (1 : Int32))), .val (.ref o_AUTH_RESPONSE)]) rfl k) ?_
                          show OwnG p.tables e below _ (T38.setTop (mkF m 34 #[.val (.int p1), .val (.ref bv_1), .val (.int (12 : Int32)), .val (.int ((11 : Int32) + (1 : Int32))), .val (.ref o_AUTH_RESPONSE)] []))
                          rw [show ((11 : Int32) + (1 : Int32)) = (12 : Int32) from by decide]
                          show OwnG p.tables e below _ (T38.setTop (mkF m 34 #[.val (.int p1), .val (.ref bv_1), .val (.int (12 : Int32)), .val (.int (12 : Int32)), .val (.ref o_AUTH_RESPONSE)] []))
                          refine own_go (fun t k => XS.goto X38.here hx rfl (pc0 := 34) (pc' := 9) rfl (hb hby own_d29) (by decide) (by decide) k) ?_
                          show OwnG p.tables e below _ (T38.setTop (mkF m 9 #[.val (.int p1), .val (.ref bv_1), .val (.int (12 : Int32)), .val (.int (12 : Int32)), .val (.ref o_AUTH_RESPONSE)] []))
                          refine own_go (fun t k => XS.iloadN X38.here hx rfl (hb hby own_d15) rfl  k) ?_
                          show OwnG p.tables e below _ (T38.setTop (mkF m 10 #[.val (.int p1), .val (.ref bv_1), .val (.int (12 : Int32)), .val (.int (12 : Int32)), .val (.ref o_AUTH_RESPONSE)] [(.int (12 : Int32))]))
                          refine own_go (fun t k => XS.iloadN X38.here hx rfl (hb hby own_d16) rfl  k) ?_
                          show OwnG p.tables e below _ (T38.setTop (mkF m 11 #[.val (.int p1), .val (.ref bv_1), .val (.int (12 : Int32)), .val (.int (12 : Int32)), .val (.ref o_AUTH_RESPONSE)] [(.int (12 : Int32)), (.int (12 : Int32))]))
                          refine own_go (fun t k => XS.icmpYes X38.here hx rfl (pc0 := 11) (pc' := 37) rfl (hb hby own_d17) rfl (flt (by decide : ¬ ((12 : Int32) < (12 : Int32)))).2.1 (by decide) (by decide) k) ?_
                          show OwnG p.tables e below _ (T38.setTop (mkF m 37 #[.val (.int p1), .val (.ref bv_1), .val (.int (12 : Int32)), .val (.int (12 : Int32)), .val (.ref o_AUTH_RESPONSE)] []))
                          refine own_go (fun t k => XS.aconstNull X38.here hx rfl (hb hby own_d30) k) ?_
                          show OwnG p.tables e below _ (T38.setTop (mkF m 38 #[.val (.int p1), .val (.ref bv_1), .val (.int (12 : Int32)), .val (.int (12 : Int32)), .val (.ref o_AUTH_RESPONSE)] [.null]))
                          obtain ⟨fs, hr, hrun, hended, hW, hsame⟩ := X38.leave (v := some .null) (fun h => by rw [Bd.returns] at h; cases h)
                          have hlast : Steps p.tables e below (T38.setTop (mkF m 38 #[.val (.int p1), .val (.ref bv_1), .val (.int (12 : Int32)), .val (.int (12 : Int32)), .val (.ref o_AUTH_RESPONSE)] [.null])) (T38.setFrames fs) := by
                            exact retOut X38 hx (t := (.object "com/example/keyspace/keyspace/server/Opcode")) Bd.returns rfl (Or.inr (Or.inr (Or.inr (Or.inr ⟨rfl, rfl, rfl⟩)))) (hb hby own_d31) hr
                          refine ⟨_, _, hlast, hrun, hended, _, _, rfl, ?_, ⟨_, rfl⟩, hW, hsame.mono (by decide) (by decide)⟩
                          show Q_own_of Z p1 o__VALUES o_ERROR o_STARTUP o_READY o_OPTIONS o_SUPPORTED o_QUERY o_RESULT o_PREPARE o_EXECUTE o_REGISTER o_BATCH o_AUTH_RESPONSE kc_o__VALUES h0 n0 _ T38.heap _
                          rw [e38]
                          exact ⟨by simp [own_val, Ne.symm hc6, Ne.symm hc9, Ne.symm hc12, Ne.symm hc15, Ne.symm hc18, Ne.symm hc21, Ne.symm hc24, Ne.symm hc27, Ne.symm hc30, Ne.symm hc33, Ne.symm hc36, Ne.symm hc39], N1, K1⟩
theorem own_ef32 (m : MethodId) (p1 : Int32) : entryFrame m #[(.int p1)] 1 = mkF m 0 #[.val (.int p1)] [] := by first | (simp [entryFrame, mkF, argsToLocals, Value.category]; done) | rfl
theorem own_pn33 : plainName "com/example/keyspace/keyspace/server/OpcodeOfPinLaw" = true := by first | (simp [plainName, overriddenIn]; done) | decide +kernel
theorem own_d34 : decode method_2_code 0 = .ok (.iload_n 0, 1) := by decide +kernel
theorem own_d35 : decode method_2_code 1 = .ok (.ifCond .ne 7, 3) := by decide +kernel
theorem own_d36 : decode method_2_code 4 = .ok (.getstatic 7, 3) := by decide +kernel
theorem own_d37 : decode method_2_code 7 = .ok (.areturn, 1) := by decide +kernel
theorem own_d38 : decode method_2_code 8 = .ok (.iload_n 0, 1) := by decide +kernel
theorem own_d39 : decode method_2_code 9 = .ok (.iconst 1, 1) := by decide +kernel
theorem own_d40 : decode method_2_code 10 = .ok (.if_icmp .ne 7, 3) := by decide +kernel
theorem own_d41 : decode method_2_code 13 = .ok (.getstatic 13, 3) := by decide +kernel
theorem own_d42 : decode method_2_code 16 = .ok (.areturn, 1) := by decide +kernel
theorem own_d43 : decode method_2_code 17 = .ok (.iload_n 0, 1) := by decide +kernel
theorem own_d44 : decode method_2_code 18 = .ok (.iconst 2, 1) := by decide +kernel
theorem own_d45 : decode method_2_code 19 = .ok (.if_icmp .ne 7, 3) := by decide +kernel
theorem own_d46 : decode method_2_code 22 = .ok (.getstatic 16, 3) := by decide +kernel
theorem own_d47 : decode method_2_code 25 = .ok (.areturn, 1) := by decide +kernel
theorem own_d48 : decode method_2_code 26 = .ok (.iload_n 0, 1) := by decide +kernel
theorem own_d49 : decode method_2_code 27 = .ok (.iconst 5, 1) := by decide +kernel
theorem own_d50 : decode method_2_code 28 = .ok (.if_icmp .ne 7, 3) := by decide +kernel
theorem own_d51 : decode method_2_code 31 = .ok (.getstatic 19, 3) := by decide +kernel
theorem own_d52 : decode method_2_code 34 = .ok (.areturn, 1) := by decide +kernel
theorem own_d53 : decode method_2_code 35 = .ok (.iload_n 0, 1) := by decide +kernel
theorem own_d54 : decode method_2_code 36 = .ok (.bipush 6, 2) := by decide +kernel
theorem own_d55 : decode method_2_code 38 = .ok (.if_icmp .ne 7, 3) := by decide +kernel
theorem own_d56 : decode method_2_code 41 = .ok (.getstatic 22, 3) := by decide +kernel
theorem own_d57 : decode method_2_code 44 = .ok (.areturn, 1) := by decide +kernel
theorem own_d58 : decode method_2_code 45 = .ok (.iload_n 0, 1) := by decide +kernel
theorem own_d59 : decode method_2_code 46 = .ok (.bipush 7, 2) := by decide +kernel
theorem own_d60 : decode method_2_code 48 = .ok (.if_icmp .ne 7, 3) := by decide +kernel
theorem own_d61 : decode method_2_code 51 = .ok (.getstatic 25, 3) := by decide +kernel
theorem own_d62 : decode method_2_code 54 = .ok (.areturn, 1) := by decide +kernel
theorem own_d63 : decode method_2_code 55 = .ok (.iload_n 0, 1) := by decide +kernel
theorem own_d64 : decode method_2_code 56 = .ok (.bipush 8, 2) := by decide +kernel
theorem own_d65 : decode method_2_code 58 = .ok (.if_icmp .ne 7, 3) := by decide +kernel
theorem own_d66 : decode method_2_code 61 = .ok (.getstatic 28, 3) := by decide +kernel
theorem own_d67 : decode method_2_code 64 = .ok (.areturn, 1) := by decide +kernel
theorem own_d68 : decode method_2_code 65 = .ok (.iload_n 0, 1) := by decide +kernel
theorem own_d69 : decode method_2_code 66 = .ok (.bipush 9, 2) := by decide +kernel
theorem own_d70 : decode method_2_code 68 = .ok (.if_icmp .ne 7, 3) := by decide +kernel
theorem own_d71 : decode method_2_code 71 = .ok (.getstatic 31, 3) := by decide +kernel
theorem own_d72 : decode method_2_code 74 = .ok (.areturn, 1) := by decide +kernel
theorem own_d73 : decode method_2_code 75 = .ok (.iload_n 0, 1) := by decide +kernel
theorem own_d74 : decode method_2_code 76 = .ok (.bipush 10, 2) := by decide +kernel
theorem own_d75 : decode method_2_code 78 = .ok (.if_icmp .ne 7, 3) := by decide +kernel
theorem own_d76 : decode method_2_code 81 = .ok (.getstatic 34, 3) := by decide +kernel
theorem own_d77 : decode method_2_code 84 = .ok (.areturn, 1) := by decide +kernel
theorem own_d78 : decode method_2_code 85 = .ok (.iload_n 0, 1) := by decide +kernel
theorem own_d79 : decode method_2_code 86 = .ok (.bipush 11, 2) := by decide +kernel
theorem own_d80 : decode method_2_code 88 = .ok (.if_icmp .ne 7, 3) := by decide +kernel
theorem own_d81 : decode method_2_code 91 = .ok (.getstatic 37, 3) := by decide +kernel
theorem own_d82 : decode method_2_code 94 = .ok (.areturn, 1) := by decide +kernel
theorem own_d83 : decode method_2_code 95 = .ok (.iload_n 0, 1) := by decide +kernel
theorem own_d84 : decode method_2_code 96 = .ok (.bipush 13, 2) := by decide +kernel
theorem own_d85 : decode method_2_code 98 = .ok (.if_icmp .ne 7, 3) := by decide +kernel
theorem own_d86 : decode method_2_code 101 = .ok (.getstatic 40, 3) := by decide +kernel
theorem own_d87 : decode method_2_code 104 = .ok (.areturn, 1) := by decide +kernel
theorem own_d88 : decode method_2_code 105 = .ok (.iload_n 0, 1) := by decide +kernel
theorem own_d89 : decode method_2_code 106 = .ok (.bipush 15, 2) := by decide +kernel
theorem own_d90 : decode method_2_code 108 = .ok (.if_icmp .ne 7, 3) := by decide +kernel
theorem own_d91 : decode method_2_code 111 = .ok (.getstatic 43, 3) := by decide +kernel
theorem own_d92 : decode method_2_code 114 = .ok (.areturn, 1) := by decide +kernel
theorem own_d93 : decode method_2_code 115 = .ok (.aconst_null, 1) := by decide +kernel
theorem own_d94 : decode method_2_code 116 = .ok (.areturn, 1) := by decide +kernel
def Q_own_expected (Z : State) (p1 : Int32) (o__VALUES : Addr) (o_ERROR : Addr) (o_STARTUP : Addr) (o_READY : Addr) (o_OPTIONS : Addr) (o_SUPPORTED : Addr) (o_QUERY : Addr) (o_RESULT : Addr) (o_PREPARE : Addr) (o_EXECUTE : Addr) (o_REGISTER : Addr) (o_BATCH : Addr) (o_AUTH_RESPONSE : Addr) (kc_o__VALUES : ClassId) (h0 : Heap) (n0 : Nat) (v : Option Value) (h : Heap) (L : List Loc) : Prop := v = some (own_val p1 o_ERROR o_STARTUP o_READY o_OPTIONS o_SUPPORTED o_QUERY o_RESULT o_PREPARE o_EXECUTE o_REGISTER o_BATCH o_AUTH_RESPONSE) ∧ Fr n0 L ∧ h = h0
set_option maxRecDepth 65536 in
set_option maxHeartbeats 40000000 in
theorem own_expected (l : Launch) (Z : State) (a0 : Array Value) (hw : ∀ d ∈ tables_1, d.before a0 Z = true) (ws : List Jvm.Cond) (p1 : Int32) (o__VALUES : Addr) (o_ERROR : Addr) (o_STARTUP : Addr) (o_READY : Addr) (o_OPTIONS : Addr) (o_SUPPORTED : Addr) (o_QUERY : Addr) (o_RESULT : Addr) (o_PREPARE : Addr) (o_EXECUTE : Addr) (o_REGISTER : Addr) (o_BATCH : Addr) (o_AUTH_RESPONSE : Addr) (kc_o__VALUES : ClassId) (h0 : Heap) (n0 : Nat) (Z0 : n0 ≤ h0.size) (O0 : Old Z n0 h0) (S__VALUES : Sta Z Z.heap "com/example/keyspace/keyspace/server/Opcode" "$VALUES" "[Lcom/example/keyspace/keyspace/server/Opcode;" (.ref o__VALUES)) (E_o__VALUES : Exa Z Z.heap o__VALUES "[Lcom/example/keyspace/keyspace/server/Opcode;") (S_ERROR : Sta Z Z.heap "com/example/keyspace/keyspace/server/Opcode" "ERROR" "Lcom/example/keyspace/keyspace/server/Opcode;" (.ref o_ERROR)) (E_o_ERROR : Exa Z Z.heap o_ERROR "com/example/keyspace/keyspace/server/Opcode") (S_STARTUP : Sta Z Z.heap "com/example/keyspace/keyspace/server/Opcode" "STARTUP" "Lcom/example/keyspace/keyspace/server/Opcode;" (.ref o_STARTUP)) (E_o_STARTUP : Exa Z Z.heap o_STARTUP "com/example/keyspace/keyspace/server/Opcode") (S_READY : Sta Z Z.heap "com/example/keyspace/keyspace/server/Opcode" "READY" "Lcom/example/keyspace/keyspace/server/Opcode;" (.ref o_READY)) (E_o_READY : Exa Z Z.heap o_READY "com/example/keyspace/keyspace/server/Opcode") (S_OPTIONS : Sta Z Z.heap "com/example/keyspace/keyspace/server/Opcode" "OPTIONS" "Lcom/example/keyspace/keyspace/server/Opcode;" (.ref o_OPTIONS)) (E_o_OPTIONS : Exa Z Z.heap o_OPTIONS "com/example/keyspace/keyspace/server/Opcode") (S_SUPPORTED : Sta Z Z.heap "com/example/keyspace/keyspace/server/Opcode" "SUPPORTED" "Lcom/example/keyspace/keyspace/server/Opcode;" (.ref o_SUPPORTED)) (E_o_SUPPORTED : Exa Z Z.heap o_SUPPORTED "com/example/keyspace/keyspace/server/Opcode") (S_QUERY : Sta Z Z.heap "com/example/keyspace/keyspace/server/Opcode" "QUERY" "Lcom/example/keyspace/keyspace/server/Opcode;" (.ref o_QUERY)) (E_o_QUERY : Exa Z Z.heap o_QUERY "com/example/keyspace/keyspace/server/Opcode") (S_RESULT : Sta Z Z.heap "com/example/keyspace/keyspace/server/Opcode" "RESULT" "Lcom/example/keyspace/keyspace/server/Opcode;" (.ref o_RESULT)) (E_o_RESULT : Exa Z Z.heap o_RESULT "com/example/keyspace/keyspace/server/Opcode") (S_PREPARE : Sta Z Z.heap "com/example/keyspace/keyspace/server/Opcode" "PREPARE" "Lcom/example/keyspace/keyspace/server/Opcode;" (.ref o_PREPARE)) (E_o_PREPARE : Exa Z Z.heap o_PREPARE "com/example/keyspace/keyspace/server/Opcode") (S_EXECUTE : Sta Z Z.heap "com/example/keyspace/keyspace/server/Opcode" "EXECUTE" "Lcom/example/keyspace/keyspace/server/Opcode;" (.ref o_EXECUTE)) (E_o_EXECUTE : Exa Z Z.heap o_EXECUTE "com/example/keyspace/keyspace/server/Opcode") (S_REGISTER : Sta Z Z.heap "com/example/keyspace/keyspace/server/Opcode" "REGISTER" "Lcom/example/keyspace/keyspace/server/Opcode;" (.ref o_REGISTER)) (E_o_REGISTER : Exa Z Z.heap o_REGISTER "com/example/keyspace/keyspace/server/Opcode") (S_BATCH : Sta Z Z.heap "com/example/keyspace/keyspace/server/Opcode" "BATCH" "Lcom/example/keyspace/keyspace/server/Opcode;" (.ref o_BATCH)) (E_o_BATCH : Exa Z Z.heap o_BATCH "com/example/keyspace/keyspace/server/Opcode") (S_AUTH_RESPONSE : Sta Z Z.heap "com/example/keyspace/keyspace/server/Opcode" "AUTH_RESPONSE" "Lcom/example/keyspace/keyspace/server/Opcode;" (.ref o_AUTH_RESPONSE)) (E_o_AUTH_RESPONSE : Exa Z Z.heap o_AUTH_RESPONSE "com/example/keyspace/keyspace/server/Opcode") (F_o_ERROR_code : Fld Z Z.heap o_ERROR "com/example/keyspace/keyspace/server/Opcode" "code" "I" (.int (0 : Int32))) (F_o_STARTUP_code : Fld Z Z.heap o_STARTUP "com/example/keyspace/keyspace/server/Opcode" "code" "I" (.int (1 : Int32))) (F_o_READY_code : Fld Z Z.heap o_READY "com/example/keyspace/keyspace/server/Opcode" "code" "I" (.int (2 : Int32))) (F_o_OPTIONS_code : Fld Z Z.heap o_OPTIONS "com/example/keyspace/keyspace/server/Opcode" "code" "I" (.int (5 : Int32))) (F_o_SUPPORTED_code : Fld Z Z.heap o_SUPPORTED "com/example/keyspace/keyspace/server/Opcode" "code" "I" (.int (6 : Int32))) (F_o_QUERY_code : Fld Z Z.heap o_QUERY "com/example/keyspace/keyspace/server/Opcode" "code" "I" (.int (7 : Int32))) (F_o_RESULT_code : Fld Z Z.heap o_RESULT "com/example/keyspace/keyspace/server/Opcode" "code" "I" (.int (8 : Int32))) (F_o_PREPARE_code : Fld Z Z.heap o_PREPARE "com/example/keyspace/keyspace/server/Opcode" "code" "I" (.int (9 : Int32))) (F_o_EXECUTE_code : Fld Z Z.heap o_EXECUTE "com/example/keyspace/keyspace/server/Opcode" "code" "I" (.int (10 : Int32))) (F_o_REGISTER_code : Fld Z Z.heap o_REGISTER "com/example/keyspace/keyspace/server/Opcode" "code" "I" (.int (11 : Int32))) (F_o_BATCH_code : Fld Z Z.heap o_BATCH "com/example/keyspace/keyspace/server/Opcode" "code" "I" (.int (13 : Int32))) (F_o_AUTH_RESPONSE_code : Fld Z Z.heap o_AUTH_RESPONSE "com/example/keyspace/keyspace/server/Opcode" "code" "I" (.int (15 : Int32))) (V_o__VALUES : Arv Z Z.heap o__VALUES kc_o__VALUES (.object "com/example/keyspace/keyspace/server/Opcode") (12 : Int32) [(.ref o_ERROR), (.ref o_STARTUP), (.ref o_READY), (.ref o_OPTIONS), (.ref o_SUPPORTED), (.ref o_QUERY), (.ref o_RESULT), (.ref o_PREPARE), (.ref o_EXECUTE), (.ref o_REGISTER), (.ref o_BATCH), (.ref o_AUTH_RESPONSE)] .null) :
    MetFree l (⟨"com/example/keyspace/keyspace/server/OpcodeOfPinLaw", "expected", "(I)Lcom/example/keyspace/keyspace/server/Opcode;"⟩ : MethodName) (head1 (Jvm.Cond.code (⟨"com/example/keyspace/keyspace/server/OpcodeOfPinLaw", "expected", "(I)Lcom/example/keyspace/keyspace/server/Opcode;"⟩ : MethodName) method_2_code 1 (some (.object "com/example/keyspace/keyspace/server/Opcode")) :: ws) ({ frames := 0, cells := 0, slots := 0, locals := 0 } : Room)) (fun a U => a = #[(.int p1)] ∧ Z.Warmed39 U.vm ∧ U.heap = h0) (fun _ _ _ _ _ => True) (fun _ U o U' => ∃ v L, o = .returned v ∧ Q_own_expected Z p1 o__VALUES o_ERROR o_STARTUP o_READY o_OPTIONS o_SUPPORTED o_QUERY o_RESULT o_PREPARE o_EXECUTE o_REGISTER o_BATCH o_AUTH_RESPONSE kc_o__VALUES h0 n0 v U'.heap L ∧ FrameEnd U o U' L ({ frames := 0, cells := 0, slots := 0, locals := 0 } : Room).cells ({ frames := 0, cells := 0, slots := 0, locals := 0 } : Room).slots) := by
  refine MetFree.of_bodySF (plainFor_of_name own_pn33) hisR ?_
  intro p e s m args below meth c s₁ Bd hml0 hP hK
  obtain ⟨rfl, hZ, hh⟩ := hP
  have hx := Bd.exec
  have hby := Bd.bytes
  have hml : c.maxLocals = 1 := hml0
  have hown : s.vm.findClass "com/example/keyspace/keyspace/server/OpcodeOfPinLaw" = some m.cls := findClass_of_methodNamed Bd.named
  have hnm := (name_of_methodNamed Bd.named Bd.method).1
  have X0 : Stand p l e ({ frames := 0, cells := 0, slots := 0, locals := 0 } : Room) s m #[(.int p1)] below meth c s₁ [] 0 0 := Stand.of_body Bd
  have e0 : s₁.heap = h0 := by rw [← hh, Bd.state]; rfl
  have N0 := Fr.nil n0
  have K0 := Keep.refl h0 []
  refine own_go (fun t k => castTop (own_ef32 m p1) k) ?_
  show OwnG p.tables e below _ (s₁.setTop (mkF m 0 #[.val (.int p1)] []))
  refine own_go (fun t k => XS.iloadN X0.here hx rfl (hb hby own_d34) rfl  k) ?_
  show OwnG p.tables e below _ (s₁.setTop (mkF m 1 #[.val (.int p1)] [(.int p1)]))
  by_cases hc1 : p1 = (0 : Int32)
  · refine own_go (fun t k => XS.ifNo X0.here hx rfl (hb hby own_d35) rfl ((if0 _ _).trans (teq hc1).2) k) ?_
    show OwnG p.tables e below _ (s₁.setTop (mkF m 4 #[.val (.int p1)] []))
    obtain ⟨T2, X2, e2, st2⟩ := getS2 X0 hx hZ hown (host := "") (Or.inl (hw _ (List.mem_of_getElem? (i := 37) rfl))) Via.refl e0 (S_ERROR.ext O0.2) (g := (mkF m 4 #[.val (.int p1)] [])) rfl (hb hby own_d36)
    refine own_go (fun t k => st2 t k) ?_
    show OwnG p.tables e below _ (T2.setTop (mkF m 7 #[.val (.int p1)] [(.ref o_ERROR)]))
    obtain ⟨fs, hr, hrun, hended, hW, hsame⟩ := X2.leave (v := some (.ref o_ERROR)) (fun h => by rw [Bd.returns] at h; cases h)
    have hlast : Steps p.tables e below (T2.setTop (mkF m 7 #[.val (.int p1)] [(.ref o_ERROR)])) (T2.setFrames fs) := by
      exact retOut X2 hx (t := (.object "com/example/keyspace/keyspace/server/Opcode")) Bd.returns rfl (Or.inr (Or.inr (Or.inr (Or.inr ⟨rfl, rfl, rfl⟩)))) (hb hby own_d37) hr
    refine ⟨_, _, hlast, hrun, hended, _, _, rfl, ?_, ⟨_, rfl⟩, hW, hsame.mono (by decide) (by decide)⟩
    show Q_own_expected Z p1 o__VALUES o_ERROR o_STARTUP o_READY o_OPTIONS o_SUPPORTED o_QUERY o_RESULT o_PREPARE o_EXECUTE o_REGISTER o_BATCH o_AUTH_RESPONSE kc_o__VALUES h0 n0 _ T2.heap _
    rw [e2]
    exact ⟨by simp [own_val, hc1], N0, rfl⟩
  · refine own_go (fun t k => XS.ifYes X0.here hx rfl (pc0 := 1) (pc' := 8) rfl (hb hby own_d35) rfl ((if0 _ _).trans (feq hc1).2) (by decide) (by decide) k) ?_
    show OwnG p.tables e below _ (s₁.setTop (mkF m 8 #[.val (.int p1)] []))
    refine own_go (fun t k => XS.iloadN X0.here hx rfl (hb hby own_d38) rfl  k) ?_
    show OwnG p.tables e below _ (s₁.setTop (mkF m 9 #[.val (.int p1)] [(.int p1)]))
    refine own_go (fun t k => XS.iconst X0.here hx rfl (hb hby own_d39) k) ?_
    show OwnG p.tables e below _ (s₁.setTop (mkF m 10 #[.val (.int p1)] [(.int (1 : Int32)), (.int p1)]))
    by_cases hc3 : p1 = (1 : Int32)
    · refine own_go (fun t k => XS.icmpNo X0.here hx rfl (hb hby own_d40) rfl (teq hc3).2 k) ?_
      show OwnG p.tables e below _ (s₁.setTop (mkF m 13 #[.val (.int p1)] []))
      obtain ⟨T4, X4, e4, st4⟩ := getS2 X0 hx hZ hown (host := "") (Or.inl (hw _ (List.mem_of_getElem? (i := 46) rfl))) Via.refl e0 (S_STARTUP.ext O0.2) (g := (mkF m 13 #[.val (.int p1)] [])) rfl (hb hby own_d41)
      refine own_go (fun t k => st4 t k) ?_
      show OwnG p.tables e below _ (T4.setTop (mkF m 16 #[.val (.int p1)] [(.ref o_STARTUP)]))
      obtain ⟨fs, hr, hrun, hended, hW, hsame⟩ := X4.leave (v := some (.ref o_STARTUP)) (fun h => by rw [Bd.returns] at h; cases h)
      have hlast : Steps p.tables e below (T4.setTop (mkF m 16 #[.val (.int p1)] [(.ref o_STARTUP)])) (T4.setFrames fs) := by
        exact retOut X4 hx (t := (.object "com/example/keyspace/keyspace/server/Opcode")) Bd.returns rfl (Or.inr (Or.inr (Or.inr (Or.inr ⟨rfl, rfl, rfl⟩)))) (hb hby own_d42) hr
      refine ⟨_, _, hlast, hrun, hended, _, _, rfl, ?_, ⟨_, rfl⟩, hW, hsame.mono (by decide) (by decide)⟩
      show Q_own_expected Z p1 o__VALUES o_ERROR o_STARTUP o_READY o_OPTIONS o_SUPPORTED o_QUERY o_RESULT o_PREPARE o_EXECUTE o_REGISTER o_BATCH o_AUTH_RESPONSE kc_o__VALUES h0 n0 _ T4.heap _
      rw [e4]
      exact ⟨by simp [own_val, hc1, hc3], N0, rfl⟩
    · refine own_go (fun t k => XS.icmpYes X0.here hx rfl (pc0 := 10) (pc' := 17) rfl (hb hby own_d40) rfl (feq hc3).2 (by decide) (by decide) k) ?_
      show OwnG p.tables e below _ (s₁.setTop (mkF m 17 #[.val (.int p1)] []))
      refine own_go (fun t k => XS.iloadN X0.here hx rfl (hb hby own_d43) rfl  k) ?_
      show OwnG p.tables e below _ (s₁.setTop (mkF m 18 #[.val (.int p1)] [(.int p1)]))
      refine own_go (fun t k => XS.iconst X0.here hx rfl (hb hby own_d44) k) ?_
      show OwnG p.tables e below _ (s₁.setTop (mkF m 19 #[.val (.int p1)] [(.int (2 : Int32)), (.int p1)]))
      by_cases hc5 : p1 = (2 : Int32)
      · refine own_go (fun t k => XS.icmpNo X0.here hx rfl (hb hby own_d45) rfl (teq hc5).2 k) ?_
        show OwnG p.tables e below _ (s₁.setTop (mkF m 22 #[.val (.int p1)] []))
        obtain ⟨T6, X6, e6, st6⟩ := getS2 X0 hx hZ hown (host := "") (Or.inl (hw _ (List.mem_of_getElem? (i := 47) rfl))) Via.refl e0 (S_READY.ext O0.2) (g := (mkF m 22 #[.val (.int p1)] [])) rfl (hb hby own_d46)
        refine own_go (fun t k => st6 t k) ?_
        show OwnG p.tables e below _ (T6.setTop (mkF m 25 #[.val (.int p1)] [(.ref o_READY)]))
        obtain ⟨fs, hr, hrun, hended, hW, hsame⟩ := X6.leave (v := some (.ref o_READY)) (fun h => by rw [Bd.returns] at h; cases h)
        have hlast : Steps p.tables e below (T6.setTop (mkF m 25 #[.val (.int p1)] [(.ref o_READY)])) (T6.setFrames fs) := by
          exact retOut X6 hx (t := (.object "com/example/keyspace/keyspace/server/Opcode")) Bd.returns rfl (Or.inr (Or.inr (Or.inr (Or.inr ⟨rfl, rfl, rfl⟩)))) (hb hby own_d47) hr
        refine ⟨_, _, hlast, hrun, hended, _, _, rfl, ?_, ⟨_, rfl⟩, hW, hsame.mono (by decide) (by decide)⟩
        show Q_own_expected Z p1 o__VALUES o_ERROR o_STARTUP o_READY o_OPTIONS o_SUPPORTED o_QUERY o_RESULT o_PREPARE o_EXECUTE o_REGISTER o_BATCH o_AUTH_RESPONSE kc_o__VALUES h0 n0 _ T6.heap _
        rw [e6]
        exact ⟨by simp [own_val, hc1, hc3, hc5], N0, rfl⟩
      · refine own_go (fun t k => XS.icmpYes X0.here hx rfl (pc0 := 19) (pc' := 26) rfl (hb hby own_d45) rfl (feq hc5).2 (by decide) (by decide) k) ?_
        show OwnG p.tables e below _ (s₁.setTop (mkF m 26 #[.val (.int p1)] []))
        refine own_go (fun t k => XS.iloadN X0.here hx rfl (hb hby own_d48) rfl  k) ?_
        show OwnG p.tables e below _ (s₁.setTop (mkF m 27 #[.val (.int p1)] [(.int p1)]))
        refine own_go (fun t k => XS.iconst X0.here hx rfl (hb hby own_d49) k) ?_
        show OwnG p.tables e below _ (s₁.setTop (mkF m 28 #[.val (.int p1)] [(.int (5 : Int32)), (.int p1)]))
        by_cases hc7 : p1 = (5 : Int32)
        · refine own_go (fun t k => XS.icmpNo X0.here hx rfl (hb hby own_d50) rfl (teq hc7).2 k) ?_
          show OwnG p.tables e below _ (s₁.setTop (mkF m 31 #[.val (.int p1)] []))
          obtain ⟨T8, X8, e8, st8⟩ := getS2 X0 hx hZ hown (host := "") (Or.inl (hw _ (List.mem_of_getElem? (i := 50) rfl))) Via.refl e0 (S_OPTIONS.ext O0.2) (g := (mkF m 31 #[.val (.int p1)] [])) rfl (hb hby own_d51)
          refine own_go (fun t k => st8 t k) ?_
          show OwnG p.tables e below _ (T8.setTop (mkF m 34 #[.val (.int p1)] [(.ref o_OPTIONS)]))
          obtain ⟨fs, hr, hrun, hended, hW, hsame⟩ := X8.leave (v := some (.ref o_OPTIONS)) (fun h => by rw [Bd.returns] at h; cases h)
          have hlast : Steps p.tables e below (T8.setTop (mkF m 34 #[.val (.int p1)] [(.ref o_OPTIONS)])) (T8.setFrames fs) := by
            exact retOut X8 hx (t := (.object "com/example/keyspace/keyspace/server/Opcode")) Bd.returns rfl (Or.inr (Or.inr (Or.inr (Or.inr ⟨rfl, rfl, rfl⟩)))) (hb hby own_d52) hr
          refine ⟨_, _, hlast, hrun, hended, _, _, rfl, ?_, ⟨_, rfl⟩, hW, hsame.mono (by decide) (by decide)⟩
          show Q_own_expected Z p1 o__VALUES o_ERROR o_STARTUP o_READY o_OPTIONS o_SUPPORTED o_QUERY o_RESULT o_PREPARE o_EXECUTE o_REGISTER o_BATCH o_AUTH_RESPONSE kc_o__VALUES h0 n0 _ T8.heap _
          rw [e8]
          exact ⟨by simp [own_val, hc1, hc3, hc5, hc7], N0, rfl⟩
        · refine own_go (fun t k => XS.icmpYes X0.here hx rfl (pc0 := 28) (pc' := 35) rfl (hb hby own_d50) rfl (feq hc7).2 (by decide) (by decide) k) ?_
          show OwnG p.tables e below _ (s₁.setTop (mkF m 35 #[.val (.int p1)] []))
          refine own_go (fun t k => XS.iloadN X0.here hx rfl (hb hby own_d53) rfl  k) ?_
          show OwnG p.tables e below _ (s₁.setTop (mkF m 36 #[.val (.int p1)] [(.int p1)]))
          refine own_go (fun t k => XS.bipush X0.here hx rfl (hb hby own_d54) k) ?_
          show OwnG p.tables e below _ (s₁.setTop (mkF m 38 #[.val (.int p1)] [(.int (6 : Int32)), (.int p1)]))
          by_cases hc9 : p1 = (6 : Int32)
          · refine own_go (fun t k => XS.icmpNo X0.here hx rfl (hb hby own_d55) rfl (teq hc9).2 k) ?_
            show OwnG p.tables e below _ (s₁.setTop (mkF m 41 #[.val (.int p1)] []))
            obtain ⟨T10, X10, e10, st10⟩ := getS2 X0 hx hZ hown (host := "") (Or.inl (hw _ (List.mem_of_getElem? (i := 44) rfl))) Via.refl e0 (S_SUPPORTED.ext O0.2) (g := (mkF m 41 #[.val (.int p1)] [])) rfl (hb hby own_d56)
            refine own_go (fun t k => st10 t k) ?_
            show OwnG p.tables e below _ (T10.setTop (mkF m 44 #[.val (.int p1)] [(.ref o_SUPPORTED)]))
            obtain ⟨fs, hr, hrun, hended, hW, hsame⟩ := X10.leave (v := some (.ref o_SUPPORTED)) (fun h => by rw [Bd.returns] at h; cases h)
            have hlast : Steps p.tables e below (T10.setTop (mkF m 44 #[.val (.int p1)] [(.ref o_SUPPORTED)])) (T10.setFrames fs) := by
              exact retOut X10 hx (t := (.object "com/example/keyspace/keyspace/server/Opcode")) Bd.returns rfl (Or.inr (Or.inr (Or.inr (Or.inr ⟨rfl, rfl, rfl⟩)))) (hb hby own_d57) hr
            refine ⟨_, _, hlast, hrun, hended, _, _, rfl, ?_, ⟨_, rfl⟩, hW, hsame.mono (by decide) (by decide)⟩
            show Q_own_expected Z p1 o__VALUES o_ERROR o_STARTUP o_READY o_OPTIONS o_SUPPORTED o_QUERY o_RESULT o_PREPARE o_EXECUTE o_REGISTER o_BATCH o_AUTH_RESPONSE kc_o__VALUES h0 n0 _ T10.heap _
            rw [e10]
            exact ⟨by simp [own_val, hc1, hc3, hc5, hc7, hc9], N0, rfl⟩
          · refine own_go (fun t k => XS.icmpYes X0.here hx rfl (pc0 := 38) (pc' := 45) rfl (hb hby own_d55) rfl (feq hc9).2 (by decide) (by decide) k) ?_
            show OwnG p.tables e below _ (s₁.setTop (mkF m 45 #[.val (.int p1)] []))
            refine own_go (fun t k => XS.iloadN X0.here hx rfl (hb hby own_d58) rfl  k) ?_
            show OwnG p.tables e below _ (s₁.setTop (mkF m 46 #[.val (.int p1)] [(.int p1)]))
            refine own_go (fun t k => XS.bipush X0.here hx rfl (hb hby own_d59) k) ?_
            show OwnG p.tables e below _ (s₁.setTop (mkF m 48 #[.val (.int p1)] [(.int (7 : Int32)), (.int p1)]))
            by_cases hc11 : p1 = (7 : Int32)
            · refine own_go (fun t k => XS.icmpNo X0.here hx rfl (hb hby own_d60) rfl (teq hc11).2 k) ?_
              show OwnG p.tables e below _ (s₁.setTop (mkF m 51 #[.val (.int p1)] []))
              obtain ⟨T12, X12, e12, st12⟩ := getS2 X0 hx hZ hown (host := "") (Or.inl (hw _ (List.mem_of_getElem? (i := 52) rfl))) Via.refl e0 (S_QUERY.ext O0.2) (g := (mkF m 51 #[.val (.int p1)] [])) rfl (hb hby own_d61)
              refine own_go (fun t k => st12 t k) ?_
              show OwnG p.tables e below _ (T12.setTop (mkF m 54 #[.val (.int p1)] [(.ref o_QUERY)]))
              obtain ⟨fs, hr, hrun, hended, hW, hsame⟩ := X12.leave (v := some (.ref o_QUERY)) (fun h => by rw [Bd.returns] at h; cases h)
              have hlast : Steps p.tables e below (T12.setTop (mkF m 54 #[.val (.int p1)] [(.ref o_QUERY)])) (T12.setFrames fs) := by
                exact retOut X12 hx (t := (.object "com/example/keyspace/keyspace/server/Opcode")) Bd.returns rfl (Or.inr (Or.inr (Or.inr (Or.inr ⟨rfl, rfl, rfl⟩)))) (hb hby own_d62) hr
              refine ⟨_, _, hlast, hrun, hended, _, _, rfl, ?_, ⟨_, rfl⟩, hW, hsame.mono (by decide) (by decide)⟩
              show Q_own_expected Z p1 o__VALUES o_ERROR o_STARTUP o_READY o_OPTIONS o_SUPPORTED o_QUERY o_RESULT o_PREPARE o_EXECUTE o_REGISTER o_BATCH o_AUTH_RESPONSE kc_o__VALUES h0 n0 _ T12.heap _
              rw [e12]
              exact ⟨by simp [own_val, hc1, hc3, hc5, hc7, hc9, hc11], N0, rfl⟩
            · refine own_go (fun t k => XS.icmpYes X0.here hx rfl (pc0 := 48) (pc' := 55) rfl (hb hby own_d60) rfl (feq hc11).2 (by decide) (by decide) k) ?_
              show OwnG p.tables e below _ (s₁.setTop (mkF m 55 #[.val (.int p1)] []))
              refine own_go (fun t k => XS.iloadN X0.here hx rfl (hb hby own_d63) rfl  k) ?_
              show OwnG p.tables e below _ (s₁.setTop (mkF m 56 #[.val (.int p1)] [(.int p1)]))
              refine own_go (fun t k => XS.bipush X0.here hx rfl (hb hby own_d64) k) ?_
              show OwnG p.tables e below _ (s₁.setTop (mkF m 58 #[.val (.int p1)] [(.int (8 : Int32)), (.int p1)]))
              by_cases hc13 : p1 = (8 : Int32)
              · refine own_go (fun t k => XS.icmpNo X0.here hx rfl (hb hby own_d65) rfl (teq hc13).2 k) ?_
                show OwnG p.tables e below _ (s₁.setTop (mkF m 61 #[.val (.int p1)] []))
                obtain ⟨T14, X14, e14, st14⟩ := getS2 X0 hx hZ hown (host := "") (Or.inl (hw _ (List.mem_of_getElem? (i := 45) rfl))) Via.refl e0 (S_RESULT.ext O0.2) (g := (mkF m 61 #[.val (.int p1)] [])) rfl (hb hby own_d66)
                refine own_go (fun t k => st14 t k) ?_
                show OwnG p.tables e below _ (T14.setTop (mkF m 64 #[.val (.int p1)] [(.ref o_RESULT)]))
                obtain ⟨fs, hr, hrun, hended, hW, hsame⟩ := X14.leave (v := some (.ref o_RESULT)) (fun h => by rw [Bd.returns] at h; cases h)
                have hlast : Steps p.tables e below (T14.setTop (mkF m 64 #[.val (.int p1)] [(.ref o_RESULT)])) (T14.setFrames fs) := by
                  exact retOut X14 hx (t := (.object "com/example/keyspace/keyspace/server/Opcode")) Bd.returns rfl (Or.inr (Or.inr (Or.inr (Or.inr ⟨rfl, rfl, rfl⟩)))) (hb hby own_d67) hr
                refine ⟨_, _, hlast, hrun, hended, _, _, rfl, ?_, ⟨_, rfl⟩, hW, hsame.mono (by decide) (by decide)⟩
                show Q_own_expected Z p1 o__VALUES o_ERROR o_STARTUP o_READY o_OPTIONS o_SUPPORTED o_QUERY o_RESULT o_PREPARE o_EXECUTE o_REGISTER o_BATCH o_AUTH_RESPONSE kc_o__VALUES h0 n0 _ T14.heap _
                rw [e14]
                exact ⟨by simp [own_val, hc1, hc3, hc5, hc7, hc9, hc11, hc13], N0, rfl⟩
              · refine own_go (fun t k => XS.icmpYes X0.here hx rfl (pc0 := 58) (pc' := 65) rfl (hb hby own_d65) rfl (feq hc13).2 (by decide) (by decide) k) ?_
                show OwnG p.tables e below _ (s₁.setTop (mkF m 65 #[.val (.int p1)] []))
                refine own_go (fun t k => XS.iloadN X0.here hx rfl (hb hby own_d68) rfl  k) ?_
                show OwnG p.tables e below _ (s₁.setTop (mkF m 66 #[.val (.int p1)] [(.int p1)]))
                refine own_go (fun t k => XS.bipush X0.here hx rfl (hb hby own_d69) k) ?_
                show OwnG p.tables e below _ (s₁.setTop (mkF m 68 #[.val (.int p1)] [(.int (9 : Int32)), (.int p1)]))
                by_cases hc15 : p1 = (9 : Int32)
                · refine own_go (fun t k => XS.icmpNo X0.here hx rfl (hb hby own_d70) rfl (teq hc15).2 k) ?_
                  show OwnG p.tables e below _ (s₁.setTop (mkF m 71 #[.val (.int p1)] []))
                  obtain ⟨T16, X16, e16, st16⟩ := getS2 X0 hx hZ hown (host := "") (Or.inl (hw _ (List.mem_of_getElem? (i := 51) rfl))) Via.refl e0 (S_PREPARE.ext O0.2) (g := (mkF m 71 #[.val (.int p1)] [])) rfl (hb hby own_d71)
                  refine own_go (fun t k => st16 t k) ?_
                  show OwnG p.tables e below _ (T16.setTop (mkF m 74 #[.val (.int p1)] [(.ref o_PREPARE)]))
                  obtain ⟨fs, hr, hrun, hended, hW, hsame⟩ := X16.leave (v := some (.ref o_PREPARE)) (fun h => by rw [Bd.returns] at h; cases h)
                  have hlast : Steps p.tables e below (T16.setTop (mkF m 74 #[.val (.int p1)] [(.ref o_PREPARE)])) (T16.setFrames fs) := by
                    exact retOut X16 hx (t := (.object "com/example/keyspace/keyspace/server/Opcode")) Bd.returns rfl (Or.inr (Or.inr (Or.inr (Or.inr ⟨rfl, rfl, rfl⟩)))) (hb hby own_d72) hr
                  refine ⟨_, _, hlast, hrun, hended, _, _, rfl, ?_, ⟨_, rfl⟩, hW, hsame.mono (by decide) (by decide)⟩
                  show Q_own_expected Z p1 o__VALUES o_ERROR o_STARTUP o_READY o_OPTIONS o_SUPPORTED o_QUERY o_RESULT o_PREPARE o_EXECUTE o_REGISTER o_BATCH o_AUTH_RESPONSE kc_o__VALUES h0 n0 _ T16.heap _
                  rw [e16]
                  exact ⟨by simp [own_val, hc1, hc3, hc5, hc7, hc9, hc11, hc13, hc15], N0, rfl⟩
                · refine own_go (fun t k => XS.icmpYes X0.here hx rfl (pc0 := 68) (pc' := 75) rfl (hb hby own_d70) rfl (feq hc15).2 (by decide) (by decide) k) ?_
                  show OwnG p.tables e below _ (s₁.setTop (mkF m 75 #[.val (.int p1)] []))
                  refine own_go (fun t k => XS.iloadN X0.here hx rfl (hb hby own_d73) rfl  k) ?_
                  show OwnG p.tables e below _ (s₁.setTop (mkF m 76 #[.val (.int p1)] [(.int p1)]))
                  refine own_go (fun t k => XS.bipush X0.here hx rfl (hb hby own_d74) k) ?_
                  show OwnG p.tables e below _ (s₁.setTop (mkF m 78 #[.val (.int p1)] [(.int (10 : Int32)), (.int p1)]))
                  by_cases hc17 : p1 = (10 : Int32)
                  · refine own_go (fun t k => XS.icmpNo X0.here hx rfl (hb hby own_d75) rfl (teq hc17).2 k) ?_
                    show OwnG p.tables e below _ (s₁.setTop (mkF m 81 #[.val (.int p1)] []))
                    obtain ⟨T18, X18, e18, st18⟩ := getS2 X0 hx hZ hown (host := "") (Or.inl (hw _ (List.mem_of_getElem? (i := 48) rfl))) Via.refl e0 (S_EXECUTE.ext O0.2) (g := (mkF m 81 #[.val (.int p1)] [])) rfl (hb hby own_d76)
                    refine own_go (fun t k => st18 t k) ?_
                    show OwnG p.tables e below _ (T18.setTop (mkF m 84 #[.val (.int p1)] [(.ref o_EXECUTE)]))
                    obtain ⟨fs, hr, hrun, hended, hW, hsame⟩ := X18.leave (v := some (.ref o_EXECUTE)) (fun h => by rw [Bd.returns] at h; cases h)
                    have hlast : Steps p.tables e below (T18.setTop (mkF m 84 #[.val (.int p1)] [(.ref o_EXECUTE)])) (T18.setFrames fs) := by
                      exact retOut X18 hx (t := (.object "com/example/keyspace/keyspace/server/Opcode")) Bd.returns rfl (Or.inr (Or.inr (Or.inr (Or.inr ⟨rfl, rfl, rfl⟩)))) (hb hby own_d77) hr
                    refine ⟨_, _, hlast, hrun, hended, _, _, rfl, ?_, ⟨_, rfl⟩, hW, hsame.mono (by decide) (by decide)⟩
                    show Q_own_expected Z p1 o__VALUES o_ERROR o_STARTUP o_READY o_OPTIONS o_SUPPORTED o_QUERY o_RESULT o_PREPARE o_EXECUTE o_REGISTER o_BATCH o_AUTH_RESPONSE kc_o__VALUES h0 n0 _ T18.heap _
                    rw [e18]
                    exact ⟨by simp [own_val, hc1, hc3, hc5, hc7, hc9, hc11, hc13, hc15, hc17], N0, rfl⟩
                  · refine own_go (fun t k => XS.icmpYes X0.here hx rfl (pc0 := 78) (pc' := 85) rfl (hb hby own_d75) rfl (feq hc17).2 (by decide) (by decide) k) ?_
                    show OwnG p.tables e below _ (s₁.setTop (mkF m 85 #[.val (.int p1)] []))
                    refine own_go (fun t k => XS.iloadN X0.here hx rfl (hb hby own_d78) rfl  k) ?_
                    show OwnG p.tables e below _ (s₁.setTop (mkF m 86 #[.val (.int p1)] [(.int p1)]))
                    refine own_go (fun t k => XS.bipush X0.here hx rfl (hb hby own_d79) k) ?_
                    show OwnG p.tables e below _ (s₁.setTop (mkF m 88 #[.val (.int p1)] [(.int (11 : Int32)), (.int p1)]))
                    by_cases hc19 : p1 = (11 : Int32)
                    · refine own_go (fun t k => XS.icmpNo X0.here hx rfl (hb hby own_d80) rfl (teq hc19).2 k) ?_
                      show OwnG p.tables e below _ (s₁.setTop (mkF m 91 #[.val (.int p1)] []))
                      obtain ⟨T20, X20, e20, st20⟩ := getS2 X0 hx hZ hown (host := "") (Or.inl (hw _ (List.mem_of_getElem? (i := 49) rfl))) Via.refl e0 (S_REGISTER.ext O0.2) (g := (mkF m 91 #[.val (.int p1)] [])) rfl (hb hby own_d81)
                      refine own_go (fun t k => st20 t k) ?_
                      show OwnG p.tables e below _ (T20.setTop (mkF m 94 #[.val (.int p1)] [(.ref o_REGISTER)]))
                      obtain ⟨fs, hr, hrun, hended, hW, hsame⟩ := X20.leave (v := some (.ref o_REGISTER)) (fun h => by rw [Bd.returns] at h; cases h)
                      have hlast : Steps p.tables e below (T20.setTop (mkF m 94 #[.val (.int p1)] [(.ref o_REGISTER)])) (T20.setFrames fs) := by
                        exact retOut X20 hx (t := (.object "com/example/keyspace/keyspace/server/Opcode")) Bd.returns rfl (Or.inr (Or.inr (Or.inr (Or.inr ⟨rfl, rfl, rfl⟩)))) (hb hby own_d82) hr
                      refine ⟨_, _, hlast, hrun, hended, _, _, rfl, ?_, ⟨_, rfl⟩, hW, hsame.mono (by decide) (by decide)⟩
                      show Q_own_expected Z p1 o__VALUES o_ERROR o_STARTUP o_READY o_OPTIONS o_SUPPORTED o_QUERY o_RESULT o_PREPARE o_EXECUTE o_REGISTER o_BATCH o_AUTH_RESPONSE kc_o__VALUES h0 n0 _ T20.heap _
                      rw [e20]
                      exact ⟨by simp [own_val, hc1, hc3, hc5, hc7, hc9, hc11, hc13, hc15, hc17, hc19], N0, rfl⟩
                    · refine own_go (fun t k => XS.icmpYes X0.here hx rfl (pc0 := 88) (pc' := 95) rfl (hb hby own_d80) rfl (feq hc19).2 (by decide) (by decide) k) ?_
                      show OwnG p.tables e below _ (s₁.setTop (mkF m 95 #[.val (.int p1)] []))
                      refine own_go (fun t k => XS.iloadN X0.here hx rfl (hb hby own_d83) rfl  k) ?_
                      show OwnG p.tables e below _ (s₁.setTop (mkF m 96 #[.val (.int p1)] [(.int p1)]))
                      refine own_go (fun t k => XS.bipush X0.here hx rfl (hb hby own_d84) k) ?_
                      show OwnG p.tables e below _ (s₁.setTop (mkF m 98 #[.val (.int p1)] [(.int (13 : Int32)), (.int p1)]))
                      by_cases hc21 : p1 = (13 : Int32)
                      · refine own_go (fun t k => XS.icmpNo X0.here hx rfl (hb hby own_d85) rfl (teq hc21).2 k) ?_
                        show OwnG p.tables e below _ (s₁.setTop (mkF m 101 #[.val (.int p1)] []))
                        obtain ⟨T22, X22, e22, st22⟩ := getS2 X0 hx hZ hown (host := "") (Or.inl (hw _ (List.mem_of_getElem? (i := 43) rfl))) Via.refl e0 (S_BATCH.ext O0.2) (g := (mkF m 101 #[.val (.int p1)] [])) rfl (hb hby own_d86)
                        refine own_go (fun t k => st22 t k) ?_
                        show OwnG p.tables e below _ (T22.setTop (mkF m 104 #[.val (.int p1)] [(.ref o_BATCH)]))
                        obtain ⟨fs, hr, hrun, hended, hW, hsame⟩ := X22.leave (v := some (.ref o_BATCH)) (fun h => by rw [Bd.returns] at h; cases h)
                        have hlast : Steps p.tables e below (T22.setTop (mkF m 104 #[.val (.int p1)] [(.ref o_BATCH)])) (T22.setFrames fs) := by
                          exact retOut X22 hx (t := (.object "com/example/keyspace/keyspace/server/Opcode")) Bd.returns rfl (Or.inr (Or.inr (Or.inr (Or.inr ⟨rfl, rfl, rfl⟩)))) (hb hby own_d87) hr
                        refine ⟨_, _, hlast, hrun, hended, _, _, rfl, ?_, ⟨_, rfl⟩, hW, hsame.mono (by decide) (by decide)⟩
                        show Q_own_expected Z p1 o__VALUES o_ERROR o_STARTUP o_READY o_OPTIONS o_SUPPORTED o_QUERY o_RESULT o_PREPARE o_EXECUTE o_REGISTER o_BATCH o_AUTH_RESPONSE kc_o__VALUES h0 n0 _ T22.heap _
                        rw [e22]
                        exact ⟨by simp [own_val, hc1, hc3, hc5, hc7, hc9, hc11, hc13, hc15, hc17, hc19, hc21], N0, rfl⟩
                      · refine own_go (fun t k => XS.icmpYes X0.here hx rfl (pc0 := 98) (pc' := 105) rfl (hb hby own_d85) rfl (feq hc21).2 (by decide) (by decide) k) ?_
                        show OwnG p.tables e below _ (s₁.setTop (mkF m 105 #[.val (.int p1)] []))
                        refine own_go (fun t k => XS.iloadN X0.here hx rfl (hb hby own_d88) rfl  k) ?_
                        show OwnG p.tables e below _ (s₁.setTop (mkF m 106 #[.val (.int p1)] [(.int p1)]))
                        refine own_go (fun t k => XS.bipush X0.here hx rfl (hb hby own_d89) k) ?_
                        show OwnG p.tables e below _ (s₁.setTop (mkF m 108 #[.val (.int p1)] [(.int (15 : Int32)), (.int p1)]))
                        by_cases hc23 : p1 = (15 : Int32)
                        · refine own_go (fun t k => XS.icmpNo X0.here hx rfl (hb hby own_d90) rfl (teq hc23).2 k) ?_
                          show OwnG p.tables e below _ (s₁.setTop (mkF m 111 #[.val (.int p1)] []))
                          obtain ⟨T24, X24, e24, st24⟩ := getS2 X0 hx hZ hown (host := "") (Or.inl (hw _ (List.mem_of_getElem? (i := 53) rfl))) Via.refl e0 (S_AUTH_RESPONSE.ext O0.2) (g := (mkF m 111 #[.val (.int p1)] [])) rfl (hb hby own_d91)
                          refine own_go (fun t k => st24 t k) ?_
                          show OwnG p.tables e below _ (T24.setTop (mkF m 114 #[.val (.int p1)] [(.ref o_AUTH_RESPONSE)]))
                          obtain ⟨fs, hr, hrun, hended, hW, hsame⟩ := X24.leave (v := some (.ref o_AUTH_RESPONSE)) (fun h => by rw [Bd.returns] at h; cases h)
                          have hlast : Steps p.tables e below (T24.setTop (mkF m 114 #[.val (.int p1)] [(.ref o_AUTH_RESPONSE)])) (T24.setFrames fs) := by
                            exact retOut X24 hx (t := (.object "com/example/keyspace/keyspace/server/Opcode")) Bd.returns rfl (Or.inr (Or.inr (Or.inr (Or.inr ⟨rfl, rfl, rfl⟩)))) (hb hby own_d92) hr
                          refine ⟨_, _, hlast, hrun, hended, _, _, rfl, ?_, ⟨_, rfl⟩, hW, hsame.mono (by decide) (by decide)⟩
                          show Q_own_expected Z p1 o__VALUES o_ERROR o_STARTUP o_READY o_OPTIONS o_SUPPORTED o_QUERY o_RESULT o_PREPARE o_EXECUTE o_REGISTER o_BATCH o_AUTH_RESPONSE kc_o__VALUES h0 n0 _ T24.heap _
                          rw [e24]
                          exact ⟨by simp [own_val, hc1, hc3, hc5, hc7, hc9, hc11, hc13, hc15, hc17, hc19, hc21, hc23], N0, rfl⟩
                        · refine own_go (fun t k => XS.icmpYes X0.here hx rfl (pc0 := 108) (pc' := 115) rfl (hb hby own_d90) rfl (feq hc23).2 (by decide) (by decide) k) ?_
                          show OwnG p.tables e below _ (s₁.setTop (mkF m 115 #[.val (.int p1)] []))
                          refine own_go (fun t k => XS.aconstNull X0.here hx rfl (hb hby own_d93) k) ?_
                          show OwnG p.tables e below _ (s₁.setTop (mkF m 116 #[.val (.int p1)] [.null]))
                          obtain ⟨fs, hr, hrun, hended, hW, hsame⟩ := X0.leave (v := some .null) (fun h => by rw [Bd.returns] at h; cases h)
                          have hlast : Steps p.tables e below (s₁.setTop (mkF m 116 #[.val (.int p1)] [.null])) (s₁.setFrames fs) := by
                            exact retOut X0 hx (t := (.object "com/example/keyspace/keyspace/server/Opcode")) Bd.returns rfl (Or.inr (Or.inr (Or.inr (Or.inr ⟨rfl, rfl, rfl⟩)))) (hb hby own_d94) hr
                          refine ⟨_, _, hlast, hrun, hended, _, _, rfl, ?_, ⟨_, rfl⟩, hW, hsame.mono (by decide) (by decide)⟩
                          show Q_own_expected Z p1 o__VALUES o_ERROR o_STARTUP o_READY o_OPTIONS o_SUPPORTED o_QUERY o_RESULT o_PREPARE o_EXECUTE o_REGISTER o_BATCH o_AUTH_RESPONSE kc_o__VALUES h0 n0 _ s₁.heap _
                          rw [e0]
                          exact ⟨by simp [own_val, hc1, hc3, hc5, hc7, hc9, hc11, hc13, hc15, hc17, hc19, hc21, hc23], N0, rfl⟩
theorem own_ef95 (m : MethodId) (a1 : Addr) : entryFrame m #[(.ref a1)] 1 = mkF m 0 #[.val (.ref a1)] [] := by first | (simp [entryFrame, mkF, argsToLocals, Value.category]; done) | rfl
theorem own_d96 : decode prog_150_method_4_code 0 = .ok (.aload_n 0, 1) := by decide +kernel
theorem own_d97 : decode prog_150_method_4_code 1 = .ok (.getfield 59, 3) := by decide +kernel
theorem own_d98 : decode prog_150_method_4_code 4 = .ok (.ireturn, 1) := by decide +kernel
def Q_own_code (Z : State) (a1 : Addr) (v1 : Int32) (h0 : Heap) (n0 : Nat) (v : Option Value) (h : Heap) (L : List Loc) : Prop := v = some (.int v1) ∧ Fr n0 L ∧ h = h0
set_option maxRecDepth 65536 in
set_option maxHeartbeats 40000000 in
theorem own_code (l : Launch) (Z : State) (a0 : Array Value) (hw : ∀ d ∈ tables_1, d.before a0 Z = true) (ws : List Jvm.Cond) (a1 : Addr) (v1 : Int32) (h0 : Heap) (n0 : Nat) (Z0 : n0 ≤ h0.size) (f0_0 : Fld Z h0 a1 "com/example/keyspace/keyspace/server/Opcode" "code" "I" (.int v1)) :
    MetFree l (⟨"com/example/keyspace/keyspace/server/Opcode", "code", "()I"⟩ : MethodName) (head1 (Jvm.Cond.code (⟨"com/example/keyspace/keyspace/server/Opcode", "code", "()I"⟩ : MethodName) prog_150_method_4_code 1 (some .int) :: ws) ({ frames := 0, cells := 0, slots := 0, locals := 0 } : Room)) (fun a U => a = #[(.ref a1)] ∧ Z.Warmed39 U.vm ∧ U.heap = h0) (fun _ _ _ _ _ => True) (fun _ U o U' => ∃ v L, o = .returned v ∧ Q_own_code Z a1 v1 h0 n0 v U'.heap L ∧ FrameEnd U o U' L ({ frames := 0, cells := 0, slots := 0, locals := 0 } : Room).cells ({ frames := 0, cells := 0, slots := 0, locals := 0 } : Room).slots) := by
  refine MetFree.of_bodySF (plainFor_of_name own_pn1) hisR ?_
  intro p e s m args below meth c s₁ Bd hml0 hP hK
  obtain ⟨rfl, hZ, hh⟩ := hP
  have hx := Bd.exec
  have hby := Bd.bytes
  have hml : c.maxLocals = 1 := hml0
  have hown : s.vm.findClass "com/example/keyspace/keyspace/server/Opcode" = some m.cls := findClass_of_methodNamed Bd.named
  have hnm := (name_of_methodNamed Bd.named Bd.method).1
  have X0 : Stand p l e ({ frames := 0, cells := 0, slots := 0, locals := 0 } : Room) s m #[(.ref a1)] below meth c s₁ [] 0 0 := Stand.of_body Bd
  have e0 : s₁.heap = h0 := by rw [← hh, Bd.state]; rfl
  have N0 := Fr.nil n0
  have K0 := Keep.refl h0 []
  refine own_go (fun t k => castTop (own_ef95 m a1) k) ?_
  show OwnG p.tables e below _ (s₁.setTop (mkF m 0 #[.val (.ref a1)] []))
  refine own_go (fun t k => XS.aloadN X0.here hx rfl (hb hby own_d96) rfl rfl k) ?_
  show OwnG p.tables e below _ (s₁.setTop (mkF m 1 #[.val (.ref a1)] [(.ref a1)]))
  obtain ⟨T1, X1, e1, st1⟩ := getF X0 hx hZ hown (host := "") (Or.inl (hw _ (List.mem_of_getElem? (i := 31) rfl))) Via.refl e0 f0_0 (g := (mkF m 1 #[.val (.ref a1)] [(.ref a1)])) rfl rfl (hb hby own_d97)
  refine own_go (fun t k => st1 t k) ?_
  show OwnG p.tables e below _ (T1.setTop (mkF m 4 #[.val (.ref a1)] [(.int v1)]))
  obtain ⟨fs, hr, hrun, hended, hW, hsame⟩ := X1.leave (v := some (.int v1)) (fun h => by rw [Bd.returns] at h; cases h)
  refine ⟨_, _, retI X1 hx Bd.returns (hb hby own_d98) hr, hrun, hended, _, _, rfl, ?_, ⟨_, rfl⟩, hW, hsame.mono (by decide) (by decide)⟩
  show Q_own_code Z a1 v1 h0 n0 _ T1.heap _
  rw [e1]
  exact ⟨rfl, N0, rfl⟩
theorem own_ef99 (m : MethodId) (p0 : Int32) (p1 : Int32) : entryFrame m #[(.int p0), (.int p1)] maxLocals = mkF m 0 #[.val (.int p0), .val (.int p1), .unset, .unset, .unset] [] := by first | (simp [entryFrame, mkF, argsToLocals, Value.category, maxLocals]; done) | rfl
theorem own_pd100 : parseMethodDescriptor "(I)Lcom/example/keyspace/keyspace/server/Opcode;" = some ⟨[.int], some (.object "com/example/keyspace/keyspace/server/Opcode")⟩ := by decide +kernel
theorem own_pd101 : parseMethodDescriptor "()I" = some ⟨[], some .int⟩ := by decide +kernel
def Q_own_law (Z : State) (p0 : Int32) (p1 : Int32) (o__VALUES : Addr) (o_ERROR : Addr) (o_STARTUP : Addr) (o_READY : Addr) (o_OPTIONS : Addr) (o_SUPPORTED : Addr) (o_QUERY : Addr) (o_RESULT : Addr) (o_PREPARE : Addr) (o_EXECUTE : Addr) (o_REGISTER : Addr) (o_BATCH : Addr) (o_AUTH_RESPONSE : Addr) (kc_o__VALUES : ClassId) (h0 : Heap) (n0 : Nat) (v : Option Value) (h : Heap) (L : List Loc) : Prop := v = some (.int (1 : Int32)) ∧ Fr n0 L
set_option maxRecDepth 65536 in
set_option maxHeartbeats 40000000 in
theorem own_law (l : Launch) (Z : State) (a0 : Array Value) (hw : ∀ d ∈ tables_1, d.before a0 Z = true) (ws : List Jvm.Cond) (p0 : Int32) (p1 : Int32) (o__VALUES : Addr) (o_ERROR : Addr) (o_STARTUP : Addr) (o_READY : Addr) (o_OPTIONS : Addr) (o_SUPPORTED : Addr) (o_QUERY : Addr) (o_RESULT : Addr) (o_PREPARE : Addr) (o_EXECUTE : Addr) (o_REGISTER : Addr) (o_BATCH : Addr) (o_AUTH_RESPONSE : Addr) (kc_o__VALUES : ClassId) (h0 : Heap) (n0 : Nat) (Z0 : n0 ≤ h0.size) (O0 : Old Z n0 h0) (S__VALUES : Sta Z Z.heap "com/example/keyspace/keyspace/server/Opcode" "$VALUES" "[Lcom/example/keyspace/keyspace/server/Opcode;" (.ref o__VALUES)) (E_o__VALUES : Exa Z Z.heap o__VALUES "[Lcom/example/keyspace/keyspace/server/Opcode;") (S_ERROR : Sta Z Z.heap "com/example/keyspace/keyspace/server/Opcode" "ERROR" "Lcom/example/keyspace/keyspace/server/Opcode;" (.ref o_ERROR)) (E_o_ERROR : Exa Z Z.heap o_ERROR "com/example/keyspace/keyspace/server/Opcode") (S_STARTUP : Sta Z Z.heap "com/example/keyspace/keyspace/server/Opcode" "STARTUP" "Lcom/example/keyspace/keyspace/server/Opcode;" (.ref o_STARTUP)) (E_o_STARTUP : Exa Z Z.heap o_STARTUP "com/example/keyspace/keyspace/server/Opcode") (S_READY : Sta Z Z.heap "com/example/keyspace/keyspace/server/Opcode" "READY" "Lcom/example/keyspace/keyspace/server/Opcode;" (.ref o_READY)) (E_o_READY : Exa Z Z.heap o_READY "com/example/keyspace/keyspace/server/Opcode") (S_OPTIONS : Sta Z Z.heap "com/example/keyspace/keyspace/server/Opcode" "OPTIONS" "Lcom/example/keyspace/keyspace/server/Opcode;" (.ref o_OPTIONS)) (E_o_OPTIONS : Exa Z Z.heap o_OPTIONS "com/example/keyspace/keyspace/server/Opcode") (S_SUPPORTED : Sta Z Z.heap "com/example/keyspace/keyspace/server/Opcode" "SUPPORTED" "Lcom/example/keyspace/keyspace/server/Opcode;" (.ref o_SUPPORTED)) (E_o_SUPPORTED : Exa Z Z.heap o_SUPPORTED "com/example/keyspace/keyspace/server/Opcode") (S_QUERY : Sta Z Z.heap "com/example/keyspace/keyspace/server/Opcode" "QUERY" "Lcom/example/keyspace/keyspace/server/Opcode;" (.ref o_QUERY)) (E_o_QUERY : Exa Z Z.heap o_QUERY "com/example/keyspace/keyspace/server/Opcode") (S_RESULT : Sta Z Z.heap "com/example/keyspace/keyspace/server/Opcode" "RESULT" "Lcom/example/keyspace/keyspace/server/Opcode;" (.ref o_RESULT)) (E_o_RESULT : Exa Z Z.heap o_RESULT "com/example/keyspace/keyspace/server/Opcode") (S_PREPARE : Sta Z Z.heap "com/example/keyspace/keyspace/server/Opcode" "PREPARE" "Lcom/example/keyspace/keyspace/server/Opcode;" (.ref o_PREPARE)) (E_o_PREPARE : Exa Z Z.heap o_PREPARE "com/example/keyspace/keyspace/server/Opcode") (S_EXECUTE : Sta Z Z.heap "com/example/keyspace/keyspace/server/Opcode" "EXECUTE" "Lcom/example/keyspace/keyspace/server/Opcode;" (.ref o_EXECUTE)) (E_o_EXECUTE : Exa Z Z.heap o_EXECUTE "com/example/keyspace/keyspace/server/Opcode") (S_REGISTER : Sta Z Z.heap "com/example/keyspace/keyspace/server/Opcode" "REGISTER" "Lcom/example/keyspace/keyspace/server/Opcode;" (.ref o_REGISTER)) (E_o_REGISTER : Exa Z Z.heap o_REGISTER "com/example/keyspace/keyspace/server/Opcode") (S_BATCH : Sta Z Z.heap "com/example/keyspace/keyspace/server/Opcode" "BATCH" "Lcom/example/keyspace/keyspace/server/Opcode;" (.ref o_BATCH)) (E_o_BATCH : Exa Z Z.heap o_BATCH "com/example/keyspace/keyspace/server/Opcode") (S_AUTH_RESPONSE : Sta Z Z.heap "com/example/keyspace/keyspace/server/Opcode" "AUTH_RESPONSE" "Lcom/example/keyspace/keyspace/server/Opcode;" (.ref o_AUTH_RESPONSE)) (E_o_AUTH_RESPONSE : Exa Z Z.heap o_AUTH_RESPONSE "com/example/keyspace/keyspace/server/Opcode") (F_o_ERROR_code : Fld Z Z.heap o_ERROR "com/example/keyspace/keyspace/server/Opcode" "code" "I" (.int (0 : Int32))) (F_o_STARTUP_code : Fld Z Z.heap o_STARTUP "com/example/keyspace/keyspace/server/Opcode" "code" "I" (.int (1 : Int32))) (F_o_READY_code : Fld Z Z.heap o_READY "com/example/keyspace/keyspace/server/Opcode" "code" "I" (.int (2 : Int32))) (F_o_OPTIONS_code : Fld Z Z.heap o_OPTIONS "com/example/keyspace/keyspace/server/Opcode" "code" "I" (.int (5 : Int32))) (F_o_SUPPORTED_code : Fld Z Z.heap o_SUPPORTED "com/example/keyspace/keyspace/server/Opcode" "code" "I" (.int (6 : Int32))) (F_o_QUERY_code : Fld Z Z.heap o_QUERY "com/example/keyspace/keyspace/server/Opcode" "code" "I" (.int (7 : Int32))) (F_o_RESULT_code : Fld Z Z.heap o_RESULT "com/example/keyspace/keyspace/server/Opcode" "code" "I" (.int (8 : Int32))) (F_o_PREPARE_code : Fld Z Z.heap o_PREPARE "com/example/keyspace/keyspace/server/Opcode" "code" "I" (.int (9 : Int32))) (F_o_EXECUTE_code : Fld Z Z.heap o_EXECUTE "com/example/keyspace/keyspace/server/Opcode" "code" "I" (.int (10 : Int32))) (F_o_REGISTER_code : Fld Z Z.heap o_REGISTER "com/example/keyspace/keyspace/server/Opcode" "code" "I" (.int (11 : Int32))) (F_o_BATCH_code : Fld Z Z.heap o_BATCH "com/example/keyspace/keyspace/server/Opcode" "code" "I" (.int (13 : Int32))) (F_o_AUTH_RESPONSE_code : Fld Z Z.heap o_AUTH_RESPONSE "com/example/keyspace/keyspace/server/Opcode" "code" "I" (.int (15 : Int32))) (V_o__VALUES : Arv Z Z.heap o__VALUES kc_o__VALUES (.object "com/example/keyspace/keyspace/server/Opcode") (12 : Int32) [(.ref o_ERROR), (.ref o_STARTUP), (.ref o_READY), (.ref o_OPTIONS), (.ref o_SUPPORTED), (.ref o_QUERY), (.ref o_RESULT), (.ref o_PREPARE), (.ref o_EXECUTE), (.ref o_REGISTER), (.ref o_BATCH), (.ref o_AUTH_RESPONSE)] .null) :
    MetFree l x (head1 (Jvm.Cond.code x code maxLocals ret :: ws) room_1) (fun a U => a = #[(.int p0), (.int p1)] ∧ Z.Warmed39 U.vm ∧ U.heap = h0) (fun _ _ _ _ _ => True) (fun _ U o U' => ∃ v L, o = .returned v ∧ Q_own_law Z p0 p1 o__VALUES o_ERROR o_STARTUP o_READY o_OPTIONS o_SUPPORTED o_QUERY o_RESULT o_PREPARE o_EXECUTE o_REGISTER o_BATCH o_AUTH_RESPONSE kc_o__VALUES h0 n0 v U'.heap L ∧ FrameEnd U o U' L room_1.cells room_1.slots) := by
  refine MetFree.of_bodySF (plainFor_of_name own_pn33) hisR ?_
  intro p e s m args below meth c s₁ Bd hml0 hP hK
  obtain ⟨rfl, hZ, hh⟩ := hP
  have hx := Bd.exec
  have hby := Bd.bytes
  have hml : c.maxLocals = 5 := hml0
  have hown : s.vm.findClass "com/example/keyspace/keyspace/server/OpcodeOfPinLaw" = some m.cls := findClass_of_methodNamed Bd.named
  have hnm := (name_of_methodNamed Bd.named Bd.method).1
  have X0 : Stand p l e room_1 s m #[(.int p0), (.int p1)] below meth c s₁ [] 0 0 := Stand.of_body Bd
  have e0 : s₁.heap = h0 := by rw [← hh, Bd.state]; rfl
  have N0 := Fr.nil n0
  have K0 := Keep.refl h0 []
  refine own_go (fun t k => castTop (own_ef99 m p0 p1) k) ?_
  show OwnG p.tables e below _ (s₁.setTop (mkF m 0 #[.val (.int p0), .val (.int p1), .unset, .unset, .unset] []))
  refine own_go (fun t k => XS.iloadN X0.here hx rfl (hb hby at_0) rfl  k) ?_
  show OwnG p.tables e below _ (s₁.setTop (mkF m 1 #[.val (.int p0), .val (.int p1), .unset, .unset, .unset] [(.int p1)]))
  refine own_go (fun t k => XS.iconst X0.here hx rfl (hb hby at_1) k) ?_
  show OwnG p.tables e below _ (s₁.setTop (mkF m 2 #[.val (.int p0), .val (.int p1), .unset, .unset, .unset] [(.int (1 : Int32)), (.int p1)]))
  refine own_go (fun t k => XS.iand X0.here hx rfl (hb hby at_2) rfl k) ?_
  show OwnG p.tables e below _ (s₁.setTop (mkF m 3 #[.val (.int p0), .val (.int p1), .unset, .unset, .unset] [(.int (p1 &&& (1 : Int32)))]))
  obtain ⟨z1, hp1, hn1⟩ := own_pick ((p1 &&& (1 : Int32)) = (0 : Int32)) (p0) ((p0 &&& (31 : Int32)))
  refine own_go (nxt := s₁.setTop (mkF m 14 #[.val (.int p0), .val (.int p1), .unset, .unset, .unset] [(.int z1)])) (fun t k => ?_) ?_
  · by_cases hq : (p1 &&& (1 : Int32)) = (0 : Int32)
    · rw [hp1 hq] at k
      refine XS.ifYes X0.here hx rfl (pc0 := 3) (pc' := 13) rfl (hb hby at_3) rfl ((if0 _ _).trans (teq hq).1) (by decide) (by decide) ?_
      show Steps p.tables e below (s₁.setTop (mkF m 13 #[.val (.int p0), .val (.int p1), .unset, .unset, .unset] [])) _
      refine XS.iloadN X0.here hx rfl (hb hby at_13) rfl  ?_
      show Steps p.tables e below (s₁.setTop (mkF m 14 #[.val (.int p0), .val (.int p1), .unset, .unset, .unset] [(.int p0)])) _
      exact k
    · rw [hn1 hq] at k
      refine XS.ifNo X0.here hx rfl (hb hby at_3) rfl ((if0 _ _).trans (feq hq).1) ?_
      show Steps p.tables e below (s₁.setTop (mkF m 6 #[.val (.int p0), .val (.int p1), .unset, .unset, .unset] [])) _
      refine XS.iloadN X0.here hx rfl (hb hby at_6) rfl  ?_
      show Steps p.tables e below (s₁.setTop (mkF m 7 #[.val (.int p0), .val (.int p1), .unset, .unset, .unset] [(.int p0)])) _
      refine XS.bipush X0.here hx rfl (hb hby at_7) ?_
      show Steps p.tables e below (s₁.setTop (mkF m 9 #[.val (.int p0), .val (.int p1), .unset, .unset, .unset] [(.int (31 : Int32)), (.int p0)])) _
      refine XS.iand X0.here hx rfl (hb hby at_9) rfl ?_
      show Steps p.tables e below (s₁.setTop (mkF m 10 #[.val (.int p0), .val (.int p1), .unset, .unset, .unset] [(.int (p0 &&& (31 : Int32)))])) _
      refine XS.goto X0.here hx rfl (pc0 := 10) (pc' := 14) rfl (hb hby at_10) (by decide) (by decide) ?_
      show Steps p.tables e below (s₁.setTop (mkF m 14 #[.val (.int p0), .val (.int p1), .unset, .unset, .unset] [(.int (p0 &&& (31 : Int32)))])) _
      exact k
  show OwnG p.tables e below _ (s₁.setTop (mkF m 14 #[.val (.int p0), .val (.int p1), .unset, .unset, .unset] [(.int z1)]))
  refine own_go (fun t k => XS.istoreN X0.here hx rfl (hb hby at_14) rfl (l' := #[.val (.int p0), .val (.int p1), .val (.int z1), .unset, .unset]) rfl k) ?_
  show OwnG p.tables e below _ (s₁.setTop (mkF m 15 #[.val (.int p0), .val (.int p1), .val (.int z1), .unset, .unset] []))
  refine own_go (fun t k => XS.iloadN X0.here hx rfl (hb hby at_15) rfl  k) ?_
  show OwnG p.tables e below _ (s₁.setTop (mkF m 16 #[.val (.int p0), .val (.int p1), .val (.int z1), .unset, .unset] [(.int z1)]))
  obtain ⟨_, _, ⟨T2, L2, k2, n2⟩, -, X2, ⟨Lc2, hQ2, l2, y2, z2⟩, st2⟩ := Jvm.LawKit.callS X0 hx (y := (⟨"com/example/keyspace/keyspace/server/Opcode", "of", "(I)Lcom/example/keyspace/keyspace/server/Opcode;"⟩ : MethodName)) hown (mvT hZ (hw _ (List.mem_of_getElem? (i := 0) rfl))) (mvT hZ (hw _ (List.mem_of_getElem? (i := 1) rfl))) (mvT hZ (hw _ (List.mem_of_getElem? (i := 2) rfl))) (mvT hZ (hw _ (List.mem_of_getElem? (i := 3) rfl))) (by decide) (backOf (W := 0) (own_of l Z a0 hw [] z1 o__VALUES o_ERROR o_STARTUP o_READY o_OPTIONS o_SUPPORTED o_QUERY o_RESULT o_PREPARE o_EXECUTE o_REGISTER o_BATCH o_AUTH_RESPONSE kc_o__VALUES h0 n0 Z0 O0 S__VALUES E_o__VALUES S_ERROR E_o_ERROR S_STARTUP E_o_STARTUP S_READY E_o_READY S_OPTIONS E_o_OPTIONS S_SUPPORTED E_o_SUPPORTED S_QUERY E_o_QUERY S_RESULT E_o_RESULT S_PREPARE E_o_PREPARE S_EXECUTE E_o_EXECUTE S_REGISTER E_o_REGISTER S_BATCH E_o_BATCH S_AUTH_RESPONSE E_o_AUTH_RESPONSE F_o_ERROR_code F_o_STARTUP_code F_o_READY_code F_o_OPTIONS_code F_o_SUPPORTED_code F_o_QUERY_code F_o_RESULT_code F_o_PREPARE_code F_o_EXECUTE_code F_o_REGISTER_code F_o_BATCH_code F_o_AUTH_RESPONSE_code V_o__VALUES) hZ (hw _ (List.mem_of_getElem? (i := 3) rfl)) (hw _ (List.mem_of_getElem? (i := 2) rfl)) (by decide) (by decide)) (g := (mkF m 16 #[.val (.int p0), .val (.int p1), .val (.int z1), .unset, .unset] [(.int z1)])) rfl (by rw [hml]; rfl) (argsL := [(.int z1)]) (rest := []) (lenOf own_pd100 rfl) rfl (by show 2 * 0 + _ ≤ _; exact Nat.le_of_eq rfl) (hb hby at_16) (fun _ _ => ⟨rfl, e0, (by decide : 0 + 1 ≤ _), (by decide : 0 + 12 ≤ _)⟩)
  dsimp only [Pt.U, Pt.locs, Pt.cells, Pt.slots] at X2 l2 y2 z2 st2 hQ2
  subst l2 y2 z2
  obtain ⟨rfl, Nq2, Kq2⟩ := hQ2
  have N2 := Fr.app N0 Nq2
  have F3 : Old Z n0 T2.heap := O0.keep Kq2 all0
  have K2 : Keep h0 T2.heap [] := K0.trans Kq2 all0
  have Z2 : n0 ≤ T2.heap.size := Nat.le_trans Z0 Kq2.1
  refine own_go (fun t k => st2 t k) ?_
  show OwnG p.tables e below _ (T2.setTop (mkF m 19 #[.val (.int p0), .val (.int p1), .val (.int z1), .unset, .unset] [(own_val z1 o_ERROR o_STARTUP o_READY o_OPTIONS o_SUPPORTED o_QUERY o_RESULT o_PREPARE o_EXECUTE o_REGISTER o_BATCH o_AUTH_RESPONSE)]))
  rcases own_val_or z1 o_ERROR o_STARTUP o_READY o_OPTIONS o_SUPPORTED o_QUERY o_RESULT o_PREPARE o_EXECUTE o_REGISTER o_BATCH o_AUTH_RESPONSE with ⟨al4, ax4⟩ | ⟨al4, ax4⟩ | ⟨al4, ax4⟩ | ⟨al4, ax4⟩ | ⟨al4, ax4⟩ | ⟨al4, ax4⟩ | ⟨al4, ax4⟩ | ⟨al4, ax4⟩ | ⟨al4, ax4⟩ | ⟨al4, ax4⟩ | ⟨al4, ax4⟩ | ⟨al4, ax4⟩ | ⟨al4, ax4⟩
  · rw [al4]
    show OwnG p.tables e below _ (T2.setTop (mkF m 19 #[.val (.int p0), .val (.int p1), .val (.int z1), .unset, .unset] [(.ref o_ERROR)]))
    refine own_go (fun t k => XS.astoreN X2.here hx rfl (hb hby at_19) rfl rfl (l' := #[.val (.int p0), .val (.int p1), .val (.int z1), .val (.ref o_ERROR), .unset]) rfl k) ?_
    show OwnG p.tables e below _ (T2.setTop (mkF m 20 #[.val (.int p0), .val (.int p1), .val (.int z1), .val (.ref o_ERROR), .unset] []))
    refine own_go (fun t k => XS.iloadN X2.here hx rfl (hb hby at_20) rfl  k) ?_
    show OwnG p.tables e below _ (T2.setTop (mkF m 21 #[.val (.int p0), .val (.int p1), .val (.int z1), .val (.ref o_ERROR), .unset] [(.int z1)]))
    obtain ⟨_, _, ⟨T5, L5, k5, n5⟩, -, X5, ⟨Lc5, hQ5, l5, y5, z5⟩, st5⟩ := Jvm.LawKit.callS X2 hx (y := (⟨"com/example/keyspace/keyspace/server/OpcodeOfPinLaw", "expected", "(I)Lcom/example/keyspace/keyspace/server/Opcode;"⟩ : MethodName)) hown (mvT hZ (hw _ (List.mem_of_getElem? (i := 33) rfl))) (mvT hZ (hw _ (List.mem_of_getElem? (i := 34) rfl))) (mvT hZ (hw _ (List.mem_of_getElem? (i := 35) rfl))) (mvT hZ (hw _ (List.mem_of_getElem? (i := 36) rfl))) (by decide) (backOf (W := 0) (own_expected l Z a0 hw [] z1 o__VALUES o_ERROR o_STARTUP o_READY o_OPTIONS o_SUPPORTED o_QUERY o_RESULT o_PREPARE o_EXECUTE o_REGISTER o_BATCH o_AUTH_RESPONSE kc_o__VALUES T2.heap n0 Z2 F3 S__VALUES E_o__VALUES S_ERROR E_o_ERROR S_STARTUP E_o_STARTUP S_READY E_o_READY S_OPTIONS E_o_OPTIONS S_SUPPORTED E_o_SUPPORTED S_QUERY E_o_QUERY S_RESULT E_o_RESULT S_PREPARE E_o_PREPARE S_EXECUTE E_o_EXECUTE S_REGISTER E_o_REGISTER S_BATCH E_o_BATCH S_AUTH_RESPONSE E_o_AUTH_RESPONSE F_o_ERROR_code F_o_STARTUP_code F_o_READY_code F_o_OPTIONS_code F_o_SUPPORTED_code F_o_QUERY_code F_o_RESULT_code F_o_PREPARE_code F_o_EXECUTE_code F_o_REGISTER_code F_o_BATCH_code F_o_AUTH_RESPONSE_code V_o__VALUES) hZ (hw _ (List.mem_of_getElem? (i := 36) rfl)) (hw _ (List.mem_of_getElem? (i := 35) rfl)) (by decide) (by decide)) (g := (mkF m 21 #[.val (.int p0), .val (.int p1), .val (.int z1), .val (.ref o_ERROR), .unset] [(.int z1)])) rfl (by rw [hml]; rfl) (argsL := [(.int z1)]) (rest := []) (lenOf own_pd100 rfl) rfl (by show 2 * 0 + _ ≤ _; exact Nat.le_of_eq rfl) (hb hby at_21) (fun _ _ => ⟨rfl, rfl, (by decide : 1 + 0 ≤ _), (by decide : 12 + 0 ≤ _)⟩)
    dsimp only [Pt.U, Pt.locs, Pt.cells, Pt.slots] at X5 l5 y5 z5 st5 hQ5
    subst l5 y5 z5
    obtain ⟨rfl, Nq5, eq5⟩ := hQ5
    have N5 := Fr.app N2 Nq5
    have e5 : T5.heap = T2.heap := eq5
    refine own_go (fun t k => st5 t k) ?_
    show OwnG p.tables e below _ (T5.setTop (mkF m 24 #[.val (.int p0), .val (.int p1), .val (.int z1), .val (.ref o_ERROR), .unset] [(own_val z1 o_ERROR o_STARTUP o_READY o_OPTIONS o_SUPPORTED o_QUERY o_RESULT o_PREPARE o_EXECUTE o_REGISTER o_BATCH o_AUTH_RESPONSE)]))
    rw [al4]
    show OwnG p.tables e below _ (T5.setTop (mkF m 24 #[.val (.int p0), .val (.int p1), .val (.int z1), .val (.ref o_ERROR), .unset] [(.ref o_ERROR)]))
    refine own_go (fun t k => XS.astore X5.here hx rfl (hb hby at_24) rfl rfl (l' := #[.val (.int p0), .val (.int p1), .val (.int z1), .val (.ref o_ERROR), .val (.ref o_ERROR)]) rfl k) ?_
    show OwnG p.tables e below _ (T5.setTop (mkF m 26 #[.val (.int p0), .val (.int p1), .val (.int z1), .val (.ref o_ERROR), .val (.ref o_ERROR)] []))
    refine own_go (fun t k => XS.aloadN X5.here hx rfl (hb hby at_26) rfl rfl k) ?_
    show OwnG p.tables e below _ (T5.setTop (mkF m 27 #[.val (.int p0), .val (.int p1), .val (.int z1), .val (.ref o_ERROR), .val (.ref o_ERROR)] [(.ref o_ERROR)]))
    refine own_go (fun t k => XS.aload X5.here hx rfl (hb hby at_27) rfl rfl k) ?_
    show OwnG p.tables e below _ (T5.setTop (mkF m 29 #[.val (.int p0), .val (.int p1), .val (.int z1), .val (.ref o_ERROR), .val (.ref o_ERROR)] [(.ref o_ERROR), (.ref o_ERROR)]))
    refine own_go (fun t k => Jvm.RoadKit.acmp (g := (mkF m 29 #[.val (.int p0), .val (.int p1), .val (.int z1), .val (.ref o_ERROR), .val (.ref o_ERROR)] [(.ref o_ERROR), (.ref o_ERROR)])) X5 hx rfl rfl rfl (pc0 := 29) (pc' := 34) (same := true) rfl (hb hby at_29) rfl (decide_eq_true rfl) (by decide) (by decide) k) ?_
    show OwnG p.tables e below _ (T5.setTop (mkF m 34 #[.val (.int p0), .val (.int p1), .val (.int z1), .val (.ref o_ERROR), .val (.ref o_ERROR)] []))
    refine own_go (fun t k => XS.aloadN X5.here hx rfl (hb hby at_34) rfl rfl k) ?_
    show OwnG p.tables e below _ (T5.setTop (mkF m 35 #[.val (.int p0), .val (.int p1), .val (.int z1), .val (.ref o_ERROR), .val (.ref o_ERROR)] [(.ref o_ERROR)]))
    refine own_go (fun t k => XS.ifnullNo X5.here hx rfl (hb hby at_35) rfl k) ?_
    show OwnG p.tables e below _ (T5.setTop (mkF m 38 #[.val (.int p0), .val (.int p1), .val (.int z1), .val (.ref o_ERROR), .val (.ref o_ERROR)] []))
    refine own_go (fun t k => XS.aloadN X5.here hx rfl (hb hby at_38) rfl rfl k) ?_
    show OwnG p.tables e below _ (T5.setTop (mkF m 39 #[.val (.int p0), .val (.int p1), .val (.int z1), .val (.ref o_ERROR), .val (.ref o_ERROR)] [(.ref o_ERROR)]))
    obtain ⟨cq6, kq6, q6a, q6b, q6c⟩ := isOf hZ e5 (E_o_ERROR.ext F3.2)
    obtain ⟨_, _, ⟨T6, L6, k6, n6⟩, -, X6, ⟨Lc6, hQ6, l6, y6, z6⟩, st6⟩ := X5.virtualBack hx (y := (⟨"com/example/keyspace/keyspace/server/Opcode", "code", "()I"⟩ : MethodName)) (z := (⟨"com/example/keyspace/keyspace/server/Opcode", "code", "()I"⟩ : MethodName)) hown (mvT hZ (hw _ (List.mem_of_getElem? (i := 38) rfl))) (mvT hZ (hw _ (List.mem_of_getElem? (i := 39) rfl))) (notFace_of_selects (args := #[]) (mvT hZ (hw _ (List.mem_of_getElem? (i := 41) rfl)))) (mvT hZ (hw _ (List.mem_of_getElem? (i := 41) rfl))) (mvT hZ (hw _ (List.mem_of_getElem? (i := 40) rfl))) (by decide) (backOf (W := 0) (own_code l Z a0 hw [] o_ERROR (0 : Int32) T2.heap n0 Z2 (F_o_ERROR_code.ext F3.2)) hZ (hw _ (List.mem_of_getElem? (i := 42) rfl)) (hw _ (List.mem_of_getElem? (i := 2) rfl)) (by decide) (by decide)) q6a q6c (g := (mkF m 39 #[.val (.int p0), .val (.int p1), .val (.int z1), .val (.ref o_ERROR), .val (.ref o_ERROR)] [(.ref o_ERROR)])) rfl (by rw [hml]; rfl) (Steps.refl _) (argsL := []) (rest := []) (lenOf own_pd101 rfl) rfl (by show 2 * 0 + _ ≤ _; exact Nat.le_of_eq rfl) (hb hby at_39) (fun _ _ => ⟨rfl, e5, (by decide : 1 + 0 ≤ _), (by decide : 12 + 0 ≤ _)⟩)
    dsimp only [Pt.U, Pt.locs, Pt.cells, Pt.slots] at X6 l6 y6 z6 st6 hQ6
    subst l6 y6 z6
    obtain ⟨rfl, Nq6, eq6⟩ := hQ6
    have N6 := Fr.app N5 Nq6
    have e6 : T6.heap = T2.heap := eq6
    refine own_go (fun t k => st6.trans k) ?_
    show OwnG p.tables e below _ (T6.setTop (mkF m 42 #[.val (.int p0), .val (.int p1), .val (.int z1), .val (.ref o_ERROR), .val (.ref o_ERROR)] [(.int (0 : Int32))]))
    refine own_go (fun t k => XS.iloadN X6.here hx rfl (hb hby at_42) rfl  k) ?_
    show OwnG p.tables e below _ (T6.setTop (mkF m 43 #[.val (.int p0), .val (.int p1), .val (.int z1), .val (.ref o_ERROR), .val (.ref o_ERROR)] [(.int z1), (.int (0 : Int32))]))
    refine own_go (fun t k => XS.icmpYes X6.here hx rfl (pc0 := 43) (pc' := 48) rfl (hb hby at_43) rfl (teq ax4.symm).1 (by decide) (by decide) k) ?_
    show OwnG p.tables e below _ (T6.setTop (mkF m 48 #[.val (.int p0), .val (.int p1), .val (.int z1), .val (.ref o_ERROR), .val (.ref o_ERROR)] []))
    refine own_go (fun t k => XS.iconst X6.here hx rfl (hb hby at_48) k) ?_
    show OwnG p.tables e below _ (T6.setTop (mkF m 49 #[.val (.int p0), .val (.int p1), .val (.int z1), .val (.ref o_ERROR), .val (.ref o_ERROR)] [(.int (1 : Int32))]))
    obtain ⟨fs, hr, hrun, hended, hW, hsame⟩ := X6.leave (v := some (.int (1 : Int32))) (fun h => by rw [Bd.returns] at h; cases h)
    refine ⟨_, _, retN X6 hx (t := .boolean) Bd.returns (by simp) (hb hby at_49) hr, hrun, hended, _, _, rfl, ?_, ⟨_, rfl⟩, hW, hsame.mono (by decide) (by decide)⟩
    show Q_own_law Z p0 p1 o__VALUES o_ERROR o_STARTUP o_READY o_OPTIONS o_SUPPORTED o_QUERY o_RESULT o_PREPARE o_EXECUTE o_REGISTER o_BATCH o_AUTH_RESPONSE kc_o__VALUES h0 n0 _ T6.heap _
    rw [e6]
    exact ⟨rfl, N6⟩
  · rw [al4]
    show OwnG p.tables e below _ (T2.setTop (mkF m 19 #[.val (.int p0), .val (.int p1), .val (.int z1), .unset, .unset] [(.ref o_STARTUP)]))
    refine own_go (fun t k => XS.astoreN X2.here hx rfl (hb hby at_19) rfl rfl (l' := #[.val (.int p0), .val (.int p1), .val (.int z1), .val (.ref o_STARTUP), .unset]) rfl k) ?_
    show OwnG p.tables e below _ (T2.setTop (mkF m 20 #[.val (.int p0), .val (.int p1), .val (.int z1), .val (.ref o_STARTUP), .unset] []))
    refine own_go (fun t k => XS.iloadN X2.here hx rfl (hb hby at_20) rfl  k) ?_
    show OwnG p.tables e below _ (T2.setTop (mkF m 21 #[.val (.int p0), .val (.int p1), .val (.int z1), .val (.ref o_STARTUP), .unset] [(.int z1)]))
    obtain ⟨_, _, ⟨T7, L7, k7, n7⟩, -, X7, ⟨Lc7, hQ7, l7, y7, z7⟩, st7⟩ := Jvm.LawKit.callS X2 hx (y := (⟨"com/example/keyspace/keyspace/server/OpcodeOfPinLaw", "expected", "(I)Lcom/example/keyspace/keyspace/server/Opcode;"⟩ : MethodName)) hown (mvT hZ (hw _ (List.mem_of_getElem? (i := 33) rfl))) (mvT hZ (hw _ (List.mem_of_getElem? (i := 34) rfl))) (mvT hZ (hw _ (List.mem_of_getElem? (i := 35) rfl))) (mvT hZ (hw _ (List.mem_of_getElem? (i := 36) rfl))) (by decide) (backOf (W := 0) (own_expected l Z a0 hw [] z1 o__VALUES o_ERROR o_STARTUP o_READY o_OPTIONS o_SUPPORTED o_QUERY o_RESULT o_PREPARE o_EXECUTE o_REGISTER o_BATCH o_AUTH_RESPONSE kc_o__VALUES T2.heap n0 Z2 F3 S__VALUES E_o__VALUES S_ERROR E_o_ERROR S_STARTUP E_o_STARTUP S_READY E_o_READY S_OPTIONS E_o_OPTIONS S_SUPPORTED E_o_SUPPORTED S_QUERY E_o_QUERY S_RESULT E_o_RESULT S_PREPARE E_o_PREPARE S_EXECUTE E_o_EXECUTE S_REGISTER E_o_REGISTER S_BATCH E_o_BATCH S_AUTH_RESPONSE E_o_AUTH_RESPONSE F_o_ERROR_code F_o_STARTUP_code F_o_READY_code F_o_OPTIONS_code F_o_SUPPORTED_code F_o_QUERY_code F_o_RESULT_code F_o_PREPARE_code F_o_EXECUTE_code F_o_REGISTER_code F_o_BATCH_code F_o_AUTH_RESPONSE_code V_o__VALUES) hZ (hw _ (List.mem_of_getElem? (i := 36) rfl)) (hw _ (List.mem_of_getElem? (i := 35) rfl)) (by decide) (by decide)) (g := (mkF m 21 #[.val (.int p0), .val (.int p1), .val (.int z1), .val (.ref o_STARTUP), .unset] [(.int z1)])) rfl (by rw [hml]; rfl) (argsL := [(.int z1)]) (rest := []) (lenOf own_pd100 rfl) rfl (by show 2 * 0 + _ ≤ _; exact Nat.le_of_eq rfl) (hb hby at_21) (fun _ _ => ⟨rfl, rfl, (by decide : 1 + 0 ≤ _), (by decide : 12 + 0 ≤ _)⟩)
    dsimp only [Pt.U, Pt.locs, Pt.cells, Pt.slots] at X7 l7 y7 z7 st7 hQ7
    subst l7 y7 z7
    obtain ⟨rfl, Nq7, eq7⟩ := hQ7
    have N7 := Fr.app N2 Nq7
    have e7 : T7.heap = T2.heap := eq7
    refine own_go (fun t k => st7 t k) ?_
    show OwnG p.tables e below _ (T7.setTop (mkF m 24 #[.val (.int p0), .val (.int p1), .val (.int z1), .val (.ref o_STARTUP), .unset] [(own_val z1 o_ERROR o_STARTUP o_READY o_OPTIONS o_SUPPORTED o_QUERY o_RESULT o_PREPARE o_EXECUTE o_REGISTER o_BATCH o_AUTH_RESPONSE)]))
    rw [al4]
    show OwnG p.tables e below _ (T7.setTop (mkF m 24 #[.val (.int p0), .val (.int p1), .val (.int z1), .val (.ref o_STARTUP), .unset] [(.ref o_STARTUP)]))
    refine own_go (fun t k => XS.astore X7.here hx rfl (hb hby at_24) rfl rfl (l' := #[.val (.int p0), .val (.int p1), .val (.int z1), .val (.ref o_STARTUP), .val (.ref o_STARTUP)]) rfl k) ?_
    show OwnG p.tables e below _ (T7.setTop (mkF m 26 #[.val (.int p0), .val (.int p1), .val (.int z1), .val (.ref o_STARTUP), .val (.ref o_STARTUP)] []))
    refine own_go (fun t k => XS.aloadN X7.here hx rfl (hb hby at_26) rfl rfl k) ?_
    show OwnG p.tables e below _ (T7.setTop (mkF m 27 #[.val (.int p0), .val (.int p1), .val (.int z1), .val (.ref o_STARTUP), .val (.ref o_STARTUP)] [(.ref o_STARTUP)]))
    refine own_go (fun t k => XS.aload X7.here hx rfl (hb hby at_27) rfl rfl k) ?_
    show OwnG p.tables e below _ (T7.setTop (mkF m 29 #[.val (.int p0), .val (.int p1), .val (.int z1), .val (.ref o_STARTUP), .val (.ref o_STARTUP)] [(.ref o_STARTUP), (.ref o_STARTUP)]))
    refine own_go (fun t k => Jvm.RoadKit.acmp (g := (mkF m 29 #[.val (.int p0), .val (.int p1), .val (.int z1), .val (.ref o_STARTUP), .val (.ref o_STARTUP)] [(.ref o_STARTUP), (.ref o_STARTUP)])) X7 hx rfl rfl rfl (pc0 := 29) (pc' := 34) (same := true) rfl (hb hby at_29) rfl (decide_eq_true rfl) (by decide) (by decide) k) ?_
    show OwnG p.tables e below _ (T7.setTop (mkF m 34 #[.val (.int p0), .val (.int p1), .val (.int z1), .val (.ref o_STARTUP), .val (.ref o_STARTUP)] []))
    refine own_go (fun t k => XS.aloadN X7.here hx rfl (hb hby at_34) rfl rfl k) ?_
    show OwnG p.tables e below _ (T7.setTop (mkF m 35 #[.val (.int p0), .val (.int p1), .val (.int z1), .val (.ref o_STARTUP), .val (.ref o_STARTUP)] [(.ref o_STARTUP)]))
    refine own_go (fun t k => XS.ifnullNo X7.here hx rfl (hb hby at_35) rfl k) ?_
    show OwnG p.tables e below _ (T7.setTop (mkF m 38 #[.val (.int p0), .val (.int p1), .val (.int z1), .val (.ref o_STARTUP), .val (.ref o_STARTUP)] []))
    refine own_go (fun t k => XS.aloadN X7.here hx rfl (hb hby at_38) rfl rfl k) ?_
    show OwnG p.tables e below _ (T7.setTop (mkF m 39 #[.val (.int p0), .val (.int p1), .val (.int z1), .val (.ref o_STARTUP), .val (.ref o_STARTUP)] [(.ref o_STARTUP)]))
    obtain ⟨cq8, kq8, q8a, q8b, q8c⟩ := isOf hZ e7 (E_o_STARTUP.ext F3.2)
    obtain ⟨_, _, ⟨T8, L8, k8, n8⟩, -, X8, ⟨Lc8, hQ8, l8, y8, z8⟩, st8⟩ := X7.virtualBack hx (y := (⟨"com/example/keyspace/keyspace/server/Opcode", "code", "()I"⟩ : MethodName)) (z := (⟨"com/example/keyspace/keyspace/server/Opcode", "code", "()I"⟩ : MethodName)) hown (mvT hZ (hw _ (List.mem_of_getElem? (i := 38) rfl))) (mvT hZ (hw _ (List.mem_of_getElem? (i := 39) rfl))) (notFace_of_selects (args := #[]) (mvT hZ (hw _ (List.mem_of_getElem? (i := 41) rfl)))) (mvT hZ (hw _ (List.mem_of_getElem? (i := 41) rfl))) (mvT hZ (hw _ (List.mem_of_getElem? (i := 40) rfl))) (by decide) (backOf (W := 0) (own_code l Z a0 hw [] o_STARTUP (1 : Int32) T2.heap n0 Z2 (F_o_STARTUP_code.ext F3.2)) hZ (hw _ (List.mem_of_getElem? (i := 42) rfl)) (hw _ (List.mem_of_getElem? (i := 2) rfl)) (by decide) (by decide)) q8a q8c (g := (mkF m 39 #[.val (.int p0), .val (.int p1), .val (.int z1), .val (.ref o_STARTUP), .val (.ref o_STARTUP)] [(.ref o_STARTUP)])) rfl (by rw [hml]; rfl) (Steps.refl _) (argsL := []) (rest := []) (lenOf own_pd101 rfl) rfl (by show 2 * 0 + _ ≤ _; exact Nat.le_of_eq rfl) (hb hby at_39) (fun _ _ => ⟨rfl, e7, (by decide : 1 + 0 ≤ _), (by decide : 12 + 0 ≤ _)⟩)
    dsimp only [Pt.U, Pt.locs, Pt.cells, Pt.slots] at X8 l8 y8 z8 st8 hQ8
    subst l8 y8 z8
    obtain ⟨rfl, Nq8, eq8⟩ := hQ8
    have N8 := Fr.app N7 Nq8
    have e8 : T8.heap = T2.heap := eq8
    refine own_go (fun t k => st8.trans k) ?_
    show OwnG p.tables e below _ (T8.setTop (mkF m 42 #[.val (.int p0), .val (.int p1), .val (.int z1), .val (.ref o_STARTUP), .val (.ref o_STARTUP)] [(.int (1 : Int32))]))
    refine own_go (fun t k => XS.iloadN X8.here hx rfl (hb hby at_42) rfl  k) ?_
    show OwnG p.tables e below _ (T8.setTop (mkF m 43 #[.val (.int p0), .val (.int p1), .val (.int z1), .val (.ref o_STARTUP), .val (.ref o_STARTUP)] [(.int z1), (.int (1 : Int32))]))
    refine own_go (fun t k => XS.icmpYes X8.here hx rfl (pc0 := 43) (pc' := 48) rfl (hb hby at_43) rfl (teq ax4.symm).1 (by decide) (by decide) k) ?_
    show OwnG p.tables e below _ (T8.setTop (mkF m 48 #[.val (.int p0), .val (.int p1), .val (.int z1), .val (.ref o_STARTUP), .val (.ref o_STARTUP)] []))
    refine own_go (fun t k => XS.iconst X8.here hx rfl (hb hby at_48) k) ?_
    show OwnG p.tables e below _ (T8.setTop (mkF m 49 #[.val (.int p0), .val (.int p1), .val (.int z1), .val (.ref o_STARTUP), .val (.ref o_STARTUP)] [(.int (1 : Int32))]))
    obtain ⟨fs, hr, hrun, hended, hW, hsame⟩ := X8.leave (v := some (.int (1 : Int32))) (fun h => by rw [Bd.returns] at h; cases h)
    refine ⟨_, _, retN X8 hx (t := .boolean) Bd.returns (by simp) (hb hby at_49) hr, hrun, hended, _, _, rfl, ?_, ⟨_, rfl⟩, hW, hsame.mono (by decide) (by decide)⟩
    show Q_own_law Z p0 p1 o__VALUES o_ERROR o_STARTUP o_READY o_OPTIONS o_SUPPORTED o_QUERY o_RESULT o_PREPARE o_EXECUTE o_REGISTER o_BATCH o_AUTH_RESPONSE kc_o__VALUES h0 n0 _ T8.heap _
    rw [e8]
    exact ⟨rfl, N8⟩
  · rw [al4]
    show OwnG p.tables e below _ (T2.setTop (mkF m 19 #[.val (.int p0), .val (.int p1), .val (.int z1), .unset, .unset] [(.ref o_READY)]))
    refine own_go (fun t k => XS.astoreN X2.here hx rfl (hb hby at_19) rfl rfl (l' := #[.val (.int p0), .val (.int p1), .val (.int z1), .val (.ref o_READY), .unset]) rfl k) ?_
    show OwnG p.tables e below _ (T2.setTop (mkF m 20 #[.val (.int p0), .val (.int p1), .val (.int z1), .val (.ref o_READY), .unset] []))
    refine own_go (fun t k => XS.iloadN X2.here hx rfl (hb hby at_20) rfl  k) ?_
    show OwnG p.tables e below _ (T2.setTop (mkF m 21 #[.val (.int p0), .val (.int p1), .val (.int z1), .val (.ref o_READY), .unset] [(.int z1)]))
    obtain ⟨_, _, ⟨T9, L9, k9, n9⟩, -, X9, ⟨Lc9, hQ9, l9, y9, z9⟩, st9⟩ := Jvm.LawKit.callS X2 hx (y := (⟨"com/example/keyspace/keyspace/server/OpcodeOfPinLaw", "expected", "(I)Lcom/example/keyspace/keyspace/server/Opcode;"⟩ : MethodName)) hown (mvT hZ (hw _ (List.mem_of_getElem? (i := 33) rfl))) (mvT hZ (hw _ (List.mem_of_getElem? (i := 34) rfl))) (mvT hZ (hw _ (List.mem_of_getElem? (i := 35) rfl))) (mvT hZ (hw _ (List.mem_of_getElem? (i := 36) rfl))) (by decide) (backOf (W := 0) (own_expected l Z a0 hw [] z1 o__VALUES o_ERROR o_STARTUP o_READY o_OPTIONS o_SUPPORTED o_QUERY o_RESULT o_PREPARE o_EXECUTE o_REGISTER o_BATCH o_AUTH_RESPONSE kc_o__VALUES T2.heap n0 Z2 F3 S__VALUES E_o__VALUES S_ERROR E_o_ERROR S_STARTUP E_o_STARTUP S_READY E_o_READY S_OPTIONS E_o_OPTIONS S_SUPPORTED E_o_SUPPORTED S_QUERY E_o_QUERY S_RESULT E_o_RESULT S_PREPARE E_o_PREPARE S_EXECUTE E_o_EXECUTE S_REGISTER E_o_REGISTER S_BATCH E_o_BATCH S_AUTH_RESPONSE E_o_AUTH_RESPONSE F_o_ERROR_code F_o_STARTUP_code F_o_READY_code F_o_OPTIONS_code F_o_SUPPORTED_code F_o_QUERY_code F_o_RESULT_code F_o_PREPARE_code F_o_EXECUTE_code F_o_REGISTER_code F_o_BATCH_code F_o_AUTH_RESPONSE_code V_o__VALUES) hZ (hw _ (List.mem_of_getElem? (i := 36) rfl)) (hw _ (List.mem_of_getElem? (i := 35) rfl)) (by decide) (by decide)) (g := (mkF m 21 #[.val (.int p0), .val (.int p1), .val (.int z1), .val (.ref o_READY), .unset] [(.int z1)])) rfl (by rw [hml]; rfl) (argsL := [(.int z1)]) (rest := []) (lenOf own_pd100 rfl) rfl (by show 2 * 0 + _ ≤ _; exact Nat.le_of_eq rfl) (hb hby at_21) (fun _ _ => ⟨rfl, rfl, (by decide : 1 + 0 ≤ _), (by decide : 12 + 0 ≤ _)⟩)
    dsimp only [Pt.U, Pt.locs, Pt.cells, Pt.slots] at X9 l9 y9 z9 st9 hQ9
    subst l9 y9 z9
    obtain ⟨rfl, Nq9, eq9⟩ := hQ9
    have N9 := Fr.app N2 Nq9
    have e9 : T9.heap = T2.heap := eq9
    refine own_go (fun t k => st9 t k) ?_
    show OwnG p.tables e below _ (T9.setTop (mkF m 24 #[.val (.int p0), .val (.int p1), .val (.int z1), .val (.ref o_READY), .unset] [(own_val z1 o_ERROR o_STARTUP o_READY o_OPTIONS o_SUPPORTED o_QUERY o_RESULT o_PREPARE o_EXECUTE o_REGISTER o_BATCH o_AUTH_RESPONSE)]))
    rw [al4]
    show OwnG p.tables e below _ (T9.setTop (mkF m 24 #[.val (.int p0), .val (.int p1), .val (.int z1), .val (.ref o_READY), .unset] [(.ref o_READY)]))
    refine own_go (fun t k => XS.astore X9.here hx rfl (hb hby at_24) rfl rfl (l' := #[.val (.int p0), .val (.int p1), .val (.int z1), .val (.ref o_READY), .val (.ref o_READY)]) rfl k) ?_
    show OwnG p.tables e below _ (T9.setTop (mkF m 26 #[.val (.int p0), .val (.int p1), .val (.int z1), .val (.ref o_READY), .val (.ref o_READY)] []))
    refine own_go (fun t k => XS.aloadN X9.here hx rfl (hb hby at_26) rfl rfl k) ?_
    show OwnG p.tables e below _ (T9.setTop (mkF m 27 #[.val (.int p0), .val (.int p1), .val (.int z1), .val (.ref o_READY), .val (.ref o_READY)] [(.ref o_READY)]))
    refine own_go (fun t k => XS.aload X9.here hx rfl (hb hby at_27) rfl rfl k) ?_
    show OwnG p.tables e below _ (T9.setTop (mkF m 29 #[.val (.int p0), .val (.int p1), .val (.int z1), .val (.ref o_READY), .val (.ref o_READY)] [(.ref o_READY), (.ref o_READY)]))
    refine own_go (fun t k => Jvm.RoadKit.acmp (g := (mkF m 29 #[.val (.int p0), .val (.int p1), .val (.int z1), .val (.ref o_READY), .val (.ref o_READY)] [(.ref o_READY), (.ref o_READY)])) X9 hx rfl rfl rfl (pc0 := 29) (pc' := 34) (same := true) rfl (hb hby at_29) rfl (decide_eq_true rfl) (by decide) (by decide) k) ?_
    show OwnG p.tables e below _ (T9.setTop (mkF m 34 #[.val (.int p0), .val (.int p1), .val (.int z1), .val (.ref o_READY), .val (.ref o_READY)] []))
    refine own_go (fun t k => XS.aloadN X9.here hx rfl (hb hby at_34) rfl rfl k) ?_
    show OwnG p.tables e below _ (T9.setTop (mkF m 35 #[.val (.int p0), .val (.int p1), .val (.int z1), .val (.ref o_READY), .val (.ref o_READY)] [(.ref o_READY)]))
    refine own_go (fun t k => XS.ifnullNo X9.here hx rfl (hb hby at_35) rfl k) ?_
    show OwnG p.tables e below _ (T9.setTop (mkF m 38 #[.val (.int p0), .val (.int p1), .val (.int z1), .val (.ref o_READY), .val (.ref o_READY)] []))
    refine own_go (fun t k => XS.aloadN X9.here hx rfl (hb hby at_38) rfl rfl k) ?_
    show OwnG p.tables e below _ (T9.setTop (mkF m 39 #[.val (.int p0), .val (.int p1), .val (.int z1), .val (.ref o_READY), .val (.ref o_READY)] [(.ref o_READY)]))
    obtain ⟨cq10, kq10, q10a, q10b, q10c⟩ := isOf hZ e9 (E_o_READY.ext F3.2)
    obtain ⟨_, _, ⟨T10, L10, k10, n10⟩, -, X10, ⟨Lc10, hQ10, l10, y10, z10⟩, st10⟩ := X9.virtualBack hx (y := (⟨"com/example/keyspace/keyspace/server/Opcode", "code", "()I"⟩ : MethodName)) (z := (⟨"com/example/keyspace/keyspace/server/Opcode", "code", "()I"⟩ : MethodName)) hown (mvT hZ (hw _ (List.mem_of_getElem? (i := 38) rfl))) (mvT hZ (hw _ (List.mem_of_getElem? (i := 39) rfl))) (notFace_of_selects (args := #[]) (mvT hZ (hw _ (List.mem_of_getElem? (i := 41) rfl)))) (mvT hZ (hw _ (List.mem_of_getElem? (i := 41) rfl))) (mvT hZ (hw _ (List.mem_of_getElem? (i := 40) rfl))) (by decide) (backOf (W := 0) (own_code l Z a0 hw [] o_READY (2 : Int32) T2.heap n0 Z2 (F_o_READY_code.ext F3.2)) hZ (hw _ (List.mem_of_getElem? (i := 42) rfl)) (hw _ (List.mem_of_getElem? (i := 2) rfl)) (by decide) (by decide)) q10a q10c (g := (mkF m 39 #[.val (.int p0), .val (.int p1), .val (.int z1), .val (.ref o_READY), .val (.ref o_READY)] [(.ref o_READY)])) rfl (by rw [hml]; rfl) (Steps.refl _) (argsL := []) (rest := []) (lenOf own_pd101 rfl) rfl (by show 2 * 0 + _ ≤ _; exact Nat.le_of_eq rfl) (hb hby at_39) (fun _ _ => ⟨rfl, e9, (by decide : 1 + 0 ≤ _), (by decide : 12 + 0 ≤ _)⟩)
    dsimp only [Pt.U, Pt.locs, Pt.cells, Pt.slots] at X10 l10 y10 z10 st10 hQ10
    subst l10 y10 z10
    obtain ⟨rfl, Nq10, eq10⟩ := hQ10
    have N10 := Fr.app N9 Nq10
    have e10 : T10.heap = T2.heap := eq10
    refine own_go (fun t k => st10.trans k) ?_
    show OwnG p.tables e below _ (T10.setTop (mkF m 42 #[.val (.int p0), .val (.int p1), .val (.int z1), .val (.ref o_READY), .val (.ref o_READY)] [(.int (2 : Int32))]))
    refine own_go (fun t k => XS.iloadN X10.here hx rfl (hb hby at_42) rfl  k) ?_
    show OwnG p.tables e below _ (T10.setTop (mkF m 43 #[.val (.int p0), .val (.int p1), .val (.int z1), .val (.ref o_READY), .val (.ref o_READY)] [(.int z1), (.int (2 : Int32))]))
    refine own_go (fun t k => XS.icmpYes X10.here hx rfl (pc0 := 43) (pc' := 48) rfl (hb hby at_43) rfl (teq ax4.symm).1 (by decide) (by decide) k) ?_
    show OwnG p.tables e below _ (T10.setTop (mkF m 48 #[.val (.int p0), .val (.int p1), .val (.int z1), .val (.ref o_READY), .val (.ref o_READY)] []))
    refine own_go (fun t k => XS.iconst X10.here hx rfl (hb hby at_48) k) ?_
    show OwnG p.tables e below _ (T10.setTop (mkF m 49 #[.val (.int p0), .val (.int p1), .val (.int z1), .val (.ref o_READY), .val (.ref o_READY)] [(.int (1 : Int32))]))
    obtain ⟨fs, hr, hrun, hended, hW, hsame⟩ := X10.leave (v := some (.int (1 : Int32))) (fun h => by rw [Bd.returns] at h; cases h)
    refine ⟨_, _, retN X10 hx (t := .boolean) Bd.returns (by simp) (hb hby at_49) hr, hrun, hended, _, _, rfl, ?_, ⟨_, rfl⟩, hW, hsame.mono (by decide) (by decide)⟩
    show Q_own_law Z p0 p1 o__VALUES o_ERROR o_STARTUP o_READY o_OPTIONS o_SUPPORTED o_QUERY o_RESULT o_PREPARE o_EXECUTE o_REGISTER o_BATCH o_AUTH_RESPONSE kc_o__VALUES h0 n0 _ T10.heap _
    rw [e10]
    exact ⟨rfl, N10⟩
  · rw [al4]
    show OwnG p.tables e below _ (T2.setTop (mkF m 19 #[.val (.int p0), .val (.int p1), .val (.int z1), .unset, .unset] [(.ref o_OPTIONS)]))
    refine own_go (fun t k => XS.astoreN X2.here hx rfl (hb hby at_19) rfl rfl (l' := #[.val (.int p0), .val (.int p1), .val (.int z1), .val (.ref o_OPTIONS), .unset]) rfl k) ?_
    show OwnG p.tables e below _ (T2.setTop (mkF m 20 #[.val (.int p0), .val (.int p1), .val (.int z1), .val (.ref o_OPTIONS), .unset] []))
    refine own_go (fun t k => XS.iloadN X2.here hx rfl (hb hby at_20) rfl  k) ?_
    show OwnG p.tables e below _ (T2.setTop (mkF m 21 #[.val (.int p0), .val (.int p1), .val (.int z1), .val (.ref o_OPTIONS), .unset] [(.int z1)]))
    obtain ⟨_, _, ⟨T11, L11, k11, n11⟩, -, X11, ⟨Lc11, hQ11, l11, y11, z11⟩, st11⟩ := Jvm.LawKit.callS X2 hx (y := (⟨"com/example/keyspace/keyspace/server/OpcodeOfPinLaw", "expected", "(I)Lcom/example/keyspace/keyspace/server/Opcode;"⟩ : MethodName)) hown (mvT hZ (hw _ (List.mem_of_getElem? (i := 33) rfl))) (mvT hZ (hw _ (List.mem_of_getElem? (i := 34) rfl))) (mvT hZ (hw _ (List.mem_of_getElem? (i := 35) rfl))) (mvT hZ (hw _ (List.mem_of_getElem? (i := 36) rfl))) (by decide) (backOf (W := 0) (own_expected l Z a0 hw [] z1 o__VALUES o_ERROR o_STARTUP o_READY o_OPTIONS o_SUPPORTED o_QUERY o_RESULT o_PREPARE o_EXECUTE o_REGISTER o_BATCH o_AUTH_RESPONSE kc_o__VALUES T2.heap n0 Z2 F3 S__VALUES E_o__VALUES S_ERROR E_o_ERROR S_STARTUP E_o_STARTUP S_READY E_o_READY S_OPTIONS E_o_OPTIONS S_SUPPORTED E_o_SUPPORTED S_QUERY E_o_QUERY S_RESULT E_o_RESULT S_PREPARE E_o_PREPARE S_EXECUTE E_o_EXECUTE S_REGISTER E_o_REGISTER S_BATCH E_o_BATCH S_AUTH_RESPONSE E_o_AUTH_RESPONSE F_o_ERROR_code F_o_STARTUP_code F_o_READY_code F_o_OPTIONS_code F_o_SUPPORTED_code F_o_QUERY_code F_o_RESULT_code F_o_PREPARE_code F_o_EXECUTE_code F_o_REGISTER_code F_o_BATCH_code F_o_AUTH_RESPONSE_code V_o__VALUES) hZ (hw _ (List.mem_of_getElem? (i := 36) rfl)) (hw _ (List.mem_of_getElem? (i := 35) rfl)) (by decide) (by decide)) (g := (mkF m 21 #[.val (.int p0), .val (.int p1), .val (.int z1), .val (.ref o_OPTIONS), .unset] [(.int z1)])) rfl (by rw [hml]; rfl) (argsL := [(.int z1)]) (rest := []) (lenOf own_pd100 rfl) rfl (by show 2 * 0 + _ ≤ _; exact Nat.le_of_eq rfl) (hb hby at_21) (fun _ _ => ⟨rfl, rfl, (by decide : 1 + 0 ≤ _), (by decide : 12 + 0 ≤ _)⟩)
    dsimp only [Pt.U, Pt.locs, Pt.cells, Pt.slots] at X11 l11 y11 z11 st11 hQ11
    subst l11 y11 z11
    obtain ⟨rfl, Nq11, eq11⟩ := hQ11
    have N11 := Fr.app N2 Nq11
    have e11 : T11.heap = T2.heap := eq11
    refine own_go (fun t k => st11 t k) ?_
    show OwnG p.tables e below _ (T11.setTop (mkF m 24 #[.val (.int p0), .val (.int p1), .val (.int z1), .val (.ref o_OPTIONS), .unset] [(own_val z1 o_ERROR o_STARTUP o_READY o_OPTIONS o_SUPPORTED o_QUERY o_RESULT o_PREPARE o_EXECUTE o_REGISTER o_BATCH o_AUTH_RESPONSE)]))
    rw [al4]
    show OwnG p.tables e below _ (T11.setTop (mkF m 24 #[.val (.int p0), .val (.int p1), .val (.int z1), .val (.ref o_OPTIONS), .unset] [(.ref o_OPTIONS)]))
    refine own_go (fun t k => XS.astore X11.here hx rfl (hb hby at_24) rfl rfl (l' := #[.val (.int p0), .val (.int p1), .val (.int z1), .val (.ref o_OPTIONS), .val (.ref o_OPTIONS)]) rfl k) ?_
    show OwnG p.tables e below _ (T11.setTop (mkF m 26 #[.val (.int p0), .val (.int p1), .val (.int z1), .val (.ref o_OPTIONS), .val (.ref o_OPTIONS)] []))
    refine own_go (fun t k => XS.aloadN X11.here hx rfl (hb hby at_26) rfl rfl k) ?_
    show OwnG p.tables e below _ (T11.setTop (mkF m 27 #[.val (.int p0), .val (.int p1), .val (.int z1), .val (.ref o_OPTIONS), .val (.ref o_OPTIONS)] [(.ref o_OPTIONS)]))
    refine own_go (fun t k => XS.aload X11.here hx rfl (hb hby at_27) rfl rfl k) ?_
    show OwnG p.tables e below _ (T11.setTop (mkF m 29 #[.val (.int p0), .val (.int p1), .val (.int z1), .val (.ref o_OPTIONS), .val (.ref o_OPTIONS)] [(.ref o_OPTIONS), (.ref o_OPTIONS)]))
    refine own_go (fun t k => Jvm.RoadKit.acmp (g := (mkF m 29 #[.val (.int p0), .val (.int p1), .val (.int z1), .val (.ref o_OPTIONS), .val (.ref o_OPTIONS)] [(.ref o_OPTIONS), (.ref o_OPTIONS)])) X11 hx rfl rfl rfl (pc0 := 29) (pc' := 34) (same := true) rfl (hb hby at_29) rfl (decide_eq_true rfl) (by decide) (by decide) k) ?_
    show OwnG p.tables e below _ (T11.setTop (mkF m 34 #[.val (.int p0), .val (.int p1), .val (.int z1), .val (.ref o_OPTIONS), .val (.ref o_OPTIONS)] []))
    refine own_go (fun t k => XS.aloadN X11.here hx rfl (hb hby at_34) rfl rfl k) ?_
    show OwnG p.tables e below _ (T11.setTop (mkF m 35 #[.val (.int p0), .val (.int p1), .val (.int z1), .val (.ref o_OPTIONS), .val (.ref o_OPTIONS)] [(.ref o_OPTIONS)]))
    refine own_go (fun t k => XS.ifnullNo X11.here hx rfl (hb hby at_35) rfl k) ?_
    show OwnG p.tables e below _ (T11.setTop (mkF m 38 #[.val (.int p0), .val (.int p1), .val (.int z1), .val (.ref o_OPTIONS), .val (.ref o_OPTIONS)] []))
    refine own_go (fun t k => XS.aloadN X11.here hx rfl (hb hby at_38) rfl rfl k) ?_
    show OwnG p.tables e below _ (T11.setTop (mkF m 39 #[.val (.int p0), .val (.int p1), .val (.int z1), .val (.ref o_OPTIONS), .val (.ref o_OPTIONS)] [(.ref o_OPTIONS)]))
    obtain ⟨cq12, kq12, q12a, q12b, q12c⟩ := isOf hZ e11 (E_o_OPTIONS.ext F3.2)
    obtain ⟨_, _, ⟨T12, L12, k12, n12⟩, -, X12, ⟨Lc12, hQ12, l12, y12, z12⟩, st12⟩ := X11.virtualBack hx (y := (⟨"com/example/keyspace/keyspace/server/Opcode", "code", "()I"⟩ : MethodName)) (z := (⟨"com/example/keyspace/keyspace/server/Opcode", "code", "()I"⟩ : MethodName)) hown (mvT hZ (hw _ (List.mem_of_getElem? (i := 38) rfl))) (mvT hZ (hw _ (List.mem_of_getElem? (i := 39) rfl))) (notFace_of_selects (args := #[]) (mvT hZ (hw _ (List.mem_of_getElem? (i := 41) rfl)))) (mvT hZ (hw _ (List.mem_of_getElem? (i := 41) rfl))) (mvT hZ (hw _ (List.mem_of_getElem? (i := 40) rfl))) (by decide) (backOf (W := 0) (own_code l Z a0 hw [] o_OPTIONS (5 : Int32) T2.heap n0 Z2 (F_o_OPTIONS_code.ext F3.2)) hZ (hw _ (List.mem_of_getElem? (i := 42) rfl)) (hw _ (List.mem_of_getElem? (i := 2) rfl)) (by decide) (by decide)) q12a q12c (g := (mkF m 39 #[.val (.int p0), .val (.int p1), .val (.int z1), .val (.ref o_OPTIONS), .val (.ref o_OPTIONS)] [(.ref o_OPTIONS)])) rfl (by rw [hml]; rfl) (Steps.refl _) (argsL := []) (rest := []) (lenOf own_pd101 rfl) rfl (by show 2 * 0 + _ ≤ _; exact Nat.le_of_eq rfl) (hb hby at_39) (fun _ _ => ⟨rfl, e11, (by decide : 1 + 0 ≤ _), (by decide : 12 + 0 ≤ _)⟩)
    dsimp only [Pt.U, Pt.locs, Pt.cells, Pt.slots] at X12 l12 y12 z12 st12 hQ12
    subst l12 y12 z12
    obtain ⟨rfl, Nq12, eq12⟩ := hQ12
    have N12 := Fr.app N11 Nq12
    have e12 : T12.heap = T2.heap := eq12
    refine own_go (fun t k => st12.trans k) ?_
    show OwnG p.tables e below _ (T12.setTop (mkF m 42 #[.val (.int p0), .val (.int p1), .val (.int z1), .val (.ref o_OPTIONS), .val (.ref o_OPTIONS)] [(.int (5 : Int32))]))
    refine own_go (fun t k => XS.iloadN X12.here hx rfl (hb hby at_42) rfl  k) ?_
    show OwnG p.tables e below _ (T12.setTop (mkF m 43 #[.val (.int p0), .val (.int p1), .val (.int z1), .val (.ref o_OPTIONS), .val (.ref o_OPTIONS)] [(.int z1), (.int (5 : Int32))]))
    refine own_go (fun t k => XS.icmpYes X12.here hx rfl (pc0 := 43) (pc' := 48) rfl (hb hby at_43) rfl (teq ax4.symm).1 (by decide) (by decide) k) ?_
    show OwnG p.tables e below _ (T12.setTop (mkF m 48 #[.val (.int p0), .val (.int p1), .val (.int z1), .val (.ref o_OPTIONS), .val (.ref o_OPTIONS)] []))
    refine own_go (fun t k => XS.iconst X12.here hx rfl (hb hby at_48) k) ?_
    show OwnG p.tables e below _ (T12.setTop (mkF m 49 #[.val (.int p0), .val (.int p1), .val (.int z1), .val (.ref o_OPTIONS), .val (.ref o_OPTIONS)] [(.int (1 : Int32))]))
    obtain ⟨fs, hr, hrun, hended, hW, hsame⟩ := X12.leave (v := some (.int (1 : Int32))) (fun h => by rw [Bd.returns] at h; cases h)
    refine ⟨_, _, retN X12 hx (t := .boolean) Bd.returns (by simp) (hb hby at_49) hr, hrun, hended, _, _, rfl, ?_, ⟨_, rfl⟩, hW, hsame.mono (by decide) (by decide)⟩
    show Q_own_law Z p0 p1 o__VALUES o_ERROR o_STARTUP o_READY o_OPTIONS o_SUPPORTED o_QUERY o_RESULT o_PREPARE o_EXECUTE o_REGISTER o_BATCH o_AUTH_RESPONSE kc_o__VALUES h0 n0 _ T12.heap _
    rw [e12]
    exact ⟨rfl, N12⟩
  · rw [al4]
    show OwnG p.tables e below _ (T2.setTop (mkF m 19 #[.val (.int p0), .val (.int p1), .val (.int z1), .unset, .unset] [(.ref o_SUPPORTED)]))
    refine own_go (fun t k => XS.astoreN X2.here hx rfl (hb hby at_19) rfl rfl (l' := #[.val (.int p0), .val (.int p1), .val (.int z1), .val (.ref o_SUPPORTED), .unset]) rfl k) ?_
    show OwnG p.tables e below _ (T2.setTop (mkF m 20 #[.val (.int p0), .val (.int p1), .val (.int z1), .val (.ref o_SUPPORTED), .unset] []))
    refine own_go (fun t k => XS.iloadN X2.here hx rfl (hb hby at_20) rfl  k) ?_
    show OwnG p.tables e below _ (T2.setTop (mkF m 21 #[.val (.int p0), .val (.int p1), .val (.int z1), .val (.ref o_SUPPORTED), .unset] [(.int z1)]))
    obtain ⟨_, _, ⟨T13, L13, k13, n13⟩, -, X13, ⟨Lc13, hQ13, l13, y13, z13⟩, st13⟩ := Jvm.LawKit.callS X2 hx (y := (⟨"com/example/keyspace/keyspace/server/OpcodeOfPinLaw", "expected", "(I)Lcom/example/keyspace/keyspace/server/Opcode;"⟩ : MethodName)) hown (mvT hZ (hw _ (List.mem_of_getElem? (i := 33) rfl))) (mvT hZ (hw _ (List.mem_of_getElem? (i := 34) rfl))) (mvT hZ (hw _ (List.mem_of_getElem? (i := 35) rfl))) (mvT hZ (hw _ (List.mem_of_getElem? (i := 36) rfl))) (by decide) (backOf (W := 0) (own_expected l Z a0 hw [] z1 o__VALUES o_ERROR o_STARTUP o_READY o_OPTIONS o_SUPPORTED o_QUERY o_RESULT o_PREPARE o_EXECUTE o_REGISTER o_BATCH o_AUTH_RESPONSE kc_o__VALUES T2.heap n0 Z2 F3 S__VALUES E_o__VALUES S_ERROR E_o_ERROR S_STARTUP E_o_STARTUP S_READY E_o_READY S_OPTIONS E_o_OPTIONS S_SUPPORTED E_o_SUPPORTED S_QUERY E_o_QUERY S_RESULT E_o_RESULT S_PREPARE E_o_PREPARE S_EXECUTE E_o_EXECUTE S_REGISTER E_o_REGISTER S_BATCH E_o_BATCH S_AUTH_RESPONSE E_o_AUTH_RESPONSE F_o_ERROR_code F_o_STARTUP_code F_o_READY_code F_o_OPTIONS_code F_o_SUPPORTED_code F_o_QUERY_code F_o_RESULT_code F_o_PREPARE_code F_o_EXECUTE_code F_o_REGISTER_code F_o_BATCH_code F_o_AUTH_RESPONSE_code V_o__VALUES) hZ (hw _ (List.mem_of_getElem? (i := 36) rfl)) (hw _ (List.mem_of_getElem? (i := 35) rfl)) (by decide) (by decide)) (g := (mkF m 21 #[.val (.int p0), .val (.int p1), .val (.int z1), .val (.ref o_SUPPORTED), .unset] [(.int z1)])) rfl (by rw [hml]; rfl) (argsL := [(.int z1)]) (rest := []) (lenOf own_pd100 rfl) rfl (by show 2 * 0 + _ ≤ _; exact Nat.le_of_eq rfl) (hb hby at_21) (fun _ _ => ⟨rfl, rfl, (by decide : 1 + 0 ≤ _), (by decide : 12 + 0 ≤ _)⟩)
    dsimp only [Pt.U, Pt.locs, Pt.cells, Pt.slots] at X13 l13 y13 z13 st13 hQ13
    subst l13 y13 z13
    obtain ⟨rfl, Nq13, eq13⟩ := hQ13
    have N13 := Fr.app N2 Nq13
    have e13 : T13.heap = T2.heap := eq13
    refine own_go (fun t k => st13 t k) ?_
    show OwnG p.tables e below _ (T13.setTop (mkF m 24 #[.val (.int p0), .val (.int p1), .val (.int z1), .val (.ref o_SUPPORTED), .unset] [(own_val z1 o_ERROR o_STARTUP o_READY o_OPTIONS o_SUPPORTED o_QUERY o_RESULT o_PREPARE o_EXECUTE o_REGISTER o_BATCH o_AUTH_RESPONSE)]))
    rw [al4]
    show OwnG p.tables e below _ (T13.setTop (mkF m 24 #[.val (.int p0), .val (.int p1), .val (.int z1), .val (.ref o_SUPPORTED), .unset] [(.ref o_SUPPORTED)]))
    refine own_go (fun t k => XS.astore X13.here hx rfl (hb hby at_24) rfl rfl (l' := #[.val (.int p0), .val (.int p1), .val (.int z1), .val (.ref o_SUPPORTED), .val (.ref o_SUPPORTED)]) rfl k) ?_
    show OwnG p.tables e below _ (T13.setTop (mkF m 26 #[.val (.int p0), .val (.int p1), .val (.int z1), .val (.ref o_SUPPORTED), .val (.ref o_SUPPORTED)] []))
    refine own_go (fun t k => XS.aloadN X13.here hx rfl (hb hby at_26) rfl rfl k) ?_
    show OwnG p.tables e below _ (T13.setTop (mkF m 27 #[.val (.int p0), .val (.int p1), .val (.int z1), .val (.ref o_SUPPORTED), .val (.ref o_SUPPORTED)] [(.ref o_SUPPORTED)]))
    refine own_go (fun t k => XS.aload X13.here hx rfl (hb hby at_27) rfl rfl k) ?_
    show OwnG p.tables e below _ (T13.setTop (mkF m 29 #[.val (.int p0), .val (.int p1), .val (.int z1), .val (.ref o_SUPPORTED), .val (.ref o_SUPPORTED)] [(.ref o_SUPPORTED), (.ref o_SUPPORTED)]))
    refine own_go (fun t k => Jvm.RoadKit.acmp (g := (mkF m 29 #[.val (.int p0), .val (.int p1), .val (.int z1), .val (.ref o_SUPPORTED), .val (.ref o_SUPPORTED)] [(.ref o_SUPPORTED), (.ref o_SUPPORTED)])) X13 hx rfl rfl rfl (pc0 := 29) (pc' := 34) (same := true) rfl (hb hby at_29) rfl (decide_eq_true rfl) (by decide) (by decide) k) ?_
    show OwnG p.tables e below _ (T13.setTop (mkF m 34 #[.val (.int p0), .val (.int p1), .val (.int z1), .val (.ref o_SUPPORTED), .val (.ref o_SUPPORTED)] []))
    refine own_go (fun t k => XS.aloadN X13.here hx rfl (hb hby at_34) rfl rfl k) ?_
    show OwnG p.tables e below _ (T13.setTop (mkF m 35 #[.val (.int p0), .val (.int p1), .val (.int z1), .val (.ref o_SUPPORTED), .val (.ref o_SUPPORTED)] [(.ref o_SUPPORTED)]))
    refine own_go (fun t k => XS.ifnullNo X13.here hx rfl (hb hby at_35) rfl k) ?_
    show OwnG p.tables e below _ (T13.setTop (mkF m 38 #[.val (.int p0), .val (.int p1), .val (.int z1), .val (.ref o_SUPPORTED), .val (.ref o_SUPPORTED)] []))
    refine own_go (fun t k => XS.aloadN X13.here hx rfl (hb hby at_38) rfl rfl k) ?_
    show OwnG p.tables e below _ (T13.setTop (mkF m 39 #[.val (.int p0), .val (.int p1), .val (.int z1), .val (.ref o_SUPPORTED), .val (.ref o_SUPPORTED)] [(.ref o_SUPPORTED)]))
    obtain ⟨cq14, kq14, q14a, q14b, q14c⟩ := isOf hZ e13 (E_o_SUPPORTED.ext F3.2)
    obtain ⟨_, _, ⟨T14, L14, k14, n14⟩, -, X14, ⟨Lc14, hQ14, l14, y14, z14⟩, st14⟩ := X13.virtualBack hx (y := (⟨"com/example/keyspace/keyspace/server/Opcode", "code", "()I"⟩ : MethodName)) (z := (⟨"com/example/keyspace/keyspace/server/Opcode", "code", "()I"⟩ : MethodName)) hown (mvT hZ (hw _ (List.mem_of_getElem? (i := 38) rfl))) (mvT hZ (hw _ (List.mem_of_getElem? (i := 39) rfl))) (notFace_of_selects (args := #[]) (mvT hZ (hw _ (List.mem_of_getElem? (i := 41) rfl)))) (mvT hZ (hw _ (List.mem_of_getElem? (i := 41) rfl))) (mvT hZ (hw _ (List.mem_of_getElem? (i := 40) rfl))) (by decide) (backOf (W := 0) (own_code l Z a0 hw [] o_SUPPORTED (6 : Int32) T2.heap n0 Z2 (F_o_SUPPORTED_code.ext F3.2)) hZ (hw _ (List.mem_of_getElem? (i := 42) rfl)) (hw _ (List.mem_of_getElem? (i := 2) rfl)) (by decide) (by decide)) q14a q14c (g := (mkF m 39 #[.val (.int p0), .val (.int p1), .val (.int z1), .val (.ref o_SUPPORTED), .val (.ref o_SUPPORTED)] [(.ref o_SUPPORTED)])) rfl (by rw [hml]; rfl) (Steps.refl _) (argsL := []) (rest := []) (lenOf own_pd101 rfl) rfl (by show 2 * 0 + _ ≤ _; exact Nat.le_of_eq rfl) (hb hby at_39) (fun _ _ => ⟨rfl, e13, (by decide : 1 + 0 ≤ _), (by decide : 12 + 0 ≤ _)⟩)
    dsimp only [Pt.U, Pt.locs, Pt.cells, Pt.slots] at X14 l14 y14 z14 st14 hQ14
    subst l14 y14 z14
    obtain ⟨rfl, Nq14, eq14⟩ := hQ14
    have N14 := Fr.app N13 Nq14
    have e14 : T14.heap = T2.heap := eq14
    refine own_go (fun t k => st14.trans k) ?_
    show OwnG p.tables e below _ (T14.setTop (mkF m 42 #[.val (.int p0), .val (.int p1), .val (.int z1), .val (.ref o_SUPPORTED), .val (.ref o_SUPPORTED)] [(.int (6 : Int32))]))
    refine own_go (fun t k => XS.iloadN X14.here hx rfl (hb hby at_42) rfl  k) ?_
    show OwnG p.tables e below _ (T14.setTop (mkF m 43 #[.val (.int p0), .val (.int p1), .val (.int z1), .val (.ref o_SUPPORTED), .val (.ref o_SUPPORTED)] [(.int z1), (.int (6 : Int32))]))
    refine own_go (fun t k => XS.icmpYes X14.here hx rfl (pc0 := 43) (pc' := 48) rfl (hb hby at_43) rfl (teq ax4.symm).1 (by decide) (by decide) k) ?_
    show OwnG p.tables e below _ (T14.setTop (mkF m 48 #[.val (.int p0), .val (.int p1), .val (.int z1), .val (.ref o_SUPPORTED), .val (.ref o_SUPPORTED)] []))
    refine own_go (fun t k => XS.iconst X14.here hx rfl (hb hby at_48) k) ?_
    show OwnG p.tables e below _ (T14.setTop (mkF m 49 #[.val (.int p0), .val (.int p1), .val (.int z1), .val (.ref o_SUPPORTED), .val (.ref o_SUPPORTED)] [(.int (1 : Int32))]))
    obtain ⟨fs, hr, hrun, hended, hW, hsame⟩ := X14.leave (v := some (.int (1 : Int32))) (fun h => by rw [Bd.returns] at h; cases h)
    refine ⟨_, _, retN X14 hx (t := .boolean) Bd.returns (by simp) (hb hby at_49) hr, hrun, hended, _, _, rfl, ?_, ⟨_, rfl⟩, hW, hsame.mono (by decide) (by decide)⟩
    show Q_own_law Z p0 p1 o__VALUES o_ERROR o_STARTUP o_READY o_OPTIONS o_SUPPORTED o_QUERY o_RESULT o_PREPARE o_EXECUTE o_REGISTER o_BATCH o_AUTH_RESPONSE kc_o__VALUES h0 n0 _ T14.heap _
    rw [e14]
    exact ⟨rfl, N14⟩
  · rw [al4]
    show OwnG p.tables e below _ (T2.setTop (mkF m 19 #[.val (.int p0), .val (.int p1), .val (.int z1), .unset, .unset] [(.ref o_QUERY)]))
    refine own_go (fun t k => XS.astoreN X2.here hx rfl (hb hby at_19) rfl rfl (l' := #[.val (.int p0), .val (.int p1), .val (.int z1), .val (.ref o_QUERY), .unset]) rfl k) ?_
    show OwnG p.tables e below _ (T2.setTop (mkF m 20 #[.val (.int p0), .val (.int p1), .val (.int z1), .val (.ref o_QUERY), .unset] []))
    refine own_go (fun t k => XS.iloadN X2.here hx rfl (hb hby at_20) rfl  k) ?_
    show OwnG p.tables e below _ (T2.setTop (mkF m 21 #[.val (.int p0), .val (.int p1), .val (.int z1), .val (.ref o_QUERY), .unset] [(.int z1)]))
    obtain ⟨_, _, ⟨T15, L15, k15, n15⟩, -, X15, ⟨Lc15, hQ15, l15, y15, z15⟩, st15⟩ := Jvm.LawKit.callS X2 hx (y := (⟨"com/example/keyspace/keyspace/server/OpcodeOfPinLaw", "expected", "(I)Lcom/example/keyspace/keyspace/server/Opcode;"⟩ : MethodName)) hown (mvT hZ (hw _ (List.mem_of_getElem? (i := 33) rfl))) (mvT hZ (hw _ (List.mem_of_getElem? (i := 34) rfl))) (mvT hZ (hw _ (List.mem_of_getElem? (i := 35) rfl))) (mvT hZ (hw _ (List.mem_of_getElem? (i := 36) rfl))) (by decide) (backOf (W := 0) (own_expected l Z a0 hw [] z1 o__VALUES o_ERROR o_STARTUP o_READY o_OPTIONS o_SUPPORTED o_QUERY o_RESULT o_PREPARE o_EXECUTE o_REGISTER o_BATCH o_AUTH_RESPONSE kc_o__VALUES T2.heap n0 Z2 F3 S__VALUES E_o__VALUES S_ERROR E_o_ERROR S_STARTUP E_o_STARTUP S_READY E_o_READY S_OPTIONS E_o_OPTIONS S_SUPPORTED E_o_SUPPORTED S_QUERY E_o_QUERY S_RESULT E_o_RESULT S_PREPARE E_o_PREPARE S_EXECUTE E_o_EXECUTE S_REGISTER E_o_REGISTER S_BATCH E_o_BATCH S_AUTH_RESPONSE E_o_AUTH_RESPONSE F_o_ERROR_code F_o_STARTUP_code F_o_READY_code F_o_OPTIONS_code F_o_SUPPORTED_code F_o_QUERY_code F_o_RESULT_code F_o_PREPARE_code F_o_EXECUTE_code F_o_REGISTER_code F_o_BATCH_code F_o_AUTH_RESPONSE_code V_o__VALUES) hZ (hw _ (List.mem_of_getElem? (i := 36) rfl)) (hw _ (List.mem_of_getElem? (i := 35) rfl)) (by decide) (by decide)) (g := (mkF m 21 #[.val (.int p0), .val (.int p1), .val (.int z1), .val (.ref o_QUERY), .unset] [(.int z1)])) rfl (by rw [hml]; rfl) (argsL := [(.int z1)]) (rest := []) (lenOf own_pd100 rfl) rfl (by show 2 * 0 + _ ≤ _; exact Nat.le_of_eq rfl) (hb hby at_21) (fun _ _ => ⟨rfl, rfl, (by decide : 1 + 0 ≤ _), (by decide : 12 + 0 ≤ _)⟩)
    dsimp only [Pt.U, Pt.locs, Pt.cells, Pt.slots] at X15 l15 y15 z15 st15 hQ15
    subst l15 y15 z15
    obtain ⟨rfl, Nq15, eq15⟩ := hQ15
    have N15 := Fr.app N2 Nq15
    have e15 : T15.heap = T2.heap := eq15
    refine own_go (fun t k => st15 t k) ?_
    show OwnG p.tables e below _ (T15.setTop (mkF m 24 #[.val (.int p0), .val (.int p1), .val (.int z1), .val (.ref o_QUERY), .unset] [(own_val z1 o_ERROR o_STARTUP o_READY o_OPTIONS o_SUPPORTED o_QUERY o_RESULT o_PREPARE o_EXECUTE o_REGISTER o_BATCH o_AUTH_RESPONSE)]))
    rw [al4]
    show OwnG p.tables e below _ (T15.setTop (mkF m 24 #[.val (.int p0), .val (.int p1), .val (.int z1), .val (.ref o_QUERY), .unset] [(.ref o_QUERY)]))
    refine own_go (fun t k => XS.astore X15.here hx rfl (hb hby at_24) rfl rfl (l' := #[.val (.int p0), .val (.int p1), .val (.int z1), .val (.ref o_QUERY), .val (.ref o_QUERY)]) rfl k) ?_
    show OwnG p.tables e below _ (T15.setTop (mkF m 26 #[.val (.int p0), .val (.int p1), .val (.int z1), .val (.ref o_QUERY), .val (.ref o_QUERY)] []))
    refine own_go (fun t k => XS.aloadN X15.here hx rfl (hb hby at_26) rfl rfl k) ?_
    show OwnG p.tables e below _ (T15.setTop (mkF m 27 #[.val (.int p0), .val (.int p1), .val (.int z1), .val (.ref o_QUERY), .val (.ref o_QUERY)] [(.ref o_QUERY)]))
    refine own_go (fun t k => XS.aload X15.here hx rfl (hb hby at_27) rfl rfl k) ?_
    show OwnG p.tables e below _ (T15.setTop (mkF m 29 #[.val (.int p0), .val (.int p1), .val (.int z1), .val (.ref o_QUERY), .val (.ref o_QUERY)] [(.ref o_QUERY), (.ref o_QUERY)]))
    refine own_go (fun t k => Jvm.RoadKit.acmp (g := (mkF m 29 #[.val (.int p0), .val (.int p1), .val (.int z1), .val (.ref o_QUERY), .val (.ref o_QUERY)] [(.ref o_QUERY), (.ref o_QUERY)])) X15 hx rfl rfl rfl (pc0 := 29) (pc' := 34) (same := true) rfl (hb hby at_29) rfl (decide_eq_true rfl) (by decide) (by decide) k) ?_
    show OwnG p.tables e below _ (T15.setTop (mkF m 34 #[.val (.int p0), .val (.int p1), .val (.int z1), .val (.ref o_QUERY), .val (.ref o_QUERY)] []))
    refine own_go (fun t k => XS.aloadN X15.here hx rfl (hb hby at_34) rfl rfl k) ?_
    show OwnG p.tables e below _ (T15.setTop (mkF m 35 #[.val (.int p0), .val (.int p1), .val (.int z1), .val (.ref o_QUERY), .val (.ref o_QUERY)] [(.ref o_QUERY)]))
    refine own_go (fun t k => XS.ifnullNo X15.here hx rfl (hb hby at_35) rfl k) ?_
    show OwnG p.tables e below _ (T15.setTop (mkF m 38 #[.val (.int p0), .val (.int p1), .val (.int z1), .val (.ref o_QUERY), .val (.ref o_QUERY)] []))
    refine own_go (fun t k => XS.aloadN X15.here hx rfl (hb hby at_38) rfl rfl k) ?_
    show OwnG p.tables e below _ (T15.setTop (mkF m 39 #[.val (.int p0), .val (.int p1), .val (.int z1), .val (.ref o_QUERY), .val (.ref o_QUERY)] [(.ref o_QUERY)]))
    obtain ⟨cq16, kq16, q16a, q16b, q16c⟩ := isOf hZ e15 (E_o_QUERY.ext F3.2)
    obtain ⟨_, _, ⟨T16, L16, k16, n16⟩, -, X16, ⟨Lc16, hQ16, l16, y16, z16⟩, st16⟩ := X15.virtualBack hx (y := (⟨"com/example/keyspace/keyspace/server/Opcode", "code", "()I"⟩ : MethodName)) (z := (⟨"com/example/keyspace/keyspace/server/Opcode", "code", "()I"⟩ : MethodName)) hown (mvT hZ (hw _ (List.mem_of_getElem? (i := 38) rfl))) (mvT hZ (hw _ (List.mem_of_getElem? (i := 39) rfl))) (notFace_of_selects (args := #[]) (mvT hZ (hw _ (List.mem_of_getElem? (i := 41) rfl)))) (mvT hZ (hw _ (List.mem_of_getElem? (i := 41) rfl))) (mvT hZ (hw _ (List.mem_of_getElem? (i := 40) rfl))) (by decide) (backOf (W := 0) (own_code l Z a0 hw [] o_QUERY (7 : Int32) T2.heap n0 Z2 (F_o_QUERY_code.ext F3.2)) hZ (hw _ (List.mem_of_getElem? (i := 42) rfl)) (hw _ (List.mem_of_getElem? (i := 2) rfl)) (by decide) (by decide)) q16a q16c (g := (mkF m 39 #[.val (.int p0), .val (.int p1), .val (.int z1), .val (.ref o_QUERY), .val (.ref o_QUERY)] [(.ref o_QUERY)])) rfl (by rw [hml]; rfl) (Steps.refl _) (argsL := []) (rest := []) (lenOf own_pd101 rfl) rfl (by show 2 * 0 + _ ≤ _; exact Nat.le_of_eq rfl) (hb hby at_39) (fun _ _ => ⟨rfl, e15, (by decide : 1 + 0 ≤ _), (by decide : 12 + 0 ≤ _)⟩)
    dsimp only [Pt.U, Pt.locs, Pt.cells, Pt.slots] at X16 l16 y16 z16 st16 hQ16
    subst l16 y16 z16
    obtain ⟨rfl, Nq16, eq16⟩ := hQ16
    have N16 := Fr.app N15 Nq16
    have e16 : T16.heap = T2.heap := eq16
    refine own_go (fun t k => st16.trans k) ?_
    show OwnG p.tables e below _ (T16.setTop (mkF m 42 #[.val (.int p0), .val (.int p1), .val (.int z1), .val (.ref o_QUERY), .val (.ref o_QUERY)] [(.int (7 : Int32))]))
    refine own_go (fun t k => XS.iloadN X16.here hx rfl (hb hby at_42) rfl  k) ?_
    show OwnG p.tables e below _ (T16.setTop (mkF m 43 #[.val (.int p0), .val (.int p1), .val (.int z1), .val (.ref o_QUERY), .val (.ref o_QUERY)] [(.int z1), (.int (7 : Int32))]))
    refine own_go (fun t k => XS.icmpYes X16.here hx rfl (pc0 := 43) (pc' := 48) rfl (hb hby at_43) rfl (teq ax4.symm).1 (by decide) (by decide) k) ?_
    show OwnG p.tables e below _ (T16.setTop (mkF m 48 #[.val (.int p0), .val (.int p1), .val (.int z1), .val (.ref o_QUERY), .val (.ref o_QUERY)] []))
    refine own_go (fun t k => XS.iconst X16.here hx rfl (hb hby at_48) k) ?_
    show OwnG p.tables e below _ (T16.setTop (mkF m 49 #[.val (.int p0), .val (.int p1), .val (.int z1), .val (.ref o_QUERY), .val (.ref o_QUERY)] [(.int (1 : Int32))]))
    obtain ⟨fs, hr, hrun, hended, hW, hsame⟩ := X16.leave (v := some (.int (1 : Int32))) (fun h => by rw [Bd.returns] at h; cases h)
    refine ⟨_, _, retN X16 hx (t := .boolean) Bd.returns (by simp) (hb hby at_49) hr, hrun, hended, _, _, rfl, ?_, ⟨_, rfl⟩, hW, hsame.mono (by decide) (by decide)⟩
    show Q_own_law Z p0 p1 o__VALUES o_ERROR o_STARTUP o_READY o_OPTIONS o_SUPPORTED o_QUERY o_RESULT o_PREPARE o_EXECUTE o_REGISTER o_BATCH o_AUTH_RESPONSE kc_o__VALUES h0 n0 _ T16.heap _
    rw [e16]
    exact ⟨rfl, N16⟩
  · rw [al4]
    show OwnG p.tables e below _ (T2.setTop (mkF m 19 #[.val (.int p0), .val (.int p1), .val (.int z1), .unset, .unset] [(.ref o_RESULT)]))
    refine own_go (fun t k => XS.astoreN X2.here hx rfl (hb hby at_19) rfl rfl (l' := #[.val (.int p0), .val (.int p1), .val (.int z1), .val (.ref o_RESULT), .unset]) rfl k) ?_
    show OwnG p.tables e below _ (T2.setTop (mkF m 20 #[.val (.int p0), .val (.int p1), .val (.int z1), .val (.ref o_RESULT), .unset] []))
    refine own_go (fun t k => XS.iloadN X2.here hx rfl (hb hby at_20) rfl  k) ?_
    show OwnG p.tables e below _ (T2.setTop (mkF m 21 #[.val (.int p0), .val (.int p1), .val (.int z1), .val (.ref o_RESULT), .unset] [(.int z1)]))
    obtain ⟨_, _, ⟨T17, L17, k17, n17⟩, -, X17, ⟨Lc17, hQ17, l17, y17, z17⟩, st17⟩ := Jvm.LawKit.callS X2 hx (y := (⟨"com/example/keyspace/keyspace/server/OpcodeOfPinLaw", "expected", "(I)Lcom/example/keyspace/keyspace/server/Opcode;"⟩ : MethodName)) hown (mvT hZ (hw _ (List.mem_of_getElem? (i := 33) rfl))) (mvT hZ (hw _ (List.mem_of_getElem? (i := 34) rfl))) (mvT hZ (hw _ (List.mem_of_getElem? (i := 35) rfl))) (mvT hZ (hw _ (List.mem_of_getElem? (i := 36) rfl))) (by decide) (backOf (W := 0) (own_expected l Z a0 hw [] z1 o__VALUES o_ERROR o_STARTUP o_READY o_OPTIONS o_SUPPORTED o_QUERY o_RESULT o_PREPARE o_EXECUTE o_REGISTER o_BATCH o_AUTH_RESPONSE kc_o__VALUES T2.heap n0 Z2 F3 S__VALUES E_o__VALUES S_ERROR E_o_ERROR S_STARTUP E_o_STARTUP S_READY E_o_READY S_OPTIONS E_o_OPTIONS S_SUPPORTED E_o_SUPPORTED S_QUERY E_o_QUERY S_RESULT E_o_RESULT S_PREPARE E_o_PREPARE S_EXECUTE E_o_EXECUTE S_REGISTER E_o_REGISTER S_BATCH E_o_BATCH S_AUTH_RESPONSE E_o_AUTH_RESPONSE F_o_ERROR_code F_o_STARTUP_code F_o_READY_code F_o_OPTIONS_code F_o_SUPPORTED_code F_o_QUERY_code F_o_RESULT_code F_o_PREPARE_code F_o_EXECUTE_code F_o_REGISTER_code F_o_BATCH_code F_o_AUTH_RESPONSE_code V_o__VALUES) hZ (hw _ (List.mem_of_getElem? (i := 36) rfl)) (hw _ (List.mem_of_getElem? (i := 35) rfl)) (by decide) (by decide)) (g := (mkF m 21 #[.val (.int p0), .val (.int p1), .val (.int z1), .val (.ref o_RESULT), .unset] [(.int z1)])) rfl (by rw [hml]; rfl) (argsL := [(.int z1)]) (rest := []) (lenOf own_pd100 rfl) rfl (by show 2 * 0 + _ ≤ _; exact Nat.le_of_eq rfl) (hb hby at_21) (fun _ _ => ⟨rfl, rfl, (by decide : 1 + 0 ≤ _), (by decide : 12 + 0 ≤ _)⟩)
    dsimp only [Pt.U, Pt.locs, Pt.cells, Pt.slots] at X17 l17 y17 z17 st17 hQ17
    subst l17 y17 z17
    obtain ⟨rfl, Nq17, eq17⟩ := hQ17
    have N17 := Fr.app N2 Nq17
    have e17 : T17.heap = T2.heap := eq17
    refine own_go (fun t k => st17 t k) ?_
    show OwnG p.tables e below _ (T17.setTop (mkF m 24 #[.val (.int p0), .val (.int p1), .val (.int z1), .val (.ref o_RESULT), .unset] [(own_val z1 o_ERROR o_STARTUP o_READY o_OPTIONS o_SUPPORTED o_QUERY o_RESULT o_PREPARE o_EXECUTE o_REGISTER o_BATCH o_AUTH_RESPONSE)]))
    rw [al4]
    show OwnG p.tables e below _ (T17.setTop (mkF m 24 #[.val (.int p0), .val (.int p1), .val (.int z1), .val (.ref o_RESULT), .unset] [(.ref o_RESULT)]))
    refine own_go (fun t k => XS.astore X17.here hx rfl (hb hby at_24) rfl rfl (l' := #[.val (.int p0), .val (.int p1), .val (.int z1), .val (.ref o_RESULT), .val (.ref o_RESULT)]) rfl k) ?_
    show OwnG p.tables e below _ (T17.setTop (mkF m 26 #[.val (.int p0), .val (.int p1), .val (.int z1), .val (.ref o_RESULT), .val (.ref o_RESULT)] []))
    refine own_go (fun t k => XS.aloadN X17.here hx rfl (hb hby at_26) rfl rfl k) ?_
    show OwnG p.tables e below _ (T17.setTop (mkF m 27 #[.val (.int p0), .val (.int p1), .val (.int z1), .val (.ref o_RESULT), .val (.ref o_RESULT)] [(.ref o_RESULT)]))
    refine own_go (fun t k => XS.aload X17.here hx rfl (hb hby at_27) rfl rfl k) ?_
    show OwnG p.tables e below _ (T17.setTop (mkF m 29 #[.val (.int p0), .val (.int p1), .val (.int z1), .val (.ref o_RESULT), .val (.ref o_RESULT)] [(.ref o_RESULT), (.ref o_RESULT)]))
    refine own_go (fun t k => Jvm.RoadKit.acmp (g := (mkF m 29 #[.val (.int p0), .val (.int p1), .val (.int z1), .val (.ref o_RESULT), .val (.ref o_RESULT)] [(.ref o_RESULT), (.ref o_RESULT)])) X17 hx rfl rfl rfl (pc0 := 29) (pc' := 34) (same := true) rfl (hb hby at_29) rfl (decide_eq_true rfl) (by decide) (by decide) k) ?_
    show OwnG p.tables e below _ (T17.setTop (mkF m 34 #[.val (.int p0), .val (.int p1), .val (.int z1), .val (.ref o_RESULT), .val (.ref o_RESULT)] []))
    refine own_go (fun t k => XS.aloadN X17.here hx rfl (hb hby at_34) rfl rfl k) ?_
    show OwnG p.tables e below _ (T17.setTop (mkF m 35 #[.val (.int p0), .val (.int p1), .val (.int z1), .val (.ref o_RESULT), .val (.ref o_RESULT)] [(.ref o_RESULT)]))
    refine own_go (fun t k => XS.ifnullNo X17.here hx rfl (hb hby at_35) rfl k) ?_
    show OwnG p.tables e below _ (T17.setTop (mkF m 38 #[.val (.int p0), .val (.int p1), .val (.int z1), .val (.ref o_RESULT), .val (.ref o_RESULT)] []))
    refine own_go (fun t k => XS.aloadN X17.here hx rfl (hb hby at_38) rfl rfl k) ?_
    show OwnG p.tables e below _ (T17.setTop (mkF m 39 #[.val (.int p0), .val (.int p1), .val (.int z1), .val (.ref o_RESULT), .val (.ref o_RESULT)] [(.ref o_RESULT)]))
    obtain ⟨cq18, kq18, q18a, q18b, q18c⟩ := isOf hZ e17 (E_o_RESULT.ext F3.2)
    obtain ⟨_, _, ⟨T18, L18, k18, n18⟩, -, X18, ⟨Lc18, hQ18, l18, y18, z18⟩, st18⟩ := X17.virtualBack hx (y := (⟨"com/example/keyspace/keyspace/server/Opcode", "code", "()I"⟩ : MethodName)) (z := (⟨"com/example/keyspace/keyspace/server/Opcode", "code", "()I"⟩ : MethodName)) hown (mvT hZ (hw _ (List.mem_of_getElem? (i := 38) rfl))) (mvT hZ (hw _ (List.mem_of_getElem? (i := 39) rfl))) (notFace_of_selects (args := #[]) (mvT hZ (hw _ (List.mem_of_getElem? (i := 41) rfl)))) (mvT hZ (hw _ (List.mem_of_getElem? (i := 41) rfl))) (mvT hZ (hw _ (List.mem_of_getElem? (i := 40) rfl))) (by decide) (backOf (W := 0) (own_code l Z a0 hw [] o_RESULT (8 : Int32) T2.heap n0 Z2 (F_o_RESULT_code.ext F3.2)) hZ (hw _ (List.mem_of_getElem? (i := 42) rfl)) (hw _ (List.mem_of_getElem? (i := 2) rfl)) (by decide) (by decide)) q18a q18c (g := (mkF m 39 #[.val (.int p0), .val (.int p1), .val (.int z1), .val (.ref o_RESULT), .val (.ref o_RESULT)] [(.ref o_RESULT)])) rfl (by rw [hml]; rfl) (Steps.refl _) (argsL := []) (rest := []) (lenOf own_pd101 rfl) rfl (by show 2 * 0 + _ ≤ _; exact Nat.le_of_eq rfl) (hb hby at_39) (fun _ _ => ⟨rfl, e17, (by decide : 1 + 0 ≤ _), (by decide : 12 + 0 ≤ _)⟩)
    dsimp only [Pt.U, Pt.locs, Pt.cells, Pt.slots] at X18 l18 y18 z18 st18 hQ18
    subst l18 y18 z18
    obtain ⟨rfl, Nq18, eq18⟩ := hQ18
    have N18 := Fr.app N17 Nq18
    have e18 : T18.heap = T2.heap := eq18
    refine own_go (fun t k => st18.trans k) ?_
    show OwnG p.tables e below _ (T18.setTop (mkF m 42 #[.val (.int p0), .val (.int p1), .val (.int z1), .val (.ref o_RESULT), .val (.ref o_RESULT)] [(.int (8 : Int32))]))
    refine own_go (fun t k => XS.iloadN X18.here hx rfl (hb hby at_42) rfl  k) ?_
    show OwnG p.tables e below _ (T18.setTop (mkF m 43 #[.val (.int p0), .val (.int p1), .val (.int z1), .val (.ref o_RESULT), .val (.ref o_RESULT)] [(.int z1), (.int (8 : Int32))]))
    refine own_go (fun t k => XS.icmpYes X18.here hx rfl (pc0 := 43) (pc' := 48) rfl (hb hby at_43) rfl (teq ax4.symm).1 (by decide) (by decide) k) ?_
    show OwnG p.tables e below _ (T18.setTop (mkF m 48 #[.val (.int p0), .val (.int p1), .val (.int z1), .val (.ref o_RESULT), .val (.ref o_RESULT)] []))
    refine own_go (fun t k => XS.iconst X18.here hx rfl (hb hby at_48) k) ?_
    show OwnG p.tables e below _ (T18.setTop (mkF m 49 #[.val (.int p0), .val (.int p1), .val (.int z1), .val (.ref o_RESULT), .val (.ref o_RESULT)] [(.int (1 : Int32))]))
    obtain ⟨fs, hr, hrun, hended, hW, hsame⟩ := X18.leave (v := some (.int (1 : Int32))) (fun h => by rw [Bd.returns] at h; cases h)
    refine ⟨_, _, retN X18 hx (t := .boolean) Bd.returns (by simp) (hb hby at_49) hr, hrun, hended, _, _, rfl, ?_, ⟨_, rfl⟩, hW, hsame.mono (by decide) (by decide)⟩
    show Q_own_law Z p0 p1 o__VALUES o_ERROR o_STARTUP o_READY o_OPTIONS o_SUPPORTED o_QUERY o_RESULT o_PREPARE o_EXECUTE o_REGISTER o_BATCH o_AUTH_RESPONSE kc_o__VALUES h0 n0 _ T18.heap _
    rw [e18]
    exact ⟨rfl, N18⟩
  · rw [al4]
    show OwnG p.tables e below _ (T2.setTop (mkF m 19 #[.val (.int p0), .val (.int p1), .val (.int z1), .unset, .unset] [(.ref o_PREPARE)]))
    refine own_go (fun t k => XS.astoreN X2.here hx rfl (hb hby at_19) rfl rfl (l' := #[.val (.int p0), .val (.int p1), .val (.int z1), .val (.ref o_PREPARE), .unset]) rfl k) ?_
    show OwnG p.tables e below _ (T2.setTop (mkF m 20 #[.val (.int p0), .val (.int p1), .val (.int z1), .val (.ref o_PREPARE), .unset] []))
    refine own_go (fun t k => XS.iloadN X2.here hx rfl (hb hby at_20) rfl  k) ?_
    show OwnG p.tables e below _ (T2.setTop (mkF m 21 #[.val (.int p0), .val (.int p1), .val (.int z1), .val (.ref o_PREPARE), .unset] [(.int z1)]))
    obtain ⟨_, _, ⟨T19, L19, k19, n19⟩, -, X19, ⟨Lc19, hQ19, l19, y19, z19⟩, st19⟩ := Jvm.LawKit.callS X2 hx (y := (⟨"com/example/keyspace/keyspace/server/OpcodeOfPinLaw", "expected", "(I)Lcom/example/keyspace/keyspace/server/Opcode;"⟩ : MethodName)) hown (mvT hZ (hw _ (List.mem_of_getElem? (i := 33) rfl))) (mvT hZ (hw _ (List.mem_of_getElem? (i := 34) rfl))) (mvT hZ (hw _ (List.mem_of_getElem? (i := 35) rfl))) (mvT hZ (hw _ (List.mem_of_getElem? (i := 36) rfl))) (by decide) (backOf (W := 0) (own_expected l Z a0 hw [] z1 o__VALUES o_ERROR o_STARTUP o_READY o_OPTIONS o_SUPPORTED o_QUERY o_RESULT o_PREPARE o_EXECUTE o_REGISTER o_BATCH o_AUTH_RESPONSE kc_o__VALUES T2.heap n0 Z2 F3 S__VALUES E_o__VALUES S_ERROR E_o_ERROR S_STARTUP E_o_STARTUP S_READY E_o_READY S_OPTIONS E_o_OPTIONS S_SUPPORTED E_o_SUPPORTED S_QUERY E_o_QUERY S_RESULT E_o_RESULT S_PREPARE E_o_PREPARE S_EXECUTE E_o_EXECUTE S_REGISTER E_o_REGISTER S_BATCH E_o_BATCH S_AUTH_RESPONSE E_o_AUTH_RESPONSE F_o_ERROR_code F_o_STARTUP_code F_o_READY_code F_o_OPTIONS_code F_o_SUPPORTED_code F_o_QUERY_code F_o_RESULT_code F_o_PREPARE_code F_o_EXECUTE_code F_o_REGISTER_code F_o_BATCH_code F_o_AUTH_RESPONSE_code V_o__VALUES) hZ (hw _ (List.mem_of_getElem? (i := 36) rfl)) (hw _ (List.mem_of_getElem? (i := 35) rfl)) (by decide) (by decide)) (g := (mkF m 21 #[.val (.int p0), .val (.int p1), .val (.int z1), .val (.ref o_PREPARE), .unset] [(.int z1)])) rfl (by rw [hml]; rfl) (argsL := [(.int z1)]) (rest := []) (lenOf own_pd100 rfl) rfl (by show 2 * 0 + _ ≤ _; exact Nat.le_of_eq rfl) (hb hby at_21) (fun _ _ => ⟨rfl, rfl, (by decide : 1 + 0 ≤ _), (by decide : 12 + 0 ≤ _)⟩)
    dsimp only [Pt.U, Pt.locs, Pt.cells, Pt.slots] at X19 l19 y19 z19 st19 hQ19
    subst l19 y19 z19
    obtain ⟨rfl, Nq19, eq19⟩ := hQ19
    have N19 := Fr.app N2 Nq19
    have e19 : T19.heap = T2.heap := eq19
    refine own_go (fun t k => st19 t k) ?_
    show OwnG p.tables e below _ (T19.setTop (mkF m 24 #[.val (.int p0), .val (.int p1), .val (.int z1), .val (.ref o_PREPARE), .unset] [(own_val z1 o_ERROR o_STARTUP o_READY o_OPTIONS o_SUPPORTED o_QUERY o_RESULT o_PREPARE o_EXECUTE o_REGISTER o_BATCH o_AUTH_RESPONSE)]))
    rw [al4]
    show OwnG p.tables e below _ (T19.setTop (mkF m 24 #[.val (.int p0), .val (.int p1), .val (.int z1), .val (.ref o_PREPARE), .unset] [(.ref o_PREPARE)]))
    refine own_go (fun t k => XS.astore X19.here hx rfl (hb hby at_24) rfl rfl (l' := #[.val (.int p0), .val (.int p1), .val (.int z1), .val (.ref o_PREPARE), .val (.ref o_PREPARE)]) rfl k) ?_
    show OwnG p.tables e below _ (T19.setTop (mkF m 26 #[.val (.int p0), .val (.int p1), .val (.int z1), .val (.ref o_PREPARE), .val (.ref o_PREPARE)] []))
    refine own_go (fun t k => XS.aloadN X19.here hx rfl (hb hby at_26) rfl rfl k) ?_
    show OwnG p.tables e below _ (T19.setTop (mkF m 27 #[.val (.int p0), .val (.int p1), .val (.int z1), .val (.ref o_PREPARE), .val (.ref o_PREPARE)] [(.ref o_PREPARE)]))
    refine own_go (fun t k => XS.aload X19.here hx rfl (hb hby at_27) rfl rfl k) ?_
    show OwnG p.tables e below _ (T19.setTop (mkF m 29 #[.val (.int p0), .val (.int p1), .val (.int z1), .val (.ref o_PREPARE), .val (.ref o_PREPARE)] [(.ref o_PREPARE), (.ref o_PREPARE)]))
    refine own_go (fun t k => Jvm.RoadKit.acmp (g := (mkF m 29 #[.val (.int p0), .val (.int p1), .val (.int z1), .val (.ref o_PREPARE), .val (.ref o_PREPARE)] [(.ref o_PREPARE), (.ref o_PREPARE)])) X19 hx rfl rfl rfl (pc0 := 29) (pc' := 34) (same := true) rfl (hb hby at_29) rfl (decide_eq_true rfl) (by decide) (by decide) k) ?_
    show OwnG p.tables e below _ (T19.setTop (mkF m 34 #[.val (.int p0), .val (.int p1), .val (.int z1), .val (.ref o_PREPARE), .val (.ref o_PREPARE)] []))
    refine own_go (fun t k => XS.aloadN X19.here hx rfl (hb hby at_34) rfl rfl k) ?_
    show OwnG p.tables e below _ (T19.setTop (mkF m 35 #[.val (.int p0), .val (.int p1), .val (.int z1), .val (.ref o_PREPARE), .val (.ref o_PREPARE)] [(.ref o_PREPARE)]))
    refine own_go (fun t k => XS.ifnullNo X19.here hx rfl (hb hby at_35) rfl k) ?_
    show OwnG p.tables e below _ (T19.setTop (mkF m 38 #[.val (.int p0), .val (.int p1), .val (.int z1), .val (.ref o_PREPARE), .val (.ref o_PREPARE)] []))
    refine own_go (fun t k => XS.aloadN X19.here hx rfl (hb hby at_38) rfl rfl k) ?_
    show OwnG p.tables e below _ (T19.setTop (mkF m 39 #[.val (.int p0), .val (.int p1), .val (.int z1), .val (.ref o_PREPARE), .val (.ref o_PREPARE)] [(.ref o_PREPARE)]))
    obtain ⟨cq20, kq20, q20a, q20b, q20c⟩ := isOf hZ e19 (E_o_PREPARE.ext F3.2)
    obtain ⟨_, _, ⟨T20, L20, k20, n20⟩, -, X20, ⟨Lc20, hQ20, l20, y20, z20⟩, st20⟩ := X19.virtualBack hx (y := (⟨"com/example/keyspace/keyspace/server/Opcode", "code", "()I"⟩ : MethodName)) (z := (⟨"com/example/keyspace/keyspace/server/Opcode", "code", "()I"⟩ : MethodName)) hown (mvT hZ (hw _ (List.mem_of_getElem? (i := 38) rfl))) (mvT hZ (hw _ (List.mem_of_getElem? (i := 39) rfl))) (notFace_of_selects (args := #[]) (mvT hZ (hw _ (List.mem_of_getElem? (i := 41) rfl)))) (mvT hZ (hw _ (List.mem_of_getElem? (i := 41) rfl))) (mvT hZ (hw _ (List.mem_of_getElem? (i := 40) rfl))) (by decide) (backOf (W := 0) (own_code l Z a0 hw [] o_PREPARE (9 : Int32) T2.heap n0 Z2 (F_o_PREPARE_code.ext F3.2)) hZ (hw _ (List.mem_of_getElem? (i := 42) rfl)) (hw _ (List.mem_of_getElem? (i := 2) rfl)) (by decide) (by decide)) q20a q20c (g := (mkF m 39 #[.val (.int p0), .val (.int p1), .val (.int z1), .val (.ref o_PREPARE), .val (.ref o_PREPARE)] [(.ref o_PREPARE)])) rfl (by rw [hml]; rfl) (Steps.refl _) (argsL := []) (rest := []) (lenOf own_pd101 rfl) rfl (by show 2 * 0 + _ ≤ _; exact Nat.le_of_eq rfl) (hb hby at_39) (fun _ _ => ⟨rfl, e19, (by decide : 1 + 0 ≤ _), (by decide : 12 + 0 ≤ _)⟩)
    dsimp only [Pt.U, Pt.locs, Pt.cells, Pt.slots] at X20 l20 y20 z20 st20 hQ20
    subst l20 y20 z20
    obtain ⟨rfl, Nq20, eq20⟩ := hQ20
    have N20 := Fr.app N19 Nq20
    have e20 : T20.heap = T2.heap := eq20
    refine own_go (fun t k => st20.trans k) ?_
    show OwnG p.tables e below _ (T20.setTop (mkF m 42 #[.val (.int p0), .val (.int p1), .val (.int z1), .val (.ref o_PREPARE), .val (.ref o_PREPARE)] [(.int (9 : Int32))]))
    refine own_go (fun t k => XS.iloadN X20.here hx rfl (hb hby at_42) rfl  k) ?_
    show OwnG p.tables e below _ (T20.setTop (mkF m 43 #[.val (.int p0), .val (.int p1), .val (.int z1), .val (.ref o_PREPARE), .val (.ref o_PREPARE)] [(.int z1), (.int (9 : Int32))]))
    refine own_go (fun t k => XS.icmpYes X20.here hx rfl (pc0 := 43) (pc' := 48) rfl (hb hby at_43) rfl (teq ax4.symm).1 (by decide) (by decide) k) ?_
    show OwnG p.tables e below _ (T20.setTop (mkF m 48 #[.val (.int p0), .val (.int p1), .val (.int z1), .val (.ref o_PREPARE), .val (.ref o_PREPARE)] []))
    refine own_go (fun t k => XS.iconst X20.here hx rfl (hb hby at_48) k) ?_
    show OwnG p.tables e below _ (T20.setTop (mkF m 49 #[.val (.int p0), .val (.int p1), .val (.int z1), .val (.ref o_PREPARE), .val (.ref o_PREPARE)] [(.int (1 : Int32))]))
    obtain ⟨fs, hr, hrun, hended, hW, hsame⟩ := X20.leave (v := some (.int (1 : Int32))) (fun h => by rw [Bd.returns] at h; cases h)
    refine ⟨_, _, retN X20 hx (t := .boolean) Bd.returns (by simp) (hb hby at_49) hr, hrun, hended, _, _, rfl, ?_, ⟨_, rfl⟩, hW, hsame.mono (by decide) (by decide)⟩
    show Q_own_law Z p0 p1 o__VALUES o_ERROR o_STARTUP o_READY o_OPTIONS o_SUPPORTED o_QUERY o_RESULT o_PREPARE o_EXECUTE o_REGISTER o_BATCH o_AUTH_RESPONSE kc_o__VALUES h0 n0 _ T20.heap _
    rw [e20]
    exact ⟨rfl, N20⟩
  · rw [al4]
    show OwnG p.tables e below _ (T2.setTop (mkF m 19 #[.val (.int p0), .val (.int p1), .val (.int z1), .unset, .unset] [(.ref o_EXECUTE)]))
    refine own_go (fun t k => XS.astoreN X2.here hx rfl (hb hby at_19) rfl rfl (l' := #[.val (.int p0), .val (.int p1), .val (.int z1), .val (.ref o_EXECUTE), .unset]) rfl k) ?_
    show OwnG p.tables e below _ (T2.setTop (mkF m 20 #[.val (.int p0), .val (.int p1), .val (.int z1), .val (.ref o_EXECUTE), .unset] []))
    refine own_go (fun t k => XS.iloadN X2.here hx rfl (hb hby at_20) rfl  k) ?_
    show OwnG p.tables e below _ (T2.setTop (mkF m 21 #[.val (.int p0), .val (.int p1), .val (.int z1), .val (.ref o_EXECUTE), .unset] [(.int z1)]))
    obtain ⟨_, _, ⟨T21, L21, k21, n21⟩, -, X21, ⟨Lc21, hQ21, l21, y21, z21⟩, st21⟩ := Jvm.LawKit.callS X2 hx (y := (⟨"com/example/keyspace/keyspace/server/OpcodeOfPinLaw", "expected", "(I)Lcom/example/keyspace/keyspace/server/Opcode;"⟩ : MethodName)) hown (mvT hZ (hw _ (List.mem_of_getElem? (i := 33) rfl))) (mvT hZ (hw _ (List.mem_of_getElem? (i := 34) rfl))) (mvT hZ (hw _ (List.mem_of_getElem? (i := 35) rfl))) (mvT hZ (hw _ (List.mem_of_getElem? (i := 36) rfl))) (by decide) (backOf (W := 0) (own_expected l Z a0 hw [] z1 o__VALUES o_ERROR o_STARTUP o_READY o_OPTIONS o_SUPPORTED o_QUERY o_RESULT o_PREPARE o_EXECUTE o_REGISTER o_BATCH o_AUTH_RESPONSE kc_o__VALUES T2.heap n0 Z2 F3 S__VALUES E_o__VALUES S_ERROR E_o_ERROR S_STARTUP E_o_STARTUP S_READY E_o_READY S_OPTIONS E_o_OPTIONS S_SUPPORTED E_o_SUPPORTED S_QUERY E_o_QUERY S_RESULT E_o_RESULT S_PREPARE E_o_PREPARE S_EXECUTE E_o_EXECUTE S_REGISTER E_o_REGISTER S_BATCH E_o_BATCH S_AUTH_RESPONSE E_o_AUTH_RESPONSE F_o_ERROR_code F_o_STARTUP_code F_o_READY_code F_o_OPTIONS_code F_o_SUPPORTED_code F_o_QUERY_code F_o_RESULT_code F_o_PREPARE_code F_o_EXECUTE_code F_o_REGISTER_code F_o_BATCH_code F_o_AUTH_RESPONSE_code V_o__VALUES) hZ (hw _ (List.mem_of_getElem? (i := 36) rfl)) (hw _ (List.mem_of_getElem? (i := 35) rfl)) (by decide) (by decide)) (g := (mkF m 21 #[.val (.int p0), .val (.int p1), .val (.int z1), .val (.ref o_EXECUTE), .unset] [(.int z1)])) rfl (by rw [hml]; rfl) (argsL := [(.int z1)]) (rest := []) (lenOf own_pd100 rfl) rfl (by show 2 * 0 + _ ≤ _; exact Nat.le_of_eq rfl) (hb hby at_21) (fun _ _ => ⟨rfl, rfl, (by decide : 1 + 0 ≤ _), (by decide : 12 + 0 ≤ _)⟩)
    dsimp only [Pt.U, Pt.locs, Pt.cells, Pt.slots] at X21 l21 y21 z21 st21 hQ21
    subst l21 y21 z21
    obtain ⟨rfl, Nq21, eq21⟩ := hQ21
    have N21 := Fr.app N2 Nq21
    have e21 : T21.heap = T2.heap := eq21
    refine own_go (fun t k => st21 t k) ?_
    show OwnG p.tables e below _ (T21.setTop (mkF m 24 #[.val (.int p0), .val (.int p1), .val (.int z1), .val (.ref o_EXECUTE), .unset] [(own_val z1 o_ERROR o_STARTUP o_READY o_OPTIONS o_SUPPORTED o_QUERY o_RESULT o_PREPARE o_EXECUTE o_REGISTER o_BATCH o_AUTH_RESPONSE)]))
    rw [al4]
    show OwnG p.tables e below _ (T21.setTop (mkF m 24 #[.val (.int p0), .val (.int p1), .val (.int z1), .val (.ref o_EXECUTE), .unset] [(.ref o_EXECUTE)]))
    refine own_go (fun t k => XS.astore X21.here hx rfl (hb hby at_24) rfl rfl (l' := #[.val (.int p0), .val (.int p1), .val (.int z1), .val (.ref o_EXECUTE), .val (.ref o_EXECUTE)]) rfl k) ?_
    show OwnG p.tables e below _ (T21.setTop (mkF m 26 #[.val (.int p0), .val (.int p1), .val (.int z1), .val (.ref o_EXECUTE), .val (.ref o_EXECUTE)] []))
    refine own_go (fun t k => XS.aloadN X21.here hx rfl (hb hby at_26) rfl rfl k) ?_
    show OwnG p.tables e below _ (T21.setTop (mkF m 27 #[.val (.int p0), .val (.int p1), .val (.int z1), .val (.ref o_EXECUTE), .val (.ref o_EXECUTE)] [(.ref o_EXECUTE)]))
    refine own_go (fun t k => XS.aload X21.here hx rfl (hb hby at_27) rfl rfl k) ?_
    show OwnG p.tables e below _ (T21.setTop (mkF m 29 #[.val (.int p0), .val (.int p1), .val (.int z1), .val (.ref o_EXECUTE), .val (.ref o_EXECUTE)] [(.ref o_EXECUTE), (.ref o_EXECUTE)]))
    refine own_go (fun t k => Jvm.RoadKit.acmp (g := (mkF m 29 #[.val (.int p0), .val (.int p1), .val (.int z1), .val (.ref o_EXECUTE), .val (.ref o_EXECUTE)] [(.ref o_EXECUTE), (.ref o_EXECUTE)])) X21 hx rfl rfl rfl (pc0 := 29) (pc' := 34) (same := true) rfl (hb hby at_29) rfl (decide_eq_true rfl) (by decide) (by decide) k) ?_
    show OwnG p.tables e below _ (T21.setTop (mkF m 34 #[.val (.int p0), .val (.int p1), .val (.int z1), .val (.ref o_EXECUTE), .val (.ref o_EXECUTE)] []))
    refine own_go (fun t k => XS.aloadN X21.here hx rfl (hb hby at_34) rfl rfl k) ?_
    show OwnG p.tables e below _ (T21.setTop (mkF m 35 #[.val (.int p0), .val (.int p1), .val (.int z1), .val (.ref o_EXECUTE), .val (.ref o_EXECUTE)] [(.ref o_EXECUTE)]))
    refine own_go (fun t k => XS.ifnullNo X21.here hx rfl (hb hby at_35) rfl k) ?_
    show OwnG p.tables e below _ (T21.setTop (mkF m 38 #[.val (.int p0), .val (.int p1), .val (.int z1), .val (.ref o_EXECUTE), .val (.ref o_EXECUTE)] []))
    refine own_go (fun t k => XS.aloadN X21.here hx rfl (hb hby at_38) rfl rfl k) ?_
    show OwnG p.tables e below _ (T21.setTop (mkF m 39 #[.val (.int p0), .val (.int p1), .val (.int z1), .val (.ref o_EXECUTE), .val (.ref o_EXECUTE)] [(.ref o_EXECUTE)]))
    obtain ⟨cq22, kq22, q22a, q22b, q22c⟩ := isOf hZ e21 (E_o_EXECUTE.ext F3.2)
    obtain ⟨_, _, ⟨T22, L22, k22, n22⟩, -, X22, ⟨Lc22, hQ22, l22, y22, z22⟩, st22⟩ := X21.virtualBack hx (y := (⟨"com/example/keyspace/keyspace/server/Opcode", "code", "()I"⟩ : MethodName)) (z := (⟨"com/example/keyspace/keyspace/server/Opcode", "code", "()I"⟩ : MethodName)) hown (mvT hZ (hw _ (List.mem_of_getElem? (i := 38) rfl))) (mvT hZ (hw _ (List.mem_of_getElem? (i := 39) rfl))) (notFace_of_selects (args := #[]) (mvT hZ (hw _ (List.mem_of_getElem? (i := 41) rfl)))) (mvT hZ (hw _ (List.mem_of_getElem? (i := 41) rfl))) (mvT hZ (hw _ (List.mem_of_getElem? (i := 40) rfl))) (by decide) (backOf (W := 0) (own_code l Z a0 hw [] o_EXECUTE (10 : Int32) T2.heap n0 Z2 (F_o_EXECUTE_code.ext F3.2)) hZ (hw _ (List.mem_of_getElem? (i := 42) rfl)) (hw _ (List.mem_of_getElem? (i := 2) rfl)) (by decide) (by decide)) q22a q22c (g := (mkF m 39 #[.val (.int p0), .val (.int p1), .val (.int z1), .val (.ref o_EXECUTE), .val (.ref o_EXECUTE)] [(.ref o_EXECUTE)])) rfl (by rw [hml]; rfl) (Steps.refl _) (argsL := []) (rest := []) (lenOf own_pd101 rfl) rfl (by show 2 * 0 + _ ≤ _; exact Nat.le_of_eq rfl) (hb hby at_39) (fun _ _ => ⟨rfl, e21, (by decide : 1 + 0 ≤ _), (by decide : 12 + 0 ≤ _)⟩)
    dsimp only [Pt.U, Pt.locs, Pt.cells, Pt.slots] at X22 l22 y22 z22 st22 hQ22
    subst l22 y22 z22
    obtain ⟨rfl, Nq22, eq22⟩ := hQ22
    have N22 := Fr.app N21 Nq22
    have e22 : T22.heap = T2.heap := eq22
    refine own_go (fun t k => st22.trans k) ?_
    show OwnG p.tables e below _ (T22.setTop (mkF m 42 #[.val (.int p0), .val (.int p1), .val (.int z1), .val (.ref o_EXECUTE), .val (.ref o_EXECUTE)] [(.int (10 : Int32))]))
    refine own_go (fun t k => XS.iloadN X22.here hx rfl (hb hby at_42) rfl  k) ?_
    show OwnG p.tables e below _ (T22.setTop (mkF m 43 #[.val (.int p0), .val (.int p1), .val (.int z1), .val (.ref o_EXECUTE), .val (.ref o_EXECUTE)] [(.int z1), (.int (10 : Int32))]))
    refine own_go (fun t k => XS.icmpYes X22.here hx rfl (pc0 := 43) (pc' := 48) rfl (hb hby at_43) rfl (teq ax4.symm).1 (by decide) (by decide) k) ?_
    show OwnG p.tables e below _ (T22.setTop (mkF m 48 #[.val (.int p0), .val (.int p1), .val (.int z1), .val (.ref o_EXECUTE), .val (.ref o_EXECUTE)] []))
    refine own_go (fun t k => XS.iconst X22.here hx rfl (hb hby at_48) k) ?_
    show OwnG p.tables e below _ (T22.setTop (mkF m 49 #[.val (.int p0), .val (.int p1), .val (.int z1), .val (.ref o_EXECUTE), .val (.ref o_EXECUTE)] [(.int (1 : Int32))]))
    obtain ⟨fs, hr, hrun, hended, hW, hsame⟩ := X22.leave (v := some (.int (1 : Int32))) (fun h => by rw [Bd.returns] at h; cases h)
    refine ⟨_, _, retN X22 hx (t := .boolean) Bd.returns (by simp) (hb hby at_49) hr, hrun, hended, _, _, rfl, ?_, ⟨_, rfl⟩, hW, hsame.mono (by decide) (by decide)⟩
    show Q_own_law Z p0 p1 o__VALUES o_ERROR o_STARTUP o_READY o_OPTIONS o_SUPPORTED o_QUERY o_RESULT o_PREPARE o_EXECUTE o_REGISTER o_BATCH o_AUTH_RESPONSE kc_o__VALUES h0 n0 _ T22.heap _
    rw [e22]
    exact ⟨rfl, N22⟩
  · rw [al4]
    show OwnG p.tables e below _ (T2.setTop (mkF m 19 #[.val (.int p0), .val (.int p1), .val (.int z1), .unset, .unset] [(.ref o_REGISTER)]))
    refine own_go (fun t k => XS.astoreN X2.here hx rfl (hb hby at_19) rfl rfl (l' := #[.val (.int p0), .val (.int p1), .val (.int z1), .val (.ref o_REGISTER), .unset]) rfl k) ?_
    show OwnG p.tables e below _ (T2.setTop (mkF m 20 #[.val (.int p0), .val (.int p1), .val (.int z1), .val (.ref o_REGISTER), .unset] []))
    refine own_go (fun t k => XS.iloadN X2.here hx rfl (hb hby at_20) rfl  k) ?_
    show OwnG p.tables e below _ (T2.setTop (mkF m 21 #[.val (.int p0), .val (.int p1), .val (.int z1), .val (.ref o_REGISTER), .unset] [(.int z1)]))
    obtain ⟨_, _, ⟨T23, L23, k23, n23⟩, -, X23, ⟨Lc23, hQ23, l23, y23, z23⟩, st23⟩ := Jvm.LawKit.callS X2 hx (y := (⟨"com/example/keyspace/keyspace/server/OpcodeOfPinLaw", "expected", "(I)Lcom/example/keyspace/keyspace/server/Opcode;"⟩ : MethodName)) hown (mvT hZ (hw _ (List.mem_of_getElem? (i := 33) rfl))) (mvT hZ (hw _ (List.mem_of_getElem? (i := 34) rfl))) (mvT hZ (hw _ (List.mem_of_getElem? (i := 35) rfl))) (mvT hZ (hw _ (List.mem_of_getElem? (i := 36) rfl))) (by decide) (backOf (W := 0) (own_expected l Z a0 hw [] z1 o__VALUES o_ERROR o_STARTUP o_READY o_OPTIONS o_SUPPORTED o_QUERY o_RESULT o_PREPARE o_EXECUTE o_REGISTER o_BATCH o_AUTH_RESPONSE kc_o__VALUES T2.heap n0 Z2 F3 S__VALUES E_o__VALUES S_ERROR E_o_ERROR S_STARTUP E_o_STARTUP S_READY E_o_READY S_OPTIONS E_o_OPTIONS S_SUPPORTED E_o_SUPPORTED S_QUERY E_o_QUERY S_RESULT E_o_RESULT S_PREPARE E_o_PREPARE S_EXECUTE E_o_EXECUTE S_REGISTER E_o_REGISTER S_BATCH E_o_BATCH S_AUTH_RESPONSE E_o_AUTH_RESPONSE F_o_ERROR_code F_o_STARTUP_code F_o_READY_code F_o_OPTIONS_code F_o_SUPPORTED_code F_o_QUERY_code F_o_RESULT_code F_o_PREPARE_code F_o_EXECUTE_code F_o_REGISTER_code F_o_BATCH_code F_o_AUTH_RESPONSE_code V_o__VALUES) hZ (hw _ (List.mem_of_getElem? (i := 36) rfl)) (hw _ (List.mem_of_getElem? (i := 35) rfl)) (by decide) (by decide)) (g := (mkF m 21 #[.val (.int p0), .val (.int p1), .val (.int z1), .val (.ref o_REGISTER), .unset] [(.int z1)])) rfl (by rw [hml]; rfl) (argsL := [(.int z1)]) (rest := []) (lenOf own_pd100 rfl) rfl (by show 2 * 0 + _ ≤ _; exact Nat.le_of_eq rfl) (hb hby at_21) (fun _ _ => ⟨rfl, rfl, (by decide : 1 + 0 ≤ _), (by decide : 12 + 0 ≤ _)⟩)
    dsimp only [Pt.U, Pt.locs, Pt.cells, Pt.slots] at X23 l23 y23 z23 st23 hQ23
    subst l23 y23 z23
    obtain ⟨rfl, Nq23, eq23⟩ := hQ23
    have N23 := Fr.app N2 Nq23
    have e23 : T23.heap = T2.heap := eq23
    refine own_go (fun t k => st23 t k) ?_
    show OwnG p.tables e below _ (T23.setTop (mkF m 24 #[.val (.int p0), .val (.int p1), .val (.int z1), .val (.ref o_REGISTER), .unset] [(own_val z1 o_ERROR o_STARTUP o_READY o_OPTIONS o_SUPPORTED o_QUERY o_RESULT o_PREPARE o_EXECUTE o_REGISTER o_BATCH o_AUTH_RESPONSE)]))
    rw [al4]
    show OwnG p.tables e below _ (T23.setTop (mkF m 24 #[.val (.int p0), .val (.int p1), .val (.int z1), .val (.ref o_REGISTER), .unset] [(.ref o_REGISTER)]))
    refine own_go (fun t k => XS.astore X23.here hx rfl (hb hby at_24) rfl rfl (l' := #[.val (.int p0), .val (.int p1), .val (.int z1), .val (.ref o_REGISTER), .val (.ref o_REGISTER)]) rfl k) ?_
    show OwnG p.tables e below _ (T23.setTop (mkF m 26 #[.val (.int p0), .val (.int p1), .val (.int z1), .val (.ref o_REGISTER), .val (.ref o_REGISTER)] []))
    refine own_go (fun t k => XS.aloadN X23.here hx rfl (hb hby at_26) rfl rfl k) ?_
    show OwnG p.tables e below _ (T23.setTop (mkF m 27 #[.val (.int p0), .val (.int p1), .val (.int z1), .val (.ref o_REGISTER), .val (.ref o_REGISTER)] [(.ref o_REGISTER)]))
    refine own_go (fun t k => XS.aload X23.here hx rfl (hb hby at_27) rfl rfl k) ?_
    show OwnG p.tables e below _ (T23.setTop (mkF m 29 #[.val (.int p0), .val (.int p1), .val (.int z1), .val (.ref o_REGISTER), .val (.ref o_REGISTER)] [(.ref o_REGISTER), (.ref o_REGISTER)]))
    refine own_go (fun t k => Jvm.RoadKit.acmp (g := (mkF m 29 #[.val (.int p0), .val (.int p1), .val (.int z1), .val (.ref o_REGISTER), .val (.ref o_REGISTER)] [(.ref o_REGISTER), (.ref o_REGISTER)])) X23 hx rfl rfl rfl (pc0 := 29) (pc' := 34) (same := true) rfl (hb hby at_29) rfl (decide_eq_true rfl) (by decide) (by decide) k) ?_
    show OwnG p.tables e below _ (T23.setTop (mkF m 34 #[.val (.int p0), .val (.int p1), .val (.int z1), .val (.ref o_REGISTER), .val (.ref o_REGISTER)] []))
    refine own_go (fun t k => XS.aloadN X23.here hx rfl (hb hby at_34) rfl rfl k) ?_
    show OwnG p.tables e below _ (T23.setTop (mkF m 35 #[.val (.int p0), .val (.int p1), .val (.int z1), .val (.ref o_REGISTER), .val (.ref o_REGISTER)] [(.ref o_REGISTER)]))
    refine own_go (fun t k => XS.ifnullNo X23.here hx rfl (hb hby at_35) rfl k) ?_
    show OwnG p.tables e below _ (T23.setTop (mkF m 38 #[.val (.int p0), .val (.int p1), .val (.int z1), .val (.ref o_REGISTER), .val (.ref o_REGISTER)] []))
    refine own_go (fun t k => XS.aloadN X23.here hx rfl (hb hby at_38) rfl rfl k) ?_
    show OwnG p.tables e below _ (T23.setTop (mkF m 39 #[.val (.int p0), .val (.int p1), .val (.int z1), .val (.ref o_REGISTER), .val (.ref o_REGISTER)] [(.ref o_REGISTER)]))
    obtain ⟨cq24, kq24, q24a, q24b, q24c⟩ := isOf hZ e23 (E_o_REGISTER.ext F3.2)
    obtain ⟨_, _, ⟨T24, L24, k24, n24⟩, -, X24, ⟨Lc24, hQ24, l24, y24, z24⟩, st24⟩ := X23.virtualBack hx (y := (⟨"com/example/keyspace/keyspace/server/Opcode", "code", "()I"⟩ : MethodName)) (z := (⟨"com/example/keyspace/keyspace/server/Opcode", "code", "()I"⟩ : MethodName)) hown (mvT hZ (hw _ (List.mem_of_getElem? (i := 38) rfl))) (mvT hZ (hw _ (List.mem_of_getElem? (i := 39) rfl))) (notFace_of_selects (args := #[]) (mvT hZ (hw _ (List.mem_of_getElem? (i := 41) rfl)))) (mvT hZ (hw _ (List.mem_of_getElem? (i := 41) rfl))) (mvT hZ (hw _ (List.mem_of_getElem? (i := 40) rfl))) (by decide) (backOf (W := 0) (own_code l Z a0 hw [] o_REGISTER (11 : Int32) T2.heap n0 Z2 (F_o_REGISTER_code.ext F3.2)) hZ (hw _ (List.mem_of_getElem? (i := 42) rfl)) (hw _ (List.mem_of_getElem? (i := 2) rfl)) (by decide) (by decide)) q24a q24c (g := (mkF m 39 #[.val (.int p0), .val (.int p1), .val (.int z1), .val (.ref o_REGISTER), .val (.ref o_REGISTER)] [(.ref o_REGISTER)])) rfl (by rw [hml]; rfl) (Steps.refl _) (argsL := []) (rest := []) (lenOf own_pd101 rfl) rfl (by show 2 * 0 + _ ≤ _; exact Nat.le_of_eq rfl) (hb hby at_39) (fun _ _ => ⟨rfl, e23, (by decide : 1 + 0 ≤ _), (by decide : 12 + 0 ≤ _)⟩)
    dsimp only [Pt.U, Pt.locs, Pt.cells, Pt.slots] at X24 l24 y24 z24 st24 hQ24
    subst l24 y24 z24
    obtain ⟨rfl, Nq24, eq24⟩ := hQ24
    have N24 := Fr.app N23 Nq24
    have e24 : T24.heap = T2.heap := eq24
    refine own_go (fun t k => st24.trans k) ?_
    show OwnG p.tables e below _ (T24.setTop (mkF m 42 #[.val (.int p0), .val (.int p1), .val (.int z1), .val (.ref o_REGISTER), .val (.ref o_REGISTER)] [(.int (11 : Int32))]))
    refine own_go (fun t k => XS.iloadN X24.here hx rfl (hb hby at_42) rfl  k) ?_
    show OwnG p.tables e below _ (T24.setTop (mkF m 43 #[.val (.int p0), .val (.int p1), .val (.int z1), .val (.ref o_REGISTER), .val (.ref o_REGISTER)] [(.int z1), (.int (11 : Int32))]))
    refine own_go (fun t k => XS.icmpYes X24.here hx rfl (pc0 := 43) (pc' := 48) rfl (hb hby at_43) rfl (teq ax4.symm).1 (by decide) (by decide) k) ?_
    show OwnG p.tables e below _ (T24.setTop (mkF m 48 #[.val (.int p0), .val (.int p1), .val (.int z1), .val (.ref o_REGISTER), .val (.ref o_REGISTER)] []))
    refine own_go (fun t k => XS.iconst X24.here hx rfl (hb hby at_48) k) ?_
    show OwnG p.tables e below _ (T24.setTop (mkF m 49 #[.val (.int p0), .val (.int p1), .val (.int z1), .val (.ref o_REGISTER), .val (.ref o_REGISTER)] [(.int (1 : Int32))]))
    obtain ⟨fs, hr, hrun, hended, hW, hsame⟩ := X24.leave (v := some (.int (1 : Int32))) (fun h => by rw [Bd.returns] at h; cases h)
    refine ⟨_, _, retN X24 hx (t := .boolean) Bd.returns (by simp) (hb hby at_49) hr, hrun, hended, _, _, rfl, ?_, ⟨_, rfl⟩, hW, hsame.mono (by decide) (by decide)⟩
    show Q_own_law Z p0 p1 o__VALUES o_ERROR o_STARTUP o_READY o_OPTIONS o_SUPPORTED o_QUERY o_RESULT o_PREPARE o_EXECUTE o_REGISTER o_BATCH o_AUTH_RESPONSE kc_o__VALUES h0 n0 _ T24.heap _
    rw [e24]
    exact ⟨rfl, N24⟩
  · rw [al4]
    show OwnG p.tables e below _ (T2.setTop (mkF m 19 #[.val (.int p0), .val (.int p1), .val (.int z1), .unset, .unset] [(.ref o_BATCH)]))
    refine own_go (fun t k => XS.astoreN X2.here hx rfl (hb hby at_19) rfl rfl (l' := #[.val (.int p0), .val (.int p1), .val (.int z1), .val (.ref o_BATCH), .unset]) rfl k) ?_
    show OwnG p.tables e below _ (T2.setTop (mkF m 20 #[.val (.int p0), .val (.int p1), .val (.int z1), .val (.ref o_BATCH), .unset] []))
    refine own_go (fun t k => XS.iloadN X2.here hx rfl (hb hby at_20) rfl  k) ?_
    show OwnG p.tables e below _ (T2.setTop (mkF m 21 #[.val (.int p0), .val (.int p1), .val (.int z1), .val (.ref o_BATCH), .unset] [(.int z1)]))
    obtain ⟨_, _, ⟨T25, L25, k25, n25⟩, -, X25, ⟨Lc25, hQ25, l25, y25, z25⟩, st25⟩ := Jvm.LawKit.callS X2 hx (y := (⟨"com/example/keyspace/keyspace/server/OpcodeOfPinLaw", "expected", "(I)Lcom/example/keyspace/keyspace/server/Opcode;"⟩ : MethodName)) hown (mvT hZ (hw _ (List.mem_of_getElem? (i := 33) rfl))) (mvT hZ (hw _ (List.mem_of_getElem? (i := 34) rfl))) (mvT hZ (hw _ (List.mem_of_getElem? (i := 35) rfl))) (mvT hZ (hw _ (List.mem_of_getElem? (i := 36) rfl))) (by decide) (backOf (W := 0) (own_expected l Z a0 hw [] z1 o__VALUES o_ERROR o_STARTUP o_READY o_OPTIONS o_SUPPORTED o_QUERY o_RESULT o_PREPARE o_EXECUTE o_REGISTER o_BATCH o_AUTH_RESPONSE kc_o__VALUES T2.heap n0 Z2 F3 S__VALUES E_o__VALUES S_ERROR E_o_ERROR S_STARTUP E_o_STARTUP S_READY E_o_READY S_OPTIONS E_o_OPTIONS S_SUPPORTED E_o_SUPPORTED S_QUERY E_o_QUERY S_RESULT E_o_RESULT S_PREPARE E_o_PREPARE S_EXECUTE E_o_EXECUTE S_REGISTER E_o_REGISTER S_BATCH E_o_BATCH S_AUTH_RESPONSE E_o_AUTH_RESPONSE F_o_ERROR_code F_o_STARTUP_code F_o_READY_code F_o_OPTIONS_code F_o_SUPPORTED_code F_o_QUERY_code F_o_RESULT_code F_o_PREPARE_code F_o_EXECUTE_code F_o_REGISTER_code F_o_BATCH_code F_o_AUTH_RESPONSE_code V_o__VALUES) hZ (hw _ (List.mem_of_getElem? (i := 36) rfl)) (hw _ (List.mem_of_getElem? (i := 35) rfl)) (by decide) (by decide)) (g := (mkF m 21 #[.val (.int p0), .val (.int p1), .val (.int z1), .val (.ref o_BATCH), .unset] [(.int z1)])) rfl (by rw [hml]; rfl) (argsL := [(.int z1)]) (rest := []) (lenOf own_pd100 rfl) rfl (by show 2 * 0 + _ ≤ _; exact Nat.le_of_eq rfl) (hb hby at_21) (fun _ _ => ⟨rfl, rfl, (by decide : 1 + 0 ≤ _), (by decide : 12 + 0 ≤ _)⟩)
    dsimp only [Pt.U, Pt.locs, Pt.cells, Pt.slots] at X25 l25 y25 z25 st25 hQ25
    subst l25 y25 z25
    obtain ⟨rfl, Nq25, eq25⟩ := hQ25
    have N25 := Fr.app N2 Nq25
    have e25 : T25.heap = T2.heap := eq25
    refine own_go (fun t k => st25 t k) ?_
    show OwnG p.tables e below _ (T25.setTop (mkF m 24 #[.val (.int p0), .val (.int p1), .val (.int z1), .val (.ref o_BATCH), .unset] [(own_val z1 o_ERROR o_STARTUP o_READY o_OPTIONS o_SUPPORTED o_QUERY o_RESULT o_PREPARE o_EXECUTE o_REGISTER o_BATCH o_AUTH_RESPONSE)]))
    rw [al4]
    show OwnG p.tables e below _ (T25.setTop (mkF m 24 #[.val (.int p0), .val (.int p1), .val (.int z1), .val (.ref o_BATCH), .unset] [(.ref o_BATCH)]))
    refine own_go (fun t k => XS.astore X25.here hx rfl (hb hby at_24) rfl rfl (l' := #[.val (.int p0), .val (.int p1), .val (.int z1), .val (.ref o_BATCH), .val (.ref o_BATCH)]) rfl k) ?_
    show OwnG p.tables e below _ (T25.setTop (mkF m 26 #[.val (.int p0), .val (.int p1), .val (.int z1), .val (.ref o_BATCH), .val (.ref o_BATCH)] []))
    refine own_go (fun t k => XS.aloadN X25.here hx rfl (hb hby at_26) rfl rfl k) ?_
    show OwnG p.tables e below _ (T25.setTop (mkF m 27 #[.val (.int p0), .val (.int p1), .val (.int z1), .val (.ref o_BATCH), .val (.ref o_BATCH)] [(.ref o_BATCH)]))
    refine own_go (fun t k => XS.aload X25.here hx rfl (hb hby at_27) rfl rfl k) ?_
    show OwnG p.tables e below _ (T25.setTop (mkF m 29 #[.val (.int p0), .val (.int p1), .val (.int z1), .val (.ref o_BATCH), .val (.ref o_BATCH)] [(.ref o_BATCH), (.ref o_BATCH)]))
    refine own_go (fun t k => Jvm.RoadKit.acmp (g := (mkF m 29 #[.val (.int p0), .val (.int p1), .val (.int z1), .val (.ref o_BATCH), .val (.ref o_BATCH)] [(.ref o_BATCH), (.ref o_BATCH)])) X25 hx rfl rfl rfl (pc0 := 29) (pc' := 34) (same := true) rfl (hb hby at_29) rfl (decide_eq_true rfl) (by decide) (by decide) k) ?_
    show OwnG p.tables e below _ (T25.setTop (mkF m 34 #[.val (.int p0), .val (.int p1), .val (.int z1), .val (.ref o_BATCH), .val (.ref o_BATCH)] []))
    refine own_go (fun t k => XS.aloadN X25.here hx rfl (hb hby at_34) rfl rfl k) ?_
    show OwnG p.tables e below _ (T25.setTop (mkF m 35 #[.val (.int p0), .val (.int p1), .val (.int z1), .val (.ref o_BATCH), .val (.ref o_BATCH)] [(.ref o_BATCH)]))
    refine own_go (fun t k => XS.ifnullNo X25.here hx rfl (hb hby at_35) rfl k) ?_
    show OwnG p.tables e below _ (T25.setTop (mkF m 38 #[.val (.int p0), .val (.int p1), .val (.int z1), .val (.ref o_BATCH), .val (.ref o_BATCH)] []))
    refine own_go (fun t k => XS.aloadN X25.here hx rfl (hb hby at_38) rfl rfl k) ?_
    show OwnG p.tables e below _ (T25.setTop (mkF m 39 #[.val (.int p0), .val (.int p1), .val (.int z1), .val (.ref o_BATCH), .val (.ref o_BATCH)] [(.ref o_BATCH)]))
    obtain ⟨cq26, kq26, q26a, q26b, q26c⟩ := isOf hZ e25 (E_o_BATCH.ext F3.2)
    obtain ⟨_, _, ⟨T26, L26, k26, n26⟩, -, X26, ⟨Lc26, hQ26, l26, y26, z26⟩, st26⟩ := X25.virtualBack hx (y := (⟨"com/example/keyspace/keyspace/server/Opcode", "code", "()I"⟩ : MethodName)) (z := (⟨"com/example/keyspace/keyspace/server/Opcode", "code", "()I"⟩ : MethodName)) hown (mvT hZ (hw _ (List.mem_of_getElem? (i := 38) rfl))) (mvT hZ (hw _ (List.mem_of_getElem? (i := 39) rfl))) (notFace_of_selects (args := #[]) (mvT hZ (hw _ (List.mem_of_getElem? (i := 41) rfl)))) (mvT hZ (hw _ (List.mem_of_getElem? (i := 41) rfl))) (mvT hZ (hw _ (List.mem_of_getElem? (i := 40) rfl))) (by decide) (backOf (W := 0) (own_code l Z a0 hw [] o_BATCH (13 : Int32) T2.heap n0 Z2 (F_o_BATCH_code.ext F3.2)) hZ (hw _ (List.mem_of_getElem? (i := 42) rfl)) (hw _ (List.mem_of_getElem? (i := 2) rfl)) (by decide) (by decide)) q26a q26c (g := (mkF m 39 #[.val (.int p0), .val (.int p1), .val (.int z1), .val (.ref o_BATCH), .val (.ref o_BATCH)] [(.ref o_BATCH)])) rfl (by rw [hml]; rfl) (Steps.refl _) (argsL := []) (rest := []) (lenOf own_pd101 rfl) rfl (by show 2 * 0 + _ ≤ _; exact Nat.le_of_eq rfl) (hb hby at_39) (fun _ _ => ⟨rfl, e25, (by decide : 1 + 0 ≤ _), (by decide : 12 + 0 ≤ _)⟩)
    dsimp only [Pt.U, Pt.locs, Pt.cells, Pt.slots] at X26 l26 y26 z26 st26 hQ26
    subst l26 y26 z26
    obtain ⟨rfl, Nq26, eq26⟩ := hQ26
    have N26 := Fr.app N25 Nq26
    have e26 : T26.heap = T2.heap := eq26
    refine own_go (fun t k => st26.trans k) ?_
    show OwnG p.tables e below _ (T26.setTop (mkF m 42 #[.val (.int p0), .val (.int p1), .val (.int z1), .val (.ref o_BATCH), .val (.ref o_BATCH)] [(.int (13 : Int32))]))
    refine own_go (fun t k => XS.iloadN X26.here hx rfl (hb hby at_42) rfl  k) ?_
    show OwnG p.tables e below _ (T26.setTop (mkF m 43 #[.val (.int p0), .val (.int p1), .val (.int z1), .val (.ref o_BATCH), .val (.ref o_BATCH)] [(.int z1), (.int (13 : Int32))]))
    refine own_go (fun t k => XS.icmpYes X26.here hx rfl (pc0 := 43) (pc' := 48) rfl (hb hby at_43) rfl (teq ax4.symm).1 (by decide) (by decide) k) ?_
    show OwnG p.tables e below _ (T26.setTop (mkF m 48 #[.val (.int p0), .val (.int p1), .val (.int z1), .val (.ref o_BATCH), .val (.ref o_BATCH)] []))
    refine own_go (fun t k => XS.iconst X26.here hx rfl (hb hby at_48) k) ?_
    show OwnG p.tables e below _ (T26.setTop (mkF m 49 #[.val (.int p0), .val (.int p1), .val (.int z1), .val (.ref o_BATCH), .val (.ref o_BATCH)] [(.int (1 : Int32))]))
    obtain ⟨fs, hr, hrun, hended, hW, hsame⟩ := X26.leave (v := some (.int (1 : Int32))) (fun h => by rw [Bd.returns] at h; cases h)
    refine ⟨_, _, retN X26 hx (t := .boolean) Bd.returns (by simp) (hb hby at_49) hr, hrun, hended, _, _, rfl, ?_, ⟨_, rfl⟩, hW, hsame.mono (by decide) (by decide)⟩
    show Q_own_law Z p0 p1 o__VALUES o_ERROR o_STARTUP o_READY o_OPTIONS o_SUPPORTED o_QUERY o_RESULT o_PREPARE o_EXECUTE o_REGISTER o_BATCH o_AUTH_RESPONSE kc_o__VALUES h0 n0 _ T26.heap _
    rw [e26]
    exact ⟨rfl, N26⟩
  · rw [al4]
    show OwnG p.tables e below _ (T2.setTop (mkF m 19 #[.val (.int p0), .val (.int p1), .val (.int z1), .unset, .unset] [(.ref o_AUTH_RESPONSE)]))
    refine own_go (fun t k => XS.astoreN X2.here hx rfl (hb hby at_19) rfl rfl (l' := #[.val (.int p0), .val (.int p1), .val (.int z1), .val (.ref o_AUTH_RESPONSE), .unset]) rfl k) ?_
    show OwnG p.tables e below _ (T2.setTop (mkF m 20 #[.val (.int p0), .val (.int p1), .val (.int z1), .val (.ref o_AUTH_RESPONSE), .unset] []))
    refine own_go (fun t k => XS.iloadN X2.here hx rfl (hb hby at_20) rfl  k) ?_
    show OwnG p.tables e below _ (T2.setTop (mkF m 21 #[.val (.int p0), .val (.int p1), .val (.int z1), .val (.ref o_AUTH_RESPONSE), .unset] [(.int z1)]))
    obtain ⟨_, _, ⟨T27, L27, k27, n27⟩, -, X27, ⟨Lc27, hQ27, l27, y27, z27⟩, st27⟩ := Jvm.LawKit.callS X2 hx (y := (⟨"com/example/keyspace/keyspace/server/OpcodeOfPinLaw", "expected", "(I)Lcom/example/keyspace/keyspace/server/Opcode;"⟩ : MethodName)) hown (mvT hZ (hw _ (List.mem_of_getElem? (i := 33) rfl))) (mvT hZ (hw _ (List.mem_of_getElem? (i := 34) rfl))) (mvT hZ (hw _ (List.mem_of_getElem? (i := 35) rfl))) (mvT hZ (hw _ (List.mem_of_getElem? (i := 36) rfl))) (by decide) (backOf (W := 0) (own_expected l Z a0 hw [] z1 o__VALUES o_ERROR o_STARTUP o_READY o_OPTIONS o_SUPPORTED o_QUERY o_RESULT o_PREPARE o_EXECUTE o_REGISTER o_BATCH o_AUTH_RESPONSE kc_o__VALUES T2.heap n0 Z2 F3 S__VALUES E_o__VALUES S_ERROR E_o_ERROR S_STARTUP E_o_STARTUP S_READY E_o_READY S_OPTIONS E_o_OPTIONS S_SUPPORTED E_o_SUPPORTED S_QUERY E_o_QUERY S_RESULT E_o_RESULT S_PREPARE E_o_PREPARE S_EXECUTE E_o_EXECUTE S_REGISTER E_o_REGISTER S_BATCH E_o_BATCH S_AUTH_RESPONSE E_o_AUTH_RESPONSE F_o_ERROR_code F_o_STARTUP_code F_o_READY_code F_o_OPTIONS_code F_o_SUPPORTED_code F_o_QUERY_code F_o_RESULT_code F_o_PREPARE_code F_o_EXECUTE_code F_o_REGISTER_code F_o_BATCH_code F_o_AUTH_RESPONSE_code V_o__VALUES) hZ (hw _ (List.mem_of_getElem? (i := 36) rfl)) (hw _ (List.mem_of_getElem? (i := 35) rfl)) (by decide) (by decide)) (g := (mkF m 21 #[.val (.int p0), .val (.int p1), .val (.int z1), .val (.ref o_AUTH_RESPONSE), .unset] [(.int z1)])) rfl (by rw [hml]; rfl) (argsL := [(.int z1)]) (rest := []) (lenOf own_pd100 rfl) rfl (by show 2 * 0 + _ ≤ _; exact Nat.le_of_eq rfl) (hb hby at_21) (fun _ _ => ⟨rfl, rfl, (by decide : 1 + 0 ≤ _), (by decide : 12 + 0 ≤ _)⟩)
    dsimp only [Pt.U, Pt.locs, Pt.cells, Pt.slots] at X27 l27 y27 z27 st27 hQ27
    subst l27 y27 z27
    obtain ⟨rfl, Nq27, eq27⟩ := hQ27
    have N27 := Fr.app N2 Nq27
    have e27 : T27.heap = T2.heap := eq27
    refine own_go (fun t k => st27 t k) ?_
    show OwnG p.tables e below _ (T27.setTop (mkF m 24 #[.val (.int p0), .val (.int p1), .val (.int z1), .val (.ref o_AUTH_RESPONSE), .unset] [(own_val z1 o_ERROR o_STARTUP o_READY o_OPTIONS o_SUPPORTED o_QUERY o_RESULT o_PREPARE o_EXECUTE o_REGISTER o_BATCH o_AUTH_RESPONSE)]))
    rw [al4]
    show OwnG p.tables e below _ (T27.setTop (mkF m 24 #[.val (.int p0), .val (.int p1), .val (.int z1), .val (.ref o_AUTH_RESPONSE), .unset] [(.ref o_AUTH_RESPONSE)]))
    refine own_go (fun t k => XS.astore X27.here hx rfl (hb hby at_24) rfl rfl (l' := #[.val (.int p0), .val (.int p1), .val (.int z1), .val (.ref o_AUTH_RESPONSE), .val (.ref o_AUTH_RESPONSE)]) rfl k) ?_
    show OwnG p.tables e below _ (T27.setTop (mkF m 26 #[.val (.int p0), .val (.int p1), .val (.int z1), .val (.ref o_AUTH_RESPONSE), .val (.ref o_AUTH_RESPONSE)] []))
    refine own_go (fun t k => XS.aloadN X27.here hx rfl (hb hby at_26) rfl rfl k) ?_
    show OwnG p.tables e below _ (T27.setTop (mkF m 27 #[.val (.int p0), .val (.int p1), .val (.int z1), .val (.ref o_AUTH_RESPONSE), .val (.ref o_AUTH_RESPONSE)] [(.ref o_AUTH_RESPONSE)]))
    refine own_go (fun t k => XS.aload X27.here hx rfl (hb hby at_27) rfl rfl k) ?_
    show OwnG p.tables e below _ (T27.setTop (mkF m 29 #[.val (.int p0), .val (.int p1), .val (.int z1), .val (.ref o_AUTH_RESPONSE), .val (.ref o_AUTH_RESPONSE)] [(.ref o_AUTH_RESPONSE), (.ref o_AUTH_RESPONSE)]))
    refine own_go (fun t k => Jvm.RoadKit.acmp (g := (mkF m 29 #[.val (.int p0), .val (.int p1), .val (.int z1), .val (.ref o_AUTH_RESPONSE), .val (.ref o_AUTH_RESPONSE)] [(.ref o_AUTH_RESPONSE), (.ref o_AUTH_RESPONSE)])) X27 hx rfl rfl rfl (pc0 := 29) (pc' := 34) (same := true) rfl (hb hby at_29) rfl (decide_eq_true rfl) (by decide) (by decide) k) ?_
    show OwnG p.tables e below _ (T27.setTop (mkF m 34 #[.val (.int p0), .val (.int p1), .val (.int z1), .val (.ref o_AUTH_RESPONSE), .val (.ref o_AUTH_RESPONSE)] []))
    refine own_go (fun t k => XS.aloadN X27.here hx rfl (hb hby at_34) rfl rfl k) ?_
    show OwnG p.tables e below _ (T27.setTop (mkF m 35 #[.val (.int p0), .val (.int p1), .val (.int z1), .val (.ref o_AUTH_RESPONSE), .val (.ref o_AUTH_RESPONSE)] [(.ref o_AUTH_RESPONSE)]))
    refine own_go (fun t k => XS.ifnullNo X27.here hx rfl (hb hby at_35) rfl k) ?_
    show OwnG p.tables e below _ (T27.setTop (mkF m 38 #[.val (.int p0), .val (.int p1), .val (.int z1), .val (.ref o_AUTH_RESPONSE), .val (.ref o_AUTH_RESPONSE)] []))
    refine own_go (fun t k => XS.aloadN X27.here hx rfl (hb hby at_38) rfl rfl k) ?_
    show OwnG p.tables e below _ (T27.setTop (mkF m 39 #[.val (.int p0), .val (.int p1), .val (.int z1), .val (.ref o_AUTH_RESPONSE), .val (.ref o_AUTH_RESPONSE)] [(.ref o_AUTH_RESPONSE)]))
    obtain ⟨cq28, kq28, q28a, q28b, q28c⟩ := isOf hZ e27 (E_o_AUTH_RESPONSE.ext F3.2)
    obtain ⟨_, _, ⟨T28, L28, k28, n28⟩, -, X28, ⟨Lc28, hQ28, l28, y28, z28⟩, st28⟩ := X27.virtualBack hx (y := (⟨"com/example/keyspace/keyspace/server/Opcode", "code", "()I"⟩ : MethodName)) (z := (⟨"com/example/keyspace/keyspace/server/Opcode", "code", "()I"⟩ : MethodName)) hown (mvT hZ (hw _ (List.mem_of_getElem? (i := 38) rfl))) (mvT hZ (hw _ (List.mem_of_getElem? (i := 39) rfl))) (notFace_of_selects (args := #[]) (mvT hZ (hw _ (List.mem_of_getElem? (i := 41) rfl)))) (mvT hZ (hw _ (List.mem_of_getElem? (i := 41) rfl))) (mvT hZ (hw _ (List.mem_of_getElem? (i := 40) rfl))) (by decide) (backOf (W := 0) (own_code l Z a0 hw [] o_AUTH_RESPONSE (15 : Int32) T2.heap n0 Z2 (F_o_AUTH_RESPONSE_code.ext F3.2)) hZ (hw _ (List.mem_of_getElem? (i := 42) rfl)) (hw _ (List.mem_of_getElem? (i := 2) rfl)) (by decide) (by decide)) q28a q28c (g := (mkF m 39 #[.val (.int p0), .val (.int p1), .val (.int z1), .val (.ref o_AUTH_RESPONSE), .val (.ref o_AUTH_RESPONSE)] [(.ref o_AUTH_RESPONSE)])) rfl (by rw [hml]; rfl) (Steps.refl _) (argsL := []) (rest := []) (lenOf own_pd101 rfl) rfl (by show 2 * 0 + _ ≤ _; exact Nat.le_of_eq rfl) (hb hby at_39) (fun _ _ => ⟨rfl, e27, (by decide : 1 + 0 ≤ _), (by decide : 12 + 0 ≤ _)⟩)
    dsimp only [Pt.U, Pt.locs, Pt.cells, Pt.slots] at X28 l28 y28 z28 st28 hQ28
    subst l28 y28 z28
    obtain ⟨rfl, Nq28, eq28⟩ := hQ28
    have N28 := Fr.app N27 Nq28
    have e28 : T28.heap = T2.heap := eq28
    refine own_go (fun t k => st28.trans k) ?_
    show OwnG p.tables e below _ (T28.setTop (mkF m 42 #[.val (.int p0), .val (.int p1), .val (.int z1), .val (.ref o_AUTH_RESPONSE), .val (.ref o_AUTH_RESPONSE)] [(.int (15 : Int32))]))
    refine own_go (fun t k => XS.iloadN X28.here hx rfl (hb hby at_42) rfl  k) ?_
    show OwnG p.tables e below _ (T28.setTop (mkF m 43 #[.val (.int p0), .val (.int p1), .val (.int z1), .val (.ref o_AUTH_RESPONSE), .val (.ref o_AUTH_RESPONSE)] [(.int z1), (.int (15 : Int32))]))
    refine own_go (fun t k => XS.icmpYes X28.here hx rfl (pc0 := 43) (pc' := 48) rfl (hb hby at_43) rfl (teq ax4.symm).1 (by decide) (by decide) k) ?_
    show OwnG p.tables e below _ (T28.setTop (mkF m 48 #[.val (.int p0), .val (.int p1), .val (.int z1), .val (.ref o_AUTH_RESPONSE), .val (.ref o_AUTH_RESPONSE)] []))
    refine own_go (fun t k => XS.iconst X28.here hx rfl (hb hby at_48) k) ?_
    show OwnG p.tables e below _ (T28.setTop (mkF m 49 #[.val (.int p0), .val (.int p1), .val (.int z1), .val (.ref o_AUTH_RESPONSE), .val (.ref o_AUTH_RESPONSE)] [(.int (1 : Int32))]))
    obtain ⟨fs, hr, hrun, hended, hW, hsame⟩ := X28.leave (v := some (.int (1 : Int32))) (fun h => by rw [Bd.returns] at h; cases h)
    refine ⟨_, _, retN X28 hx (t := .boolean) Bd.returns (by simp) (hb hby at_49) hr, hrun, hended, _, _, rfl, ?_, ⟨_, rfl⟩, hW, hsame.mono (by decide) (by decide)⟩
    show Q_own_law Z p0 p1 o__VALUES o_ERROR o_STARTUP o_READY o_OPTIONS o_SUPPORTED o_QUERY o_RESULT o_PREPARE o_EXECUTE o_REGISTER o_BATCH o_AUTH_RESPONSE kc_o__VALUES h0 n0 _ T28.heap _
    rw [e28]
    exact ⟨rfl, N28⟩
  · rw [al4]
    show OwnG p.tables e below _ (T2.setTop (mkF m 19 #[.val (.int p0), .val (.int p1), .val (.int z1), .unset, .unset] [.null]))
    refine own_go (fun t k => XS.astoreN X2.here hx rfl (hb hby at_19) rfl rfl (l' := #[.val (.int p0), .val (.int p1), .val (.int z1), .val .null, .unset]) rfl k) ?_
    show OwnG p.tables e below _ (T2.setTop (mkF m 20 #[.val (.int p0), .val (.int p1), .val (.int z1), .val .null, .unset] []))
    refine own_go (fun t k => XS.iloadN X2.here hx rfl (hb hby at_20) rfl  k) ?_
    show OwnG p.tables e below _ (T2.setTop (mkF m 21 #[.val (.int p0), .val (.int p1), .val (.int z1), .val .null, .unset] [(.int z1)]))
    obtain ⟨_, _, ⟨T29, L29, k29, n29⟩, -, X29, ⟨Lc29, hQ29, l29, y29, z29⟩, st29⟩ := Jvm.LawKit.callS X2 hx (y := (⟨"com/example/keyspace/keyspace/server/OpcodeOfPinLaw", "expected", "(I)Lcom/example/keyspace/keyspace/server/Opcode;"⟩ : MethodName)) hown (mvT hZ (hw _ (List.mem_of_getElem? (i := 33) rfl))) (mvT hZ (hw _ (List.mem_of_getElem? (i := 34) rfl))) (mvT hZ (hw _ (List.mem_of_getElem? (i := 35) rfl))) (mvT hZ (hw _ (List.mem_of_getElem? (i := 36) rfl))) (by decide) (backOf (W := 0) (own_expected l Z a0 hw [] z1 o__VALUES o_ERROR o_STARTUP o_READY o_OPTIONS o_SUPPORTED o_QUERY o_RESULT o_PREPARE o_EXECUTE o_REGISTER o_BATCH o_AUTH_RESPONSE kc_o__VALUES T2.heap n0 Z2 F3 S__VALUES E_o__VALUES S_ERROR E_o_ERROR S_STARTUP E_o_STARTUP S_READY E_o_READY S_OPTIONS E_o_OPTIONS S_SUPPORTED E_o_SUPPORTED S_QUERY E_o_QUERY S_RESULT E_o_RESULT S_PREPARE E_o_PREPARE S_EXECUTE E_o_EXECUTE S_REGISTER E_o_REGISTER S_BATCH E_o_BATCH S_AUTH_RESPONSE E_o_AUTH_RESPONSE F_o_ERROR_code F_o_STARTUP_code F_o_READY_code F_o_OPTIONS_code F_o_SUPPORTED_code F_o_QUERY_code F_o_RESULT_code F_o_PREPARE_code F_o_EXECUTE_code F_o_REGISTER_code F_o_BATCH_code F_o_AUTH_RESPONSE_code V_o__VALUES) hZ (hw _ (List.mem_of_getElem? (i := 36) rfl)) (hw _ (List.mem_of_getElem? (i := 35) rfl)) (by decide) (by decide)) (g := (mkF m 21 #[.val (.int p0), .val (.int p1), .val (.int z1), .val .null, .unset] [(.int z1)])) rfl (by rw [hml]; rfl) (argsL := [(.int z1)]) (rest := []) (lenOf own_pd100 rfl) rfl (by show 2 * 0 + _ ≤ _; exact Nat.le_of_eq rfl) (hb hby at_21) (fun _ _ => ⟨rfl, rfl, (by decide : 1 + 0 ≤ _), (by decide : 12 + 0 ≤ _)⟩)
    dsimp only [Pt.U, Pt.locs, Pt.cells, Pt.slots] at X29 l29 y29 z29 st29 hQ29
    subst l29 y29 z29
    obtain ⟨rfl, Nq29, eq29⟩ := hQ29
    have N29 := Fr.app N2 Nq29
    have e29 : T29.heap = T2.heap := eq29
    refine own_go (fun t k => st29 t k) ?_
    show OwnG p.tables e below _ (T29.setTop (mkF m 24 #[.val (.int p0), .val (.int p1), .val (.int z1), .val .null, .unset] [(own_val z1 o_ERROR o_STARTUP o_READY o_OPTIONS o_SUPPORTED o_QUERY o_RESULT o_PREPARE o_EXECUTE o_REGISTER o_BATCH o_AUTH_RESPONSE)]))
    rw [al4]
    show OwnG p.tables e below _ (T29.setTop (mkF m 24 #[.val (.int p0), .val (.int p1), .val (.int z1), .val .null, .unset] [.null]))
    refine own_go (fun t k => XS.astore X29.here hx rfl (hb hby at_24) rfl rfl (l' := #[.val (.int p0), .val (.int p1), .val (.int z1), .val .null, .val .null]) rfl k) ?_
    show OwnG p.tables e below _ (T29.setTop (mkF m 26 #[.val (.int p0), .val (.int p1), .val (.int z1), .val .null, .val .null] []))
    refine own_go (fun t k => XS.aloadN X29.here hx rfl (hb hby at_26) rfl rfl k) ?_
    show OwnG p.tables e below _ (T29.setTop (mkF m 27 #[.val (.int p0), .val (.int p1), .val (.int z1), .val .null, .val .null] [.null]))
    refine own_go (fun t k => XS.aload X29.here hx rfl (hb hby at_27) rfl rfl k) ?_
    show OwnG p.tables e below _ (T29.setTop (mkF m 29 #[.val (.int p0), .val (.int p1), .val (.int z1), .val .null, .val .null] [.null, .null]))
    refine own_go (fun t k => Jvm.RoadKit.acmp (g := (mkF m 29 #[.val (.int p0), .val (.int p1), .val (.int z1), .val .null, .val .null] [.null, .null])) X29 hx rfl rfl rfl (pc0 := 29) (pc' := 34) (same := true) rfl (hb hby at_29) rfl (decide_eq_true rfl) (by decide) (by decide) k) ?_
    show OwnG p.tables e below _ (T29.setTop (mkF m 34 #[.val (.int p0), .val (.int p1), .val (.int z1), .val .null, .val .null] []))
    refine own_go (fun t k => XS.aloadN X29.here hx rfl (hb hby at_34) rfl rfl k) ?_
    show OwnG p.tables e below _ (T29.setTop (mkF m 35 #[.val (.int p0), .val (.int p1), .val (.int z1), .val .null, .val .null] [.null]))
    refine own_go (fun t k => XS.ifnullYes X29.here hx rfl (pc0 := 35) (pc' := 48) rfl (hb hby at_35) rfl (by decide) (by decide) k) ?_
    show OwnG p.tables e below _ (T29.setTop (mkF m 48 #[.val (.int p0), .val (.int p1), .val (.int z1), .val .null, .val .null] []))
    refine own_go (fun t k => XS.iconst X29.here hx rfl (hb hby at_48) k) ?_
    show OwnG p.tables e below _ (T29.setTop (mkF m 49 #[.val (.int p0), .val (.int p1), .val (.int z1), .val .null, .val .null] [(.int (1 : Int32))]))
    obtain ⟨fs, hr, hrun, hended, hW, hsame⟩ := X29.leave (v := some (.int (1 : Int32))) (fun h => by rw [Bd.returns] at h; cases h)
    refine ⟨_, _, retN X29 hx (t := .boolean) Bd.returns (by simp) (hb hby at_49) hr, hrun, hended, _, _, rfl, ?_, ⟨_, rfl⟩, hW, hsame.mono (by decide) (by decide)⟩
    show Q_own_law Z p0 p1 o__VALUES o_ERROR o_STARTUP o_READY o_OPTIONS o_SUPPORTED o_QUERY o_RESULT o_PREPARE o_EXECUTE o_REGISTER o_BATCH o_AUTH_RESPONSE kc_o__VALUES h0 n0 _ T29.heap _
    rw [e29]
    exact ⟨rfl, N29⟩
set_option maxRecDepth 65536 in
set_option maxHeartbeats 40000000 in
theorem comes_1 {Post : Tables → Env → Array Value → State → Outcome → State → Prop} (hpost : ∀ tb e args s v u, (limb_1_1.after args s (.returned v) u = true ∧ limb_1_2.after args s (.returned v) u = true ∧ True) → FrameEnd s (.returned v) u (Jvm.fieldLocs frame_1_writes args s ++ Jvm.arrayLocs frame_1_arrays args s ++ Jvm.staticLocs frame_1_statics s) 16 128 → Post tb e args s (.returned v) u) :
    ArmFor flags0 classFile x code maxLocals ret World_1 tables_1 room_1 Calls_1 rest_1 Pre_1 Post := by
  intro l hfl _ _ p e ha hc hk s m args below hf hA hF happ hP
  obtain ⟨hcalls, hrest, hpre⟩ := hP
  obtain ⟨-, -, -, hnamed, -, -, -, hat⟩ := (Spec.applies_iff hf).mp happ
  obtain ⟨hg, hn⟩ := and_e (Cond.before_iff.mp (show (Jvm.Cond.and given_1 narrow_1).before args s = true from hpre))
  obtain ⟨hcount, hg⟩ := and_e hg
  obtain ⟨ga0, hg⟩ := and_e hg
  have ga1 := hg
  obtain ⟨w0, w1, rfl⟩ : ∃ w0 w1 : Value, args = #[w0, w1] := by
    have hs : args.size = 2 := by simpa [Cond.value, given_1] using hcount
    obtain ⟨L⟩ := args
    match L, hs with
    | [w0, w1], _ => exact ⟨w0, w1, rfl⟩
  have hw := fun d (hd : d ∈ tables_1) => atoms_spec (ws := Jvm.Cond.code x code maxLocals ret :: tables_1) hat d (List.mem_cons_of_mem _ hd)
  have hfit : Fit s := fun {y c} hc i hi => by
    obtain ⟨ha, rfl⟩ := Array.getElem?_eq_some_iff.mp hc
    have q := List.all_eq_true.mp ((Array.all_eq_true_iff_forall_mem.mp hF) _ (Array.getElem_mem ha)) i (List.mem_range.mpr hi)
    simpa [Array.getElem?_eq_getElem hi] using q
  obtain ⟨i0, ei0⟩ := is_v ga0
  obtain rfl : w0 = (.int i0) := Option.some.inj ei0
  obtain ⟨i1, ei1⟩ := is_v ga1
  obtain rfl : w1 = (.int i1) := Option.some.inj ei1
  obtain ⟨hn1, hn⟩ := and_e hn
  obtain ⟨o__VALUES, ev_o__VALUES⟩ := arr_v hn1
  have S__VALUES : Sta s s.heap "com/example/keyspace/keyspace/server/Opcode" "$VALUES" "[Lcom/example/keyspace/keyspace/server/Opcode;" (.ref o__VALUES) := Sta.start ev_o__VALUES (Or.inr ⟨(hw _ (List.mem_of_getElem? (i := 2) rfl)), (hw _ (List.mem_of_getElem? (i := 8) rfl))⟩)
  obtain ⟨cl_o__VALUES, Ar_o__VALUES⟩ := Arr.start ev_o__VALUES hn1
  obtain ⟨hn2, hn⟩ := and_e hn
  have E_o__VALUES : Exa s s.heap o__VALUES "[Lcom/example/keyspace/keyspace/server/Opcode;" := Exa.start ev_o__VALUES hn2
  obtain ⟨hn3, hn⟩ := and_e hn
  obtain ⟨sm_o__VALUES, ln_o__VALUES⟩ := own_len ev_o__VALUES Ar_o__VALUES hn3
  obtain ⟨hn4, hn⟩ := and_e hn
  obtain ⟨o_ERROR, ev_o_ERROR⟩ := exa_v hn4
  have S_ERROR : Sta s s.heap "com/example/keyspace/keyspace/server/Opcode" "ERROR" "Lcom/example/keyspace/keyspace/server/Opcode;" (.ref o_ERROR) := Sta.start ev_o_ERROR (Or.inr ⟨(hw _ (List.mem_of_getElem? (i := 2) rfl)), (hw _ (List.mem_of_getElem? (i := 16) rfl))⟩)
  have E_o_ERROR : Exa s s.heap o_ERROR "com/example/keyspace/keyspace/server/Opcode" := Exa.start ev_o_ERROR hn4
  obtain ⟨hn5, hn⟩ := and_e hn
  have el_o__VALUES_0 : cl_o__VALUES.slots[(0 : Int32).toNatClampNeg]? = some (.ref o_ERROR) := own_elem (by decide) ev_o__VALUES Ar_o__VALUES (own_eqR hn5 ev_o_ERROR)
  obtain ⟨hn6, hn⟩ := and_e hn
  obtain ⟨o_STARTUP, ev_o_STARTUP⟩ := exa_v hn6
  have S_STARTUP : Sta s s.heap "com/example/keyspace/keyspace/server/Opcode" "STARTUP" "Lcom/example/keyspace/keyspace/server/Opcode;" (.ref o_STARTUP) := Sta.start ev_o_STARTUP (Or.inr ⟨(hw _ (List.mem_of_getElem? (i := 2) rfl)), (hw _ (List.mem_of_getElem? (i := 17) rfl))⟩)
  have E_o_STARTUP : Exa s s.heap o_STARTUP "com/example/keyspace/keyspace/server/Opcode" := Exa.start ev_o_STARTUP hn6
  obtain ⟨hn7, hn⟩ := and_e hn
  have el_o__VALUES_1 : cl_o__VALUES.slots[(1 : Int32).toNatClampNeg]? = some (.ref o_STARTUP) := own_elem (by decide) ev_o__VALUES Ar_o__VALUES (own_eqR hn7 ev_o_STARTUP)
  obtain ⟨hn8, hn⟩ := and_e hn
  obtain ⟨o_READY, ev_o_READY⟩ := exa_v hn8
  have S_READY : Sta s s.heap "com/example/keyspace/keyspace/server/Opcode" "READY" "Lcom/example/keyspace/keyspace/server/Opcode;" (.ref o_READY) := Sta.start ev_o_READY (Or.inr ⟨(hw _ (List.mem_of_getElem? (i := 2) rfl)), (hw _ (List.mem_of_getElem? (i := 18) rfl))⟩)
  have E_o_READY : Exa s s.heap o_READY "com/example/keyspace/keyspace/server/Opcode" := Exa.start ev_o_READY hn8
  obtain ⟨hn9, hn⟩ := and_e hn
  have el_o__VALUES_2 : cl_o__VALUES.slots[(2 : Int32).toNatClampNeg]? = some (.ref o_READY) := own_elem (by decide) ev_o__VALUES Ar_o__VALUES (own_eqR hn9 ev_o_READY)
  obtain ⟨hn10, hn⟩ := and_e hn
  obtain ⟨o_OPTIONS, ev_o_OPTIONS⟩ := exa_v hn10
  have S_OPTIONS : Sta s s.heap "com/example/keyspace/keyspace/server/Opcode" "OPTIONS" "Lcom/example/keyspace/keyspace/server/Opcode;" (.ref o_OPTIONS) := Sta.start ev_o_OPTIONS (Or.inr ⟨(hw _ (List.mem_of_getElem? (i := 2) rfl)), (hw _ (List.mem_of_getElem? (i := 19) rfl))⟩)
  have E_o_OPTIONS : Exa s s.heap o_OPTIONS "com/example/keyspace/keyspace/server/Opcode" := Exa.start ev_o_OPTIONS hn10
  obtain ⟨hn11, hn⟩ := and_e hn
  have el_o__VALUES_3 : cl_o__VALUES.slots[(3 : Int32).toNatClampNeg]? = some (.ref o_OPTIONS) := own_elem (by decide) ev_o__VALUES Ar_o__VALUES (own_eqR hn11 ev_o_OPTIONS)
  obtain ⟨hn12, hn⟩ := and_e hn
  obtain ⟨o_SUPPORTED, ev_o_SUPPORTED⟩ := exa_v hn12
  have S_SUPPORTED : Sta s s.heap "com/example/keyspace/keyspace/server/Opcode" "SUPPORTED" "Lcom/example/keyspace/keyspace/server/Opcode;" (.ref o_SUPPORTED) := Sta.start ev_o_SUPPORTED (Or.inr ⟨(hw _ (List.mem_of_getElem? (i := 2) rfl)), (hw _ (List.mem_of_getElem? (i := 20) rfl))⟩)
  have E_o_SUPPORTED : Exa s s.heap o_SUPPORTED "com/example/keyspace/keyspace/server/Opcode" := Exa.start ev_o_SUPPORTED hn12
  obtain ⟨hn13, hn⟩ := and_e hn
  have el_o__VALUES_4 : cl_o__VALUES.slots[(4 : Int32).toNatClampNeg]? = some (.ref o_SUPPORTED) := own_elem (by decide) ev_o__VALUES Ar_o__VALUES (own_eqR hn13 ev_o_SUPPORTED)
  obtain ⟨hn14, hn⟩ := and_e hn
  obtain ⟨o_QUERY, ev_o_QUERY⟩ := exa_v hn14
  have S_QUERY : Sta s s.heap "com/example/keyspace/keyspace/server/Opcode" "QUERY" "Lcom/example/keyspace/keyspace/server/Opcode;" (.ref o_QUERY) := Sta.start ev_o_QUERY (Or.inr ⟨(hw _ (List.mem_of_getElem? (i := 2) rfl)), (hw _ (List.mem_of_getElem? (i := 21) rfl))⟩)
  have E_o_QUERY : Exa s s.heap o_QUERY "com/example/keyspace/keyspace/server/Opcode" := Exa.start ev_o_QUERY hn14
  obtain ⟨hn15, hn⟩ := and_e hn
  have el_o__VALUES_5 : cl_o__VALUES.slots[(5 : Int32).toNatClampNeg]? = some (.ref o_QUERY) := own_elem (by decide) ev_o__VALUES Ar_o__VALUES (own_eqR hn15 ev_o_QUERY)
  obtain ⟨hn16, hn⟩ := and_e hn
  obtain ⟨o_RESULT, ev_o_RESULT⟩ := exa_v hn16
  have S_RESULT : Sta s s.heap "com/example/keyspace/keyspace/server/Opcode" "RESULT" "Lcom/example/keyspace/keyspace/server/Opcode;" (.ref o_RESULT) := Sta.start ev_o_RESULT (Or.inr ⟨(hw _ (List.mem_of_getElem? (i := 2) rfl)), (hw _ (List.mem_of_getElem? (i := 22) rfl))⟩)
  have E_o_RESULT : Exa s s.heap o_RESULT "com/example/keyspace/keyspace/server/Opcode" := Exa.start ev_o_RESULT hn16
  obtain ⟨hn17, hn⟩ := and_e hn
  have el_o__VALUES_6 : cl_o__VALUES.slots[(6 : Int32).toNatClampNeg]? = some (.ref o_RESULT) := own_elem (by decide) ev_o__VALUES Ar_o__VALUES (own_eqR hn17 ev_o_RESULT)
  obtain ⟨hn18, hn⟩ := and_e hn
  obtain ⟨o_PREPARE, ev_o_PREPARE⟩ := exa_v hn18
  have S_PREPARE : Sta s s.heap "com/example/keyspace/keyspace/server/Opcode" "PREPARE" "Lcom/example/keyspace/keyspace/server/Opcode;" (.ref o_PREPARE) := Sta.start ev_o_PREPARE (Or.inr ⟨(hw _ (List.mem_of_getElem? (i := 2) rfl)), (hw _ (List.mem_of_getElem? (i := 23) rfl))⟩)
  have E_o_PREPARE : Exa s s.heap o_PREPARE "com/example/keyspace/keyspace/server/Opcode" := Exa.start ev_o_PREPARE hn18
  obtain ⟨hn19, hn⟩ := and_e hn
  have el_o__VALUES_7 : cl_o__VALUES.slots[(7 : Int32).toNatClampNeg]? = some (.ref o_PREPARE) := own_elem (by decide) ev_o__VALUES Ar_o__VALUES (own_eqR hn19 ev_o_PREPARE)
  obtain ⟨hn20, hn⟩ := and_e hn
  obtain ⟨o_EXECUTE, ev_o_EXECUTE⟩ := exa_v hn20
  have S_EXECUTE : Sta s s.heap "com/example/keyspace/keyspace/server/Opcode" "EXECUTE" "Lcom/example/keyspace/keyspace/server/Opcode;" (.ref o_EXECUTE) := Sta.start ev_o_EXECUTE (Or.inr ⟨(hw _ (List.mem_of_getElem? (i := 2) rfl)), (hw _ (List.mem_of_getElem? (i := 24) rfl))⟩)
  have E_o_EXECUTE : Exa s s.heap o_EXECUTE "com/example/keyspace/keyspace/server/Opcode" := Exa.start ev_o_EXECUTE hn20
  obtain ⟨hn21, hn⟩ := and_e hn
  have el_o__VALUES_8 : cl_o__VALUES.slots[(8 : Int32).toNatClampNeg]? = some (.ref o_EXECUTE) := own_elem (by decide) ev_o__VALUES Ar_o__VALUES (own_eqR hn21 ev_o_EXECUTE)
  obtain ⟨hn22, hn⟩ := and_e hn
  obtain ⟨o_REGISTER, ev_o_REGISTER⟩ := exa_v hn22
  have S_REGISTER : Sta s s.heap "com/example/keyspace/keyspace/server/Opcode" "REGISTER" "Lcom/example/keyspace/keyspace/server/Opcode;" (.ref o_REGISTER) := Sta.start ev_o_REGISTER (Or.inr ⟨(hw _ (List.mem_of_getElem? (i := 2) rfl)), (hw _ (List.mem_of_getElem? (i := 25) rfl))⟩)
  have E_o_REGISTER : Exa s s.heap o_REGISTER "com/example/keyspace/keyspace/server/Opcode" := Exa.start ev_o_REGISTER hn22
  obtain ⟨hn23, hn⟩ := and_e hn
  have el_o__VALUES_9 : cl_o__VALUES.slots[(9 : Int32).toNatClampNeg]? = some (.ref o_REGISTER) := own_elem (by decide) ev_o__VALUES Ar_o__VALUES (own_eqR hn23 ev_o_REGISTER)
  obtain ⟨hn24, hn⟩ := and_e hn
  obtain ⟨o_BATCH, ev_o_BATCH⟩ := exa_v hn24
  have S_BATCH : Sta s s.heap "com/example/keyspace/keyspace/server/Opcode" "BATCH" "Lcom/example/keyspace/keyspace/server/Opcode;" (.ref o_BATCH) := Sta.start ev_o_BATCH (Or.inr ⟨(hw _ (List.mem_of_getElem? (i := 2) rfl)), (hw _ (List.mem_of_getElem? (i := 26) rfl))⟩)
  have E_o_BATCH : Exa s s.heap o_BATCH "com/example/keyspace/keyspace/server/Opcode" := Exa.start ev_o_BATCH hn24
  obtain ⟨hn25, hn⟩ := and_e hn
  have el_o__VALUES_10 : cl_o__VALUES.slots[(10 : Int32).toNatClampNeg]? = some (.ref o_BATCH) := own_elem (by decide) ev_o__VALUES Ar_o__VALUES (own_eqR hn25 ev_o_BATCH)
  obtain ⟨hn26, hn⟩ := and_e hn
  obtain ⟨o_AUTH_RESPONSE, ev_o_AUTH_RESPONSE⟩ := exa_v hn26
  have S_AUTH_RESPONSE : Sta s s.heap "com/example/keyspace/keyspace/server/Opcode" "AUTH_RESPONSE" "Lcom/example/keyspace/keyspace/server/Opcode;" (.ref o_AUTH_RESPONSE) := Sta.start ev_o_AUTH_RESPONSE (Or.inr ⟨(hw _ (List.mem_of_getElem? (i := 2) rfl)), (hw _ (List.mem_of_getElem? (i := 27) rfl))⟩)
  have E_o_AUTH_RESPONSE : Exa s s.heap o_AUTH_RESPONSE "com/example/keyspace/keyspace/server/Opcode" := Exa.start ev_o_AUTH_RESPONSE hn26
  obtain ⟨hn27, hn⟩ := and_e hn
  have el_o__VALUES_11 : cl_o__VALUES.slots[(11 : Int32).toNatClampNeg]? = some (.ref o_AUTH_RESPONSE) := own_elem (by decide) ev_o__VALUES Ar_o__VALUES (own_eqR hn27 ev_o_AUTH_RESPONSE)
  obtain ⟨hn28, hn⟩ := and_e hn
  have F_o_ERROR_code : Fld s s.heap o_ERROR "com/example/keyspace/keyspace/server/Opcode" "code" "I" (.int (0 : Int32)) := own_fld ev_o_ERROR (own_eqI hn28)
  obtain ⟨hn29, hn⟩ := and_e hn
  have F_o_STARTUP_code : Fld s s.heap o_STARTUP "com/example/keyspace/keyspace/server/Opcode" "code" "I" (.int (1 : Int32)) := own_fld ev_o_STARTUP (own_eqI hn29)
  obtain ⟨hn30, hn⟩ := and_e hn
  have F_o_READY_code : Fld s s.heap o_READY "com/example/keyspace/keyspace/server/Opcode" "code" "I" (.int (2 : Int32)) := own_fld ev_o_READY (own_eqI hn30)
  obtain ⟨hn31, hn⟩ := and_e hn
  have F_o_OPTIONS_code : Fld s s.heap o_OPTIONS "com/example/keyspace/keyspace/server/Opcode" "code" "I" (.int (5 : Int32)) := own_fld ev_o_OPTIONS (own_eqI hn31)
  obtain ⟨hn32, hn⟩ := and_e hn
  have F_o_SUPPORTED_code : Fld s s.heap o_SUPPORTED "com/example/keyspace/keyspace/server/Opcode" "code" "I" (.int (6 : Int32)) := own_fld ev_o_SUPPORTED (own_eqI hn32)
  obtain ⟨hn33, hn⟩ := and_e hn
  have F_o_QUERY_code : Fld s s.heap o_QUERY "com/example/keyspace/keyspace/server/Opcode" "code" "I" (.int (7 : Int32)) := own_fld ev_o_QUERY (own_eqI hn33)
  obtain ⟨hn34, hn⟩ := and_e hn
  have F_o_RESULT_code : Fld s s.heap o_RESULT "com/example/keyspace/keyspace/server/Opcode" "code" "I" (.int (8 : Int32)) := own_fld ev_o_RESULT (own_eqI hn34)
  obtain ⟨hn35, hn⟩ := and_e hn
  have F_o_PREPARE_code : Fld s s.heap o_PREPARE "com/example/keyspace/keyspace/server/Opcode" "code" "I" (.int (9 : Int32)) := own_fld ev_o_PREPARE (own_eqI hn35)
  obtain ⟨hn36, hn⟩ := and_e hn
  have F_o_EXECUTE_code : Fld s s.heap o_EXECUTE "com/example/keyspace/keyspace/server/Opcode" "code" "I" (.int (10 : Int32)) := own_fld ev_o_EXECUTE (own_eqI hn36)
  obtain ⟨hn37, hn⟩ := and_e hn
  have F_o_REGISTER_code : Fld s s.heap o_REGISTER "com/example/keyspace/keyspace/server/Opcode" "code" "I" (.int (11 : Int32)) := own_fld ev_o_REGISTER (own_eqI hn37)
  obtain ⟨hn38, hn⟩ := and_e hn
  have F_o_BATCH_code : Fld s s.heap o_BATCH "com/example/keyspace/keyspace/server/Opcode" "code" "I" (.int (13 : Int32)) := own_fld ev_o_BATCH (own_eqI hn38)
  have F_o_AUTH_RESPONSE_code : Fld s s.heap o_AUTH_RESPONSE "com/example/keyspace/keyspace/server/Opcode" "code" "I" (.int (15 : Int32)) := own_fld ev_o_AUTH_RESPONSE (own_eqI hn)
  obtain ⟨kc_o__VALUES, V_o__VALUES⟩ : ∃ k, Arv s s.heap o__VALUES k (.object "com/example/keyspace/keyspace/server/Opcode") (12 : Int32) [(.ref o_ERROR), (.ref o_STARTUP), (.ref o_READY), (.ref o_OPTIONS), (.ref o_SUPPORTED), (.ref o_QUERY), (.ref o_RESULT), (.ref o_PREPARE), (.ref o_EXECUTE), (.ref o_REGISTER), (.ref o_BATCH), (.ref o_AUTH_RESPONSE)] .null := ⟨_, Arv.start hfit Ar_o__VALUES sm_o__VALUES ln_o__VALUES (by decide) rfl ⟨el_o__VALUES_0, el_o__VALUES_1, el_o__VALUES_2, el_o__VALUES_3, el_o__VALUES_4, el_o__VALUES_5, el_o__VALUES_6, el_o__VALUES_7, el_o__VALUES_8, el_o__VALUES_9, el_o__VALUES_10, el_o__VALUES_11, trivial⟩⟩
  obtain ⟨n, o, h1, h2, h3, _, L, rfl, ⟨rfl, N⟩, hq⟩ := own_law l s _ hw tables_1 i0 i1 o__VALUES o_ERROR o_STARTUP o_READY o_OPTIONS o_SUPPORTED o_QUERY o_RESULT o_PREPARE o_EXECUTE o_REGISTER o_BATCH o_AUTH_RESPONSE kc_o__VALUES s.heap s.heap.size (Nat.le_refl _) (Old.start s) S__VALUES E_o__VALUES S_ERROR E_o_ERROR S_STARTUP E_o_STARTUP S_READY E_o_READY S_OPTIONS E_o_OPTIONS S_SUPPORTED E_o_SUPPORTED S_QUERY E_o_QUERY S_RESULT E_o_RESULT S_PREPARE E_o_PREPARE S_EXECUTE E_o_EXECUTE S_REGISTER E_o_REGISTER S_BATCH E_o_BATCH S_AUTH_RESPONSE E_o_AUTH_RESPONSE F_o_ERROR_code F_o_STARTUP_code F_o_READY_code F_o_OPTIONS_code F_o_SUPPORTED_code F_o_QUERY_code F_o_RESULT_code F_o_PREPARE_code F_o_EXECUTE_code F_o_REGISTER_code F_o_BATCH_code F_o_AUTH_RESPONSE_code V_o__VALUES  p e ha hc hk s m _ below hf ((Spec.applies_iff_loose hf).mp happ).1 ⟨rfl, State.Warmed39.refl s, rfl⟩ trivial
  refine ⟨n, _, h1, h2, h3, hpost _ _ _ _ _ _ ⟨Cond.after_iff.mpr rfl, Cond.after_iff.mpr (eq_i res_at (Term.int_eval (1)) rfl), trivial⟩ ⟨hq.1, hq.2.1, (hq.2.2.sift fun y hy => Or.inr (N y hy)).mono (by decide) (by decide)⟩⟩
theorem main_1_1 : Claimed_1_1 := comes_1 fun _ _ _ _ _ _ h hF => ⟨h.1, hF⟩
theorem main_1_2 : Claimed_1_2 := comes_1 fun _ _ _ _ _ _ h hF => ⟨h.2.1, hF⟩
end Jvm.Pilot.@@N@@
namespace Jvm.Pilot.@@N@@
open Jvm Jvm.ClassFile Sem Op Lib Jvm.Free Jvm.Stand Jvm.Pilot.@@N@@.Jvm.D
/-! MADE BY PROGRAM (witnessworld.py) out of the Statement's table words and the real class files: 13 classes; the members and pool entries that the words name. The judged class is class 1, her method 2. -/
namespace start1
open Jvm.ClassFile
def u (s : String) : CpInfo := .utf8 (stringToUtf16 s)
/-- a pool by its gaps: so many unusable entries, then the entry; so many at the end -/
def gap : Nat → List CpInfo → List CpInfo
  | 0, r => r
  | n + 1, r => .unusable :: gap n r
def poolList (es : List (Nat × CpInfo)) (last : Nat) : List CpInfo := es.foldr (fun e r => gap e.1 (e.2 :: r)) (gap last [])
def pool (es : List (Nat × CpInfo)) (last : Nat) : Array CpInfo := ⟨poolList es last⟩
def fileOf (pool : Array CpInfo) (this : Nat) (attrs : Array Attribute := #[]) (ms : Array MethodInfo := #[]) (fl : Nat := 33) (sup : Nat := 0) (ifs : Array Nat := #[]) (fds : Array FieldInfo := #[]) : ClassFile where
  minorVersion := 0
  majorVersion := 65
  constantPool := pool
  accessFlags := fl
  thisClass := this
  superClass := sup
  interfaces := ifs
  fields := fds
  methods := ms
  attributes := attrs
def plain (name : String) (sup : Option ClassId) : Class where
  name := name
  kind := .ordinary
  loader := none
  accessFlags := 33
  super := sup
  interfaces := #[]
  cf := none
  fields := #[]
  methods := #[]
  instanceTypes := #[]
  staticTypes := #[]
  resolved := #[]
  callSites := []
  init := .initialized
  statics := none
  mirror := none

def pool0 : Array CpInfo := pool [(5, u "<init>"), (0, u "()V"), (1, .class_ 10), (1, u "java/lang/Object"), (85, u "clone"), (0, u "()Ljava/lang/Object;")] 26

def k0m0 : Method := { name := "<init>", desc := "()V", sig := { parameters := [], returnType := none }, accessFlags := 1, code := none }
def k0m1 : Method := { name := "clone", desc := "()Ljava/lang/Object;", sig := { parameters := [], returnType := some (.object "java/lang/Object") }, accessFlags := 260, code := none }
/-- java/lang/Object -/
def k0 : Class := { plain "java/lang/Object" none with
  accessFlags := 33
  interfaces := #[]
  cf := some (fileOf pool0 8 #[] #[{ accessFlags := 1, nameIndex := 5, descriptorIndex := 6, attributes := #[] }, { accessFlags := 260, nameIndex := 96, descriptorIndex := 97, attributes := #[] }] 33 0 #[] #[])
  fields := #[]
  methods := #[k0m0, k0m1]
  instanceTypes := #[]
  staticTypes := #[]
  resolved := Array.replicate 124 none
  statics := none }

def pool1 : Array CpInfo := pool [(2, .class_ 4), (1, u "java/lang/Object"), (0, u "<init>"), (0, u "()V"), (0, .fieldref 8 9), (0, .class_ 10), (0, .nameAndType 11 12), (0, u "com/example/keyspace/keyspace/server/Opcode"), (0, u "ERROR"), (0, u "Lcom/example/keyspace/keyspace/server/Opcode;"), (0, .fieldref 8 14), (0, .nameAndType 15 12), (0, u "STARTUP"), (0, .fieldref 8 17), (0, .nameAndType 18 12), (0, u "READY"), (0, .fieldref 8 20), (0, .nameAndType 21 12), (0, u "OPTIONS"), (0, .fieldref 8 23), (0, .nameAndType 24 12), (0, u "SUPPORTED"), (0, .fieldref 8 26), (0, .nameAndType 27 12), (0, u "QUERY"), (0, .fieldref 8 29), (0, .nameAndType 30 12), (0, u "RESULT"), (0, .fieldref 8 32), (0, .nameAndType 33 12), (0, u "PREPARE"), (0, .fieldref 8 35), (0, .nameAndType 36 12), (0, u "EXECUTE"), (0, .fieldref 8 38), (0, .nameAndType 39 12), (0, u "REGISTER"), (0, .fieldref 8 41), (0, .nameAndType 42 12), (0, u "BATCH"), (0, .fieldref 8 44), (0, .nameAndType 45 12), (0, u "AUTH_RESPONSE"), (0, .methodref 8 47), (0, .nameAndType 48 49), (0, u "of"), (0, u "(I)Lcom/example/keyspace/keyspace/server/Opcode;"), (0, .methodref 51 52), (0, .class_ 53), (0, .nameAndType 54 49), (0, u "com/example/keyspace/keyspace/server/OpcodeOfPinLaw"), (0, u "expected"), (0, .methodref 8 56), (0, .nameAndType 57 58), (0, u "code"), (0, u "()I"), (3, u "law"), (0, u "(II)Z")] 2

def k1m0 : Method := { name := "<init>", desc := "()V", sig := { parameters := [], returnType := none }, accessFlags := 2, code := none }
def k1c1 : Code := { maxStack := 2, maxLocals := 1, code := method_2_code, exceptionTable := #[], attributes := #[] }
def k1m1 : Method := { name := "expected", desc := "(I)Lcom/example/keyspace/keyspace/server/Opcode;", sig := { parameters := [.int], returnType := some (.object "com/example/keyspace/keyspace/server/Opcode") }, accessFlags := 10, code := some k1c1 }
def k1c2 : Code := { maxStack := 2, maxLocals := 5, code := code, exceptionTable := #[], attributes := #[] }
def k1m2 : Method := { name := "law", desc := "(II)Z", sig := { parameters := [.int, .int], returnType := some .boolean }, accessFlags := 9, code := some k1c2 }
/-- com/example/keyspace/keyspace/server/OpcodeOfPinLaw -/
def k1 : Class := { plain "com/example/keyspace/keyspace/server/OpcodeOfPinLaw" (some 0) with
  accessFlags := 49
  interfaces := #[]
  cf := some (fileOf pool1 51 #[] #[{ accessFlags := 2, nameIndex := 5, descriptorIndex := 6, attributes := #[] }, { accessFlags := 10, nameIndex := 54, descriptorIndex := 49, attributes := #[] }, { accessFlags := 9, nameIndex := 62, descriptorIndex := 63, attributes := #[] }] 49 2 #[] #[])
  fields := #[]
  methods := #[k1m0, k1m1, k1m2]
  instanceTypes := #[]
  staticTypes := #[]
  resolved := Array.replicate 66 none
  statics := none }

def pool2 : Array CpInfo := pool [(1, .class_ 2), (0, u "java/lang/constant/Constable"), (0, .class_ 4), (0, u "java/lang/Object")] 6

/-- java/lang/constant/Constable -/
def k2 : Class := { plain "java/lang/constant/Constable" (some 0) with
  accessFlags := 1537
  interfaces := #[]
  cf := some (fileOf pool2 1 #[] #[] 1537 3 #[] #[])
  fields := #[]
  methods := #[]
  instanceTypes := #[]
  staticTypes := #[]
  resolved := Array.replicate 11 none
  statics := none }

def pool3 : Array CpInfo := pool [(1, .class_ 2), (0, u "java/lang/Comparable"), (0, .class_ 4), (0, u "java/lang/Object")] 7

/-- java/lang/Comparable -/
def k3 : Class := { plain "java/lang/Comparable" (some 0) with
  accessFlags := 1537
  interfaces := #[]
  cf := some (fileOf pool3 1 #[] #[] 1537 3 #[] #[])
  fields := #[]
  methods := #[]
  instanceTypes := #[]
  staticTypes := #[]
  resolved := Array.replicate 12 none
  statics := none }

def pool4 : Array CpInfo := pool [(1, .class_ 2), (0, u "java/io/Serializable"), (0, .class_ 4), (0, u "java/lang/Object")] 2

/-- java/io/Serializable -/
def k4 : Class := { plain "java/io/Serializable" (some 0) with
  accessFlags := 1537
  interfaces := #[]
  cf := some (fileOf pool4 1 #[] #[] 1537 3 #[] #[])
  fields := #[]
  methods := #[]
  instanceTypes := #[]
  staticTypes := #[]
  resolved := Array.replicate 7 none
  statics := none }

def pool5 : Array CpInfo := pool [(2, .class_ 4), (1, u "java/lang/Enum"), (0, u "name"), (0, u "Ljava/lang/String;"), (2, u "ordinal"), (0, u "I"), (1, .class_ 14), (1, u "java/lang/Object"), (4, u "hash"), (86, .class_ 108), (1, u "java/lang/Enum$EnumDesc"), (2, .class_ 112), (0, u "java/lang/constant/Constable"), (0, .class_ 114), (0, u "java/lang/Comparable"), (0, .class_ 116), (0, u "java/io/Serializable")] 87

/-- java/lang/Enum -/
def k5 : Class := { plain "java/lang/Enum" (some 0) with
  accessFlags := 1057
  interfaces := #[2, 3, 4]
  cf := some (fileOf pool5 2 #[.nestMembers #[106]] #[] 1057 12 #[111, 113, 115] #[{ accessFlags := 18, nameIndex := 5, descriptorIndex := 6, attributes := #[] }, { accessFlags := 18, nameIndex := 9, descriptorIndex := 10, attributes := #[] }, { accessFlags := 2, nameIndex := 19, descriptorIndex := 10, attributes := #[] }])
  fields := #[{ name := "name", type := (.object "java/lang/String"), accessFlags := 18, slot := 0, constantValue := 0 }, { name := "ordinal", type := .int, accessFlags := 18, slot := 1, constantValue := 0 }, { name := "hash", type := .int, accessFlags := 2, slot := 2, constantValue := 0 }]
  methods := #[]
  instanceTypes := #[(.object "java/lang/String"), .int, .int]
  staticTypes := #[]
  resolved := Array.replicate 204 none
  statics := none }

def pool6 : Array CpInfo := pool [(1, .class_ 2), (0, u "com/example/keyspace/keyspace/server/Opcode"), (2, u "ERROR"), (0, u "Lcom/example/keyspace/keyspace/server/Opcode;"), (2, u "STARTUP"), (2, u "READY"), (2, u "OPTIONS"), (2, u "SUPPORTED"), (2, u "QUERY"), (2, u "RESULT"), (2, u "PREPARE"), (2, u "EXECUTE"), (2, u "REGISTER"), (2, u "BATCH"), (2, u "AUTH_RESPONSE"), (0, .fieldref 1 41), (0, .nameAndType 42 43), (0, u "$VALUES"), (0, u "[Lcom/example/keyspace/keyspace/server/Opcode;"), (0, .methodref 45 46), (0, .class_ 43), (0, .nameAndType 47 48), (0, u "clone"), (0, u "()Ljava/lang/Object;"), (1, .class_ 52), (1, u "java/lang/Enum"), (6, .fieldref 1 60), (0, .nameAndType 61 62), (0, u "code"), (0, u "I"), (0, .methodref 1 64), (0, .nameAndType 65 66), (0, u "values"), (0, u "()[Lcom/example/keyspace/keyspace/server/Opcode;"), (24, u "()I"), (0, u "of"), (0, u "(I)Lcom/example/keyspace/keyspace/server/Opcode;")] 6

def k6c0 : Code := { maxStack := 1, maxLocals := 0, code := prog_150_method_1_code, exceptionTable := #[], attributes := #[] }
def k6m0 : Method := { name := "values", desc := "()[Lcom/example/keyspace/keyspace/server/Opcode;", sig := { parameters := [], returnType := some (.array (.object "com/example/keyspace/keyspace/server/Opcode")) }, accessFlags := 9, code := some k6c0 }
def k6c1 : Code := { maxStack := 1, maxLocals := 1, code := prog_150_method_4_code, exceptionTable := #[], attributes := #[] }
def k6m1 : Method := { name := "code", desc := "()I", sig := { parameters := [], returnType := some .int }, accessFlags := 0, code := some k6c1 }
def k6c2 : Code := { maxStack := 2, maxLocals := 5, code := prog_150_method_5_code, exceptionTable := #[], attributes := #[] }
def k6m2 : Method := { name := "of", desc := "(I)Lcom/example/keyspace/keyspace/server/Opcode;", sig := { parameters := [.int], returnType := some (.object "com/example/keyspace/keyspace/server/Opcode") }, accessFlags := 8, code := some k6c2 }
/-- com/example/keyspace/keyspace/server/Opcode -/
def k6 : Class := { plain "com/example/keyspace/keyspace/server/Opcode" (some 5) with
  accessFlags := 16432
  interfaces := #[]
  cf := some (fileOf pool6 1 #[] #[{ accessFlags := 9, nameIndex := 65, descriptorIndex := 66, attributes := #[] }, { accessFlags := 0, nameIndex := 61, descriptorIndex := 91, attributes := #[] }, { accessFlags := 8, nameIndex := 92, descriptorIndex := 93, attributes := #[] }] 16432 50 #[] #[{ accessFlags := 16409, nameIndex := 5, descriptorIndex := 6, attributes := #[] }, { accessFlags := 16409, nameIndex := 9, descriptorIndex := 6, attributes := #[] }, { accessFlags := 16409, nameIndex := 12, descriptorIndex := 6, attributes := #[] }, { accessFlags := 16409, nameIndex := 15, descriptorIndex := 6, attributes := #[] }, { accessFlags := 16409, nameIndex := 18, descriptorIndex := 6, attributes := #[] }, { accessFlags := 16409, nameIndex := 21, descriptorIndex := 6, attributes := #[] }, { accessFlags := 16409, nameIndex := 24, descriptorIndex := 6, attributes := #[] }, { accessFlags := 16409, nameIndex := 27, descriptorIndex := 6, attributes := #[] }, { accessFlags := 16409, nameIndex := 30, descriptorIndex := 6, attributes := #[] }, { accessFlags := 16409, nameIndex := 33, descriptorIndex := 6, attributes := #[] }, { accessFlags := 16409, nameIndex := 36, descriptorIndex := 6, attributes := #[] }, { accessFlags := 16409, nameIndex := 39, descriptorIndex := 6, attributes := #[] }, { accessFlags := 18, nameIndex := 61, descriptorIndex := 62, attributes := #[] }, { accessFlags := 4122, nameIndex := 42, descriptorIndex := 43, attributes := #[] }])
  fields := #[{ name := "ERROR", type := (.object "com/example/keyspace/keyspace/server/Opcode"), accessFlags := 16409, slot := 0, constantValue := 0 }, { name := "STARTUP", type := (.object "com/example/keyspace/keyspace/server/Opcode"), accessFlags := 16409, slot := 1, constantValue := 0 }, { name := "READY", type := (.object "com/example/keyspace/keyspace/server/Opcode"), accessFlags := 16409, slot := 2, constantValue := 0 }, { name := "OPTIONS", type := (.object "com/example/keyspace/keyspace/server/Opcode"), accessFlags := 16409, slot := 3, constantValue := 0 }, { name := "SUPPORTED", type := (.object "com/example/keyspace/keyspace/server/Opcode"), accessFlags := 16409, slot := 4, constantValue := 0 }, { name := "QUERY", type := (.object "com/example/keyspace/keyspace/server/Opcode"), accessFlags := 16409, slot := 5, constantValue := 0 }, { name := "RESULT", type := (.object "com/example/keyspace/keyspace/server/Opcode"), accessFlags := 16409, slot := 6, constantValue := 0 }, { name := "PREPARE", type := (.object "com/example/keyspace/keyspace/server/Opcode"), accessFlags := 16409, slot := 7, constantValue := 0 }, { name := "EXECUTE", type := (.object "com/example/keyspace/keyspace/server/Opcode"), accessFlags := 16409, slot := 8, constantValue := 0 }, { name := "REGISTER", type := (.object "com/example/keyspace/keyspace/server/Opcode"), accessFlags := 16409, slot := 9, constantValue := 0 }, { name := "BATCH", type := (.object "com/example/keyspace/keyspace/server/Opcode"), accessFlags := 16409, slot := 10, constantValue := 0 }, { name := "AUTH_RESPONSE", type := (.object "com/example/keyspace/keyspace/server/Opcode"), accessFlags := 16409, slot := 11, constantValue := 0 }, { name := "code", type := .int, accessFlags := 18, slot := 3, constantValue := 0 }, { name := "$VALUES", type := (.array (.object "com/example/keyspace/keyspace/server/Opcode")), accessFlags := 4122, slot := 12, constantValue := 0 }]
  methods := #[k6m0, k6m1, k6m2]
  instanceTypes := #[(.object "java/lang/String"), .int, .int, .int]
  staticTypes := #[(.object "com/example/keyspace/keyspace/server/Opcode"), (.object "com/example/keyspace/keyspace/server/Opcode"), (.object "com/example/keyspace/keyspace/server/Opcode"), (.object "com/example/keyspace/keyspace/server/Opcode"), (.object "com/example/keyspace/keyspace/server/Opcode"), (.object "com/example/keyspace/keyspace/server/Opcode"), (.object "com/example/keyspace/keyspace/server/Opcode"), (.object "com/example/keyspace/keyspace/server/Opcode"), (.object "com/example/keyspace/keyspace/server/Opcode"), (.object "com/example/keyspace/keyspace/server/Opcode"), (.object "com/example/keyspace/keyspace/server/Opcode"), (.object "com/example/keyspace/keyspace/server/Opcode"), (.array (.object "com/example/keyspace/keyspace/server/Opcode"))]
  resolved := Array.replicate 100 none
  statics := some 0 }

def pool7 : Array CpInfo := pool [(1, .class_ 2), (0, u "java/lang/Cloneable"), (0, .class_ 4), (0, u "java/lang/Object")] 2

/-- java/lang/Cloneable -/
def k7 : Class := { plain "java/lang/Cloneable" (some 0) with
  accessFlags := 1537
  interfaces := #[]
  cf := some (fileOf pool7 1 #[] #[] 1537 3 #[] #[])
  fields := #[]
  methods := #[]
  instanceTypes := #[]
  staticTypes := #[]
  resolved := Array.replicate 7 none
  statics := none }

/-- the primitive byte -/
def k8 : Class := { plain "byte" none with kind := .primitive 'B', accessFlags := 0x411 }
/-- [B -/
def k9 : Class := { plain "[B" (some 0) with kind := .array 8 .byte, interfaces := #[7, 4], accessFlags := 1041 }

/-- the primitive int -/
def k10 : Class := { plain "int" none with kind := .primitive 'I', accessFlags := 0x411 }
/-- [I -/
def k11 : Class := { plain "[I" (some 0) with kind := .array 10 .int, interfaces := #[7, 4], accessFlags := 1041 }

/-- [Lcom/example/keyspace/keyspace/server/Opcode; -/
def k12 : Class := { plain "[Lcom/example/keyspace/keyspace/server/Opcode;" (some 0) with kind := .array 6 (.object "com/example/keyspace/keyspace/server/Opcode"), interfaces := #[7, 4], accessFlags := 1041 }

def heap : Heap := #[{ cls := 6, slots := #[.ref 2, .ref 3, .ref 4, .ref 5, .ref 6, .ref 7, .ref 8, .ref 9, .ref 10, .ref 11, .ref 12, .ref 13, .ref 1], vm := .statics 6 },
  { cls := 12, slots := #[.ref 2, .ref 3, .ref 4, .ref 5, .ref 6, .ref 7, .ref 8, .ref 9, .ref 10, .ref 11, .ref 12, .ref 13], vm := .none },
  { cls := 6, slots := #[.null, .int 0, .int 0, .int 0], vm := .none },
  { cls := 6, slots := #[.null, .int 1, .int 0, .int 1], vm := .none },
  { cls := 6, slots := #[.null, .int 2, .int 0, .int 2], vm := .none },
  { cls := 6, slots := #[.null, .int 3, .int 0, .int 5], vm := .none },
  { cls := 6, slots := #[.null, .int 4, .int 0, .int 6], vm := .none },
  { cls := 6, slots := #[.null, .int 5, .int 0, .int 7], vm := .none },
  { cls := 6, slots := #[.null, .int 6, .int 0, .int 8], vm := .none },
  { cls := 6, slots := #[.null, .int 7, .int 0, .int 9], vm := .none },
  { cls := 6, slots := #[.null, .int 8, .int 0, .int 10], vm := .none },
  { cls := 6, slots := #[.null, .int 9, .int 0, .int 11], vm := .none },
  { cls := 6, slots := #[.null, .int 10, .int 0, .int 13], vm := .none },
  { cls := 6, slots := #[.null, .int 11, .int 0, .int 15], vm := .none }]
def classes : Array Class := #[k0, k1, k2, k3, k4, k5, k6, k7, k8, k9, k10, k11, k12]
def interned : List (Array UInt16 × Addr) := []
def slotsUsed : Nat := 73
def theMethod : MethodId := ⟨1, 2⟩
def args0 : Array Value := #[.int 5, .int 1]
def aboutOver (below : List Frame) : State where
  vm := { classes := classes, interned := interned.toArray }
  heap := heap
  slotsUsed := slotsUsed
  threads := #[{ frames := .invoking theMethod args0 :: below }]
def below0 : List Frame := [.native { method := ⟨0, 0⟩, args := #[] }]
def about1 : State := aboutOver below0
def p0 : Program := .bare "" "" ""
def e0 : Env := launch0.env 0 0 0
theorem w_frames : about1.frames = Frame.invoking theMethod args0 :: below0 := rfl
set_option maxRecDepth 65536 in
theorem w_args : argsFit about1.vm theMethod args0 = true := by decide +kernel
set_option maxRecDepth 65536 in
theorem w_heap : heapFits about1 = true := by decide +kernel
set_option maxRecDepth 65536 in
theorem w_runnable : about1.curStatus? = some .runnable := by decide +kernel
set_option maxRecDepth 65536 in
theorem w_alone : about1.alone = true := by decide +kernel
set_option maxRecDepth 65536 in
theorem w_named : about1.methodNamed? x = some theMethod := by decide +kernel
set_option maxRecDepth 65536 in
theorem w_hears : about1.hears theMethod below0 = true := by decide +kernel
set_option maxRecDepth 65536 in
theorem w_ripe : about1.ripe theMethod args0 below0 = true := by decide +kernel
theorem w_running : about1.status = .running := rfl
set_option maxRecDepth 65536 in
theorem w_room : about1.hasRoom e0.platform room_1 = true :=
  launch0.hasRoom_least _ room_1 (by decide +kernel) (by decide +kernel) (by decide +kernel) (by decide +kernel) (by decide +kernel) (by decide +kernel)
theorem allAtoms_all (ts : List Jvm.Cond) (a : Array Jvm.Value) (st : Jvm.State) : (allAtoms ts).before a st = ts.all (fun c => c.before a st) := by
  induction ts with
  | nil => rfl
  | cons c t ih =>
    show (Jvm.Cond.and c (allAtoms t)).before a st = _
    rw [Jvm.Cond.before_and, ih, List.all_cons]
def words1 : List Jvm.Cond := Jvm.Cond.code x code maxLocals ret :: tables_1
/-- a 'code' word, met by the world's own term for the bytes: nothing is compared byte by byte -/
theorem code_word {y : MethodName} {bytes : ByteArray} {mx : Nat} {rt : Option FieldType} {a : Array Value} {s : State} {m : MethodId} {meth : Method} {c : Code} (h1 : s.methodNamed? y = some m) (h2 : s.vm.method? m = some meth) (h3 : meth.code = some c) (h4 : c.code = bytes)
    (h5 : (c.maxLocals == mx && c.exceptionTable.isEmpty && decide (c.maxStack ≤ mostOperands) && decide (meth.sig.returnType = rt) && !meth.locks && decide (parseMethodDescriptor y.desc = some meth.sig)) = true) : (Jvm.Cond.code y bytes mx rt).before a s = true := by
  simp only [Bool.and_eq_true, beq_iff_eq, Bool.not_eq_true', decide_eq_true_eq] at h5
  obtain ⟨⟨⟨⟨⟨g1, g2⟩, g3⟩, g4⟩, g5⟩, g6⟩ := h5
  simp [Cond.before, Cond.holds, Cond.value, h1, h2, h3, h4, g1, g2, g3, g4, g5, g6]
def isCode : Jvm.Cond → Bool
  | .code _ _ _ _ => true
  | _ => false
theorem all_split {L : List Jvm.Cond} {P : Jvm.Cond → Bool} (h1 : L.all (fun c => isCode c || P c) = true) (h2 : ∀ c ∈ L.filter isCode, P c = true) : L.all P = true := by
  refine List.all_eq_true.mpr fun c hc => ?_
  have h := List.all_eq_true.mp h1 c hc
  rcases Bool.eq_false_or_eq_true (isCode c) with hi | hi
  · exact h2 c (List.mem_filter.mpr ⟨hc, hi⟩)
  · simpa [hi] using h
set_option maxRecDepth 65536 in
theorem w_c0 : (Jvm.Cond.code x code maxLocals ret).before args0 about1 = true := code_word (m := ⟨1, 2⟩) (meth := k1m2) (c := k1c2) (by decide +kernel) rfl rfl rfl (by decide +kernel)
set_option maxRecDepth 65536 in
theorem w_c1 : (Jvm.Cond.code ({ cls := "com/example/keyspace/keyspace/server/Opcode", name := "of", desc := "(I)Lcom/example/keyspace/keyspace/server/Opcode;" } : Jvm.MethodName) prog_150_method_5_code (5 : Nat) (Option.some (Jvm.ClassFile.FieldType.object "com/example/keyspace/keyspace/server/Opcode"))).before args0 about1 = true := code_word (m := ⟨6, 2⟩) (meth := k6m2) (c := k6c2) (by decide +kernel) rfl rfl rfl (by decide +kernel)
set_option maxRecDepth 65536 in
theorem w_c2 : (Jvm.Cond.code ({ cls := "com/example/keyspace/keyspace/server/Opcode", name := "values", desc := "()[Lcom/example/keyspace/keyspace/server/Opcode;" } : Jvm.MethodName) prog_150_method_1_code (0 : Nat) (Option.some (Jvm.ClassFile.FieldType.array (Jvm.ClassFile.FieldType.object "com/example/keyspace/keyspace/server/Opcode")))).before args0 about1 = true := code_word (m := ⟨6, 0⟩) (meth := k6m0) (c := k6c0) (by decide +kernel) rfl rfl rfl (by decide +kernel)
set_option maxRecDepth 65536 in
theorem w_c3 : (Jvm.Cond.code ({ cls := "com/example/keyspace/keyspace/server/OpcodeOfPinLaw", name := "expected", desc := "(I)Lcom/example/keyspace/keyspace/server/Opcode;" } : Jvm.MethodName) method_2_code (1 : Nat) (Option.some (Jvm.ClassFile.FieldType.object "com/example/keyspace/keyspace/server/Opcode"))).before args0 about1 = true := code_word (m := ⟨1, 1⟩) (meth := k1m1) (c := k1c1) (by decide +kernel) rfl rfl rfl (by decide +kernel)
set_option maxRecDepth 65536 in
theorem w_c4 : (Jvm.Cond.code ({ cls := "com/example/keyspace/keyspace/server/Opcode", name := "code", desc := "()I" } : Jvm.MethodName) prog_150_method_4_code (1 : Nat) (Option.some Jvm.ClassFile.FieldType.int)).before args0 about1 = true := code_word (m := ⟨6, 1⟩) (meth := k6m1) (c := k6c1) (by decide +kernel) rfl rfl rfl (by decide +kernel)
def codes1 : List Jvm.Cond := [Jvm.Cond.code x code maxLocals ret, Jvm.Cond.code ({ cls := "com/example/keyspace/keyspace/server/Opcode", name := "of", desc := "(I)Lcom/example/keyspace/keyspace/server/Opcode;" } : Jvm.MethodName) prog_150_method_5_code (5 : Nat) (Option.some (Jvm.ClassFile.FieldType.object "com/example/keyspace/keyspace/server/Opcode")), Jvm.Cond.code ({ cls := "com/example/keyspace/keyspace/server/Opcode", name := "values", desc := "()[Lcom/example/keyspace/keyspace/server/Opcode;" } : Jvm.MethodName) prog_150_method_1_code (0 : Nat) (Option.some (Jvm.ClassFile.FieldType.array (Jvm.ClassFile.FieldType.object "com/example/keyspace/keyspace/server/Opcode"))), Jvm.Cond.code ({ cls := "com/example/keyspace/keyspace/server/OpcodeOfPinLaw", name := "expected", desc := "(I)Lcom/example/keyspace/keyspace/server/Opcode;" } : Jvm.MethodName) method_2_code (1 : Nat) (Option.some (Jvm.ClassFile.FieldType.object "com/example/keyspace/keyspace/server/Opcode")), Jvm.Cond.code ({ cls := "com/example/keyspace/keyspace/server/Opcode", name := "code", desc := "()I" } : Jvm.MethodName) prog_150_method_4_code (1 : Nat) (Option.some Jvm.ClassFile.FieldType.int)]
set_option maxRecDepth 65536 in
theorem codes_eq : words1.filter isCode = codes1 := rfl
theorem w_codes : ∀ c ∈ words1.filter isCode, c.before args0 about1 = true := by
  rw [codes_eq]
  intro c hc
  simp only [codes1, List.mem_cons, List.not_mem_nil, or_false] at hc
  rcases hc with rfl | rfl | rfl | rfl | rfl
  · exact w_c0
  · exact w_c1
  · exact w_c2
  · exact w_c3
  · exact w_c4
set_option maxRecDepth 65536 in
theorem w_t1 : (words1.take 24).all (fun c => isCode c || c.before args0 about1) = true := by decide +kernel
set_option maxRecDepth 65536 in
theorem w_t2 : ((words1.drop 24).take 24).all (fun c => isCode c || c.before args0 about1) = true := by decide +kernel
set_option maxRecDepth 65536 in
theorem w_t3 : ((words1.drop 24).drop 24).all (fun c => isCode c || c.before args0 about1) = true := by decide +kernel
theorem w_tables : (allAtoms (Jvm.Cond.code x code maxLocals ret :: tables_1)).before args0 about1 = true := by
  rw [allAtoms_all]
  show words1.all (fun c => c.before args0 about1) = true
  refine all_split ?_ w_codes
  rw [← List.take_append_drop 24 words1, List.all_append, w_t1, ← List.take_append_drop 24 (words1.drop 24), List.all_append, w_t2, w_t3]
  rfl
set_option maxRecDepth 65536 in
theorem w_case : (Jvm.Cond.and given_1 narrow_1).before args0 about1 = true := by decide +kernel
theorem w_applies : (headSpec (Jvm.Cond.code x code maxLocals ret :: tables_1) room_1).applies x e0.platform about1 = true :=
  (Spec.applies_iff w_frames).mpr ⟨w_running, w_runnable, w_alone, w_named, w_hears, w_ripe, w_room, w_tables⟩
theorem atStart : AtStart classFile x code maxLocals ret World_1 tables_1 room_1 Calls_1 rest_1 Pre_1 launch0 p0 e0 about1 theMethod args0 below0 :=
  ⟨lists_1, trivial, launch0.admits_env _ _ _, launch0.least_env, fairChoices_fair.cas, fairChoices_fair.clock, w_frames, w_args, w_heap, w_applies, trivial, trivial, w_case⟩
end start1
theorem witness_1 : WitnessClaimed_1 := ⟨start1.p0, start1.e0, start1.about1, start1.theMethod, start1.args0, start1.below0, start1.atStart⟩
end Jvm.Pilot.@@N@@
