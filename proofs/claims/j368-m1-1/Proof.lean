import JvmDerived
import JvmDerived.Pilot.@@N@@Statement
import JvmDerived.Pilot.@@N@@Code
set_option linter.unusedVariables false
set_option linter.unusedSimpArgs false
namespace Jvm.RoadKit
open Sem ClassFile Op Lib Jvm.Stand Jvm.Free Jvm.LawKit
section New
variable {p : Program} {l : Launch} {e : Env} {R : Room} {s : State} {m : MethodId} {args : Array Value} {below : List Frame} {meth : Method} {c : Code} {T : State} {locs : List Loc} {cells slots : Nat}
theorem retI (X : Stand p l e R s m args below meth c T locs cells slots) (hx : p.tables.exec = Jvm.exec) {pc : Nat} {Ls : Array Slot} {z : Int32} {rest : List Value} (hret : meth.sig.returnType = some .int) (hd : decode c.code pc = .ok (.ireturn, 1)) {fs : List Frame}
    (hl : ∀ (f : JFrame) (acts : List Action), f.method = m → f.locked = none → f.entered = [] → (doReturn e (T.setTop f) acts (some (.int z))).1 = T.setFrames fs) : Steps p.tables e below (T.setTop (mkF m pc Ls (.int z :: rest))) (T.setFrames fs) := by
  have hm' : T.vm.method? m = some meth := X.method'
  have hn : narrow .int (.int z) = .int z := rfl
  show Steps p.tables e below (T.setTop { method := m, pc := pc, locals := Ls, stack := _ :: rest, locked := none }) _
  jvm_step X.here [X.here.top, hx, hd, hm', hret, hn]
  first | (intro acts; rw [hl _ acts rfl rfl rfl]) | rw [hl _ _ rfl rfl rfl]
  exact Steps.refl _
end New
end Jvm.RoadKit
namespace Jvm.Pilot.@@N@@
open Jvm Jvm.ClassFile Sem Op Lib Jvm.Free Jvm.Stand Jvm.LawKit Jvm.RoadKit Bundle Jvm.Pilot.@@N@@.Jvm.D
abbrev OwnG (tb : Tables) (e : Env) (below : List Frame) (R : State → Outcome → Prop) (cur : State) : Prop := ∃ s₂ o, Steps tb e below cur s₂ ∧ R s₂ o
theorem own_go {tb : Tables} {e : Env} {below : List Frame} {R : State → Outcome → Prop} {cur nxt : State} (h : ∀ t, Steps tb e below nxt t → Steps tb e below cur t) (k : OwnG tb e below R nxt) : OwnG tb e below R cur := by
  obtain ⟨s₂, o, h1, h2⟩ := k
  exact ⟨s₂, o, h _ h1, h2⟩
theorem own_pick {α : Type} (c : Prop) (a b : α) : ∃ z : α, (c → z = a) ∧ (¬ c → z = b) := by
  by_cases h : c
  · exact ⟨a, fun _ => rfl, fun q => absurd h q⟩
  · exact ⟨b, fun q => absurd q h, fun _ => rfl⟩
theorem own_ne_or {a d x n : Nat} (h : x = d ∨ n ≤ x) (h1 : a ≠ d) (h2 : a < n) : a ≠ x := by
  rcases h with h | h <;> omega
theorem own_ge_or {d x n k : Nat} (h : x = d ∨ n ≤ x) (h1 : k ≤ d) (h2 : k ≤ n) : k ≤ x := by
  rcases h with h | h <;> omega
theorem own_in_or {d x n k : Nat} {ws : List Nat} (h : x = d ∨ n ≤ x) (h1 : d ∈ ws) (h2 : k ≤ n) : x ∈ ws ∨ k ≤ x := by
  rcases h with rfl | h
  · exact Or.inl h1
  · exact Or.inr (Nat.le_trans h2 h)
theorem own_iw_or {d x n k : Nat} {ws : List Nat} (h : x = d ∨ n ≤ x) (h1 : d ∈ ws ∨ k ≤ d) (h2 : k ≤ n) : x ∈ ws ∨ k ≤ x := by
  rcases h with rfl | h
  · exact h1
  · exact Or.inr (Nat.le_trans h2 h)
def own_lt (a b : Int64) : Int32 := if a < b then 1 else 0
def own_mono (x : Int64) (p : Int32) (y : Int64) (q : Int32) : Int32 := if y < x then (if p = 0 then 1 else if q = 0 then 0 else 1) else (if q = 0 then 1 else if p = 0 then 0 else 1)
theorem own_lt_self (a : Int64) : own_lt a a = 0 := if_neg (by rw [Int64.lt_iff_toInt_lt]; omega)
theorem own_mono_0 (x y : Int64) : own_mono x (0 : Int32) y (0 : Int32) = 1 := by
  unfold own_mono; split <;> rfl
theorem own_mono_1 (x y e : Int64) : own_mono x (own_lt x e) y (own_lt y e) = 1 := by
  unfold own_mono own_lt
  simp only [Int64.lt_iff_toInt_lt]
  by_cases h1 : x.toInt < e.toInt <;> by_cases h2 : y.toInt < e.toInt <;> by_cases h3 : y.toInt < x.toInt <;> simp [h1, h2, h3] <;> omega
theorem own_mono_2 (x e : Int64) : own_mono x (own_lt x e) e (0 : Int32) = 1 := by
  have h := own_mono_1 x e e; rw [own_lt_self] at h; exact h
theorem own_before {e : Int64} (h : ¬ e = (-9223372036854775808 : Int64)) : own_lt (e - 1) e = 1 := by
  refine if_pos ?_
  have h1 := rng64 e; have h2 := c_lsub e 1; have h3 := rng64 (e - 1)
  have e1 : (1 : Int64).toInt = 1 := rfl
  have h4 : e.toInt ≠ -9223372036854775808 := fun q => h (Int64.toInt_inj.mp q)
  rw [Int64.lt_iff_toInt_lt]; omega
theorem own_mono_3 (x : Int64) {e : Int64} (h : ¬ e = (-9223372036854775808 : Int64)) : own_mono x (own_lt x e) (e - 1) (1 : Int32) = 1 := by
  have g := own_mono_1 x (e - 1) e; rw [own_before h] at g; exact g
theorem own_ef0 (m : MethodId) (a1 : Addr) : entryFrame m #[(.ref a1)] 1 = mkF m 0 #[.val (.ref a1)] [] := by first | (simp [entryFrame, mkF, argsToLocals, Value.category]; done) | rfl
theorem own_pn1 : plainName "java/lang/Record" = true := by first | (simp [plainName, overriddenIn]; done) | decide +kernel
theorem own_d2 : decode jdk_30_method_1_code 0 = .ok (.aload_n 0, 1) := by decide +kernel
theorem own_d3 : decode jdk_30_method_1_code 1 = .ok (.invokespecial 1, 3) := by decide +kernel
theorem own_d4 : decode jdk_30_method_1_code 4 = .ok (.return_, 1) := by decide +kernel
def Q_own_rec (Z : State) (a1 : Addr) (h0 : Heap) (n0 : Nat) (v : Option Value) (h : Heap) (L : List Loc) : Prop := v = none ∧ Fr n0 L ∧ h = h0
set_option maxRecDepth 65536 in
set_option maxHeartbeats 40000000 in
theorem own_rec (l : Launch) (Z : State) (a0 : Array Value) (hw : ∀ d ∈ tables_1, d.before a0 Z = true) (ws : List Jvm.Cond) (a1 : Addr) (h0 : Heap) (n0 : Nat) (Z0 : n0 ≤ h0.size) :
    MetFree l (⟨"java/lang/Record", "<init>", "()V"⟩ : MethodName) (head1 (Jvm.Cond.code (⟨"java/lang/Record", "<init>", "()V"⟩ : MethodName) jdk_30_method_1_code 1 none :: ws) ({ frames := 1, cells := 0, slots := 0, locals := 12 } : Room)) (fun a U => a = #[(.ref a1)] ∧ Z.Warmed39 U.vm ∧ U.heap = h0) (fun _ _ _ _ _ => True) (fun _ U o U' => ∃ v L, o = .returned v ∧ Q_own_rec Z a1 h0 n0 v U'.heap L ∧ FrameEnd U o U' L ({ frames := 1, cells := 0, slots := 0, locals := 12 } : Room).cells ({ frames := 1, cells := 0, slots := 0, locals := 12 } : Room).slots) := by
  refine MetFree.of_bodySF (plainFor_of_name own_pn1) hisR ?_
  intro p e s m args below meth c s₁ Bd hml0 hP hK
  obtain ⟨rfl, hZ, hh⟩ := hP
  have hx := Bd.exec
  have hby := Bd.bytes
  have hml : c.maxLocals = 1 := hml0
  have hown : s.vm.findClass "java/lang/Record" = some m.cls := findClass_of_methodNamed Bd.named
  have hnm := (name_of_methodNamed Bd.named Bd.method).1
  have X0 : Stand p l e ({ frames := 1, cells := 0, slots := 0, locals := 12 } : Room) s m #[(.ref a1)] below meth c s₁ [] 0 0 := Stand.of_body Bd
  have e0 : s₁.heap = h0 := by rw [← hh, Bd.state]; rfl
  have N0 := Fr.nil n0
  have K0 := Keep.refl h0 []
  refine own_go (fun t k => castTop (own_ef0 m a1) k) ?_
  show OwnG p.tables e below _ (s₁.setTop (mkF m 0 #[.val (.ref a1)] []))
  refine own_go (fun t k => XS.aloadN X0.here hx rfl (hb hby own_d2) rfl rfl k) ?_
  show OwnG p.tables e below _ (s₁.setTop (mkF m 1 #[.val (.ref a1)] [(.ref a1)]))
  obtain ⟨T1, X1, e1, st1⟩ := initO X0 hx hZ hown (hw _ (List.mem_of_getElem? (i := 12) rfl)) (hw _ (List.mem_of_getElem? (i := 13) rfl)) (hw _ (List.mem_of_getElem? (i := 14) rfl)) e0 (g := (mkF m 1 #[.val (.ref a1)] [(.ref a1)])) rfl (by rw [hml]; rfl) rfl (hb hby own_d3) (by decide) (W := 0) (by show 2 * 0 + _ ≤ _; exact Nat.le_of_eq rfl) (by decide)
  refine own_go (fun t k => st1 t k) ?_
  show OwnG p.tables e below _ (T1.setTop (mkF m 4 #[.val (.ref a1)] []))
  obtain ⟨fs, hr, hrun, hended, hW, hsame⟩ := X1.leave (v := none) (fun _ => rfl)
  refine ⟨_, _, X1.returnOut hx Bd.returns (hb hby own_d4) hr, hrun, hended, _, _, rfl, ?_, ⟨_, rfl⟩, hW, hsame.mono (by decide) (by decide)⟩
  show Q_own_rec Z a1 h0 n0 _ T1.heap _
  rw [e1]
  exact ⟨rfl, N0, rfl⟩
theorem own_ef5 (m : MethodId) (a1 : Addr) (q1 : Int64) (q2 : Int64) : entryFrame m #[(.ref a1), .null, (.long q1), (.long q2)] 6 = mkF m 0 #[.val (.ref a1), .val .null, .val (.long q1), .second, .val (.long q2), .second] [] := by first | (simp [entryFrame, mkF, argsToLocals, Value.category]; done) | rfl
theorem own_pn6 : plainName "com/example/keyspace/keyspace/engine/Cell" = true := by first | (simp [plainName, overriddenIn]; done) | decide +kernel
theorem own_d7 : decode prog_92_method_1_code 0 = .ok (.aload_n 0, 1) := by decide +kernel
theorem own_d8 : decode prog_92_method_1_code 1 = .ok (.invokespecial 3, 3) := by decide +kernel
theorem own_pd9 : parseMethodDescriptor "()V" = some ⟨[], none⟩ := by decide +kernel
theorem own_d10 : decode prog_92_method_1_code 4 = .ok (.aload_n 0, 1) := by decide +kernel
theorem own_d11 : decode prog_92_method_1_code 5 = .ok (.aload_n 1, 1) := by decide +kernel
theorem own_d12 : decode prog_92_method_1_code 6 = .ok (.putfield 9, 3) := by decide +kernel
theorem own_d13 : decode prog_92_method_1_code 9 = .ok (.aload_n 0, 1) := by decide +kernel
theorem own_d14 : decode prog_92_method_1_code 10 = .ok (.lload_n 2, 1) := by decide +kernel
theorem own_d15 : decode prog_92_method_1_code 11 = .ok (.putfield 15, 3) := by decide +kernel
theorem own_d16 : decode prog_92_method_1_code 14 = .ok (.aload_n 0, 1) := by decide +kernel
theorem own_d17 : decode prog_92_method_1_code 15 = .ok (.lload 4, 2) := by decide +kernel
theorem own_d18 : decode prog_92_method_1_code 17 = .ok (.putfield 19, 3) := by decide +kernel
theorem own_d19 : decode prog_92_method_1_code 20 = .ok (.return_, 1) := by decide +kernel
def Q_own_init1 (Z : State) (a1 : Addr) (q1 : Int64) (q2 : Int64) (h0 : Heap) (n0 : Nat) (v : Option Value) (h : Heap) (L : List Loc) : Prop := v = none ∧ Fr n0 L ∧ Keep h0 h [a1] ∧ Exa Z h a1 "com/example/keyspace/keyspace/engine/Cell" ∧ Fld Z h a1 "com/example/keyspace/keyspace/engine/Cell" "value" "[B" .null ∧ Fld Z h a1 "com/example/keyspace/keyspace/engine/Cell" "timestamp" "J" (.long q1) ∧ Fld Z h a1 "com/example/keyspace/keyspace/engine/Cell" "expiry" "J" (.long q2)
set_option maxRecDepth 65536 in
set_option maxHeartbeats 40000000 in
theorem own_init1 (l : Launch) (Z : State) (a0 : Array Value) (hw : ∀ d ∈ tables_1, d.before a0 Z = true) (ws : List Jvm.Cond) (a1 : Addr) (q1 : Int64) (q2 : Int64) (h0 : Heap) (n0 : Nat) (Z0 : n0 ≤ h0.size) (f0_0 : Exa Z h0 a1 "com/example/keyspace/keyspace/engine/Cell") (f0_1 : Fld Z h0 a1 "com/example/keyspace/keyspace/engine/Cell" "value" "[B" .null) (f0_2 : Fld Z h0 a1 "com/example/keyspace/keyspace/engine/Cell" "timestamp" "J" (.long (0 : Int64))) (f0_3 : Fld Z h0 a1 "com/example/keyspace/keyspace/engine/Cell" "expiry" "J" (.long (0 : Int64))) (g_a1 : n0 ≤ a1) :
    MetFree l (⟨"com/example/keyspace/keyspace/engine/Cell", "<init>", "([BJJ)V"⟩ : MethodName) (head1 (Jvm.Cond.code (⟨"com/example/keyspace/keyspace/engine/Cell", "<init>", "([BJJ)V"⟩ : MethodName) prog_92_method_1_code 6 none :: ws) ({ frames := 2, cells := 0, slots := 0, locals := 24 } : Room)) (fun a U => a = #[(.ref a1), .null, (.long q1), (.long q2)] ∧ Z.Warmed39 U.vm ∧ U.heap = h0) (fun _ _ _ _ _ => True) (fun _ U o U' => ∃ v L, o = .returned v ∧ Q_own_init1 Z a1 q1 q2 h0 n0 v U'.heap L ∧ FrameEnd U o U' L ({ frames := 2, cells := 0, slots := 0, locals := 24 } : Room).cells ({ frames := 2, cells := 0, slots := 0, locals := 24 } : Room).slots) := by
  refine MetFree.of_bodySF (plainFor_of_name own_pn6) hisR ?_
  intro p e s m args below meth c s₁ Bd hml0 hP hK
  obtain ⟨rfl, hZ, hh⟩ := hP
  have hx := Bd.exec
  have hby := Bd.bytes
  have hml : c.maxLocals = 6 := hml0
  have hown : s.vm.findClass "com/example/keyspace/keyspace/engine/Cell" = some m.cls := findClass_of_methodNamed Bd.named
  have hnm := (name_of_methodNamed Bd.named Bd.method).1
  have X0 : Stand p l e ({ frames := 2, cells := 0, slots := 0, locals := 24 } : Room) s m #[(.ref a1), .null, (.long q1), (.long q2)] below meth c s₁ [] 0 0 := Stand.of_body Bd
  have e0 : s₁.heap = h0 := by rw [← hh, Bd.state]; rfl
  have N0 := Fr.nil n0
  have K0 := Keep.refl h0 [a1]
  refine own_go (fun t k => castTop (own_ef5 m a1 q1 q2) k) ?_
  show OwnG p.tables e below _ (s₁.setTop (mkF m 0 #[.val (.ref a1), .val .null, .val (.long q1), .second, .val (.long q2), .second] []))
  refine own_go (fun t k => XS.aloadN X0.here hx rfl (hb hby own_d7) rfl rfl k) ?_
  show OwnG p.tables e below _ (s₁.setTop (mkF m 1 #[.val (.ref a1), .val .null, .val (.long q1), .second, .val (.long q2), .second] [(.ref a1)]))
  obtain ⟨_, _, ⟨T1, L1, k1, n1⟩, -, X1, ⟨Lc1, hQ1, l1, y1, z1⟩, st1⟩ := X0.specialBack hx (y := (⟨"java/lang/Record", "<init>", "()V"⟩ : MethodName)) rfl hown (mvT hZ (hw _ (List.mem_of_getElem? (i := 7) rfl))) (mvT hZ (hw _ (List.mem_of_getElem? (i := 8) rfl))) (mvT hZ (hw _ (List.mem_of_getElem? (i := 11) rfl))) (by decide) (backOf (W := 0) (own_rec l Z a0 hw [] a1 h0 n0 Z0) hZ (hw _ (List.mem_of_getElem? (i := 11) rfl)) (hw _ (List.mem_of_getElem? (i := 10) rfl)) (by decide) (by decide)) (g := (mkF m 1 #[.val (.ref a1), .val .null, .val (.long q1), .second, .val (.long q2), .second] [(.ref a1)])) rfl (by rw [hml]; rfl) (Steps.refl _) (a := a1) (argsL := []) (rest := []) (lenOf own_pd9 rfl) rfl (by show 2 * 0 + _ ≤ _; exact Nat.le_of_eq rfl) (hb hby own_d8) (fun _ _ => ⟨rfl, e0, (by decide : 0 + 0 ≤ _), (by decide : 0 + 0 ≤ _)⟩)
  dsimp only [Pt.U, Pt.locs, Pt.cells, Pt.slots] at X1 l1 y1 z1 st1 hQ1
  subst l1 y1 z1
  obtain ⟨rfl, Nq1, eq1⟩ := hQ1
  have N1 := Fr.app N0 Nq1
  have e1 : T1.heap = h0 := eq1
  refine own_go (fun t k => st1.trans k) ?_
  show OwnG p.tables e below _ (T1.setTop (mkF m 4 #[.val (.ref a1), .val .null, .val (.long q1), .second, .val (.long q2), .second] []))
  refine own_go (fun t k => XS.aloadN X1.here hx rfl (hb hby own_d10) rfl rfl k) ?_
  show OwnG p.tables e below _ (T1.setTop (mkF m 5 #[.val (.ref a1), .val .null, .val (.long q1), .second, .val (.long q2), .second] [(.ref a1)]))
  refine own_go (fun t k => XS.aloadN X1.here hx rfl (hb hby own_d11) rfl rfl k) ?_
  show OwnG p.tables e below _ (T1.setTop (mkF m 6 #[.val (.ref a1), .val .null, .val (.long q1), .second, .val (.long q2), .second] [.null, (.ref a1)]))
  obtain ⟨T2, h2, X2, e2, W2, st2⟩ := putF X1 hx hZ hown (host := "") (Or.inl (hw _ (List.mem_of_getElem? (i := 15) rfl))) Via.refl e1 f0_1 f0_0 (Or.inr ⟨(hw _ (List.mem_of_getElem? (i := 16) rfl)), rfl, hnm⟩) (hw _ (List.mem_of_getElem? (i := 2) rfl)) (ty := (.array .byte)) (by decide) rfl rfl (g := (mkF m 6 #[.val (.ref a1), .val .null, .val (.long q1), .second, .val (.long q2), .second] [.null, (.ref a1)])) rfl rfl (hb hby own_d12)
  have F3 : Exa Z h2 a1 "com/example/keyspace/keyspace/engine/Cell" := f0_0.wr W2
  have F4 : Fld Z h2 a1 "com/example/keyspace/keyspace/engine/Cell" "value" "[B" .null := f0_1.same W2
  have F5 : Fld Z h2 a1 "com/example/keyspace/keyspace/engine/Cell" "timestamp" "J" (.long (0 : Int64)) := f0_2.other W2 (Or.inr (slot_ne (Or.inr (hw _ (List.mem_of_getElem? (i := 18) rfl))) (Or.inr (hw _ (List.mem_of_getElem? (i := 16) rfl))) (by decide) (t := .long) (t' := (.array .byte)) (by decide) (by decide)))
  have F6 : Fld Z h2 a1 "com/example/keyspace/keyspace/engine/Cell" "expiry" "J" (.long (0 : Int64)) := f0_3.other W2 (Or.inr (slot_ne (Or.inr (hw _ (List.mem_of_getElem? (i := 20) rfl))) (Or.inr (hw _ (List.mem_of_getElem? (i := 16) rfl))) (by decide) (t := .long) (t' := (.array .byte)) (by decide) (by decide)))
  have N7 := Fr.snoc X2 N1 g_a1
  have K7 : Keep h0 h2 [a1] := K0.wr W2 (Or.inl (List.mem_of_getElem? (i := 0) rfl))
  have Z7 : n0 ≤ h2.size := Nat.le_trans Z0 (Keep.of_wr W2).1
  refine own_go (fun t k => st2 t k) ?_
  show OwnG p.tables e below _ (T2.setTop (mkF m 9 #[.val (.ref a1), .val .null, .val (.long q1), .second, .val (.long q2), .second] []))
  refine own_go (fun t k => XS.aloadN X2.here hx rfl (hb hby own_d13) rfl rfl k) ?_
  show OwnG p.tables e below _ (T2.setTop (mkF m 10 #[.val (.ref a1), .val .null, .val (.long q1), .second, .val (.long q2), .second] [(.ref a1)]))
  refine own_go (fun t k => XS.lloadN X2.here hx rfl (hb hby own_d14) rfl  k) ?_
  show OwnG p.tables e below _ (T2.setTop (mkF m 11 #[.val (.ref a1), .val .null, .val (.long q1), .second, .val (.long q2), .second] [(.long q1), (.ref a1)]))
  obtain ⟨T8, h8, X8, e8, W8, st8⟩ := putF X2 hx hZ hown (host := "") (Or.inl (hw _ (List.mem_of_getElem? (i := 17) rfl))) Via.refl e2 F5 F3 (Or.inr ⟨(hw _ (List.mem_of_getElem? (i := 18) rfl)), rfl, hnm⟩) (hw _ (List.mem_of_getElem? (i := 2) rfl)) (ty := .long) (by decide) rfl rfl (g := (mkF m 11 #[.val (.ref a1), .val .null, .val (.long q1), .second, .val (.long q2), .second] [(.long q1), (.ref a1)])) rfl rfl (hb hby own_d15)
  have F9 : Exa Z h8 a1 "com/example/keyspace/keyspace/engine/Cell" := F3.wr W8
  have F10 : Fld Z h8 a1 "com/example/keyspace/keyspace/engine/Cell" "value" "[B" .null := F4.other W8 (Or.inr (slot_ne (Or.inr (hw _ (List.mem_of_getElem? (i := 16) rfl))) (Or.inr (hw _ (List.mem_of_getElem? (i := 18) rfl))) (by decide) (t := (.array .byte)) (t' := .long) (by decide) (by decide)))
  have F11 : Fld Z h8 a1 "com/example/keyspace/keyspace/engine/Cell" "timestamp" "J" (.long q1) := F5.same W8
  have F12 : Fld Z h8 a1 "com/example/keyspace/keyspace/engine/Cell" "expiry" "J" (.long (0 : Int64)) := F6.other W8 (Or.inr (slot_ne (Or.inr (hw _ (List.mem_of_getElem? (i := 20) rfl))) (Or.inr (hw _ (List.mem_of_getElem? (i := 18) rfl))) (by decide) (t := .long) (t' := .long) (by decide) (by decide)))
  have N13 := Fr.snoc X8 N7 g_a1
  have K13 : Keep h0 h8 [a1] := K7.wr W8 (Or.inl (List.mem_of_getElem? (i := 0) rfl))
  have Z13 : n0 ≤ h8.size := Nat.le_trans Z7 (Keep.of_wr W8).1
  refine own_go (fun t k => st8 t k) ?_
  show OwnG p.tables e below _ (T8.setTop (mkF m 14 #[.val (.ref a1), .val .null, .val (.long q1), .second, .val (.long q2), .second] []))
  refine own_go (fun t k => XS.aloadN X8.here hx rfl (hb hby own_d16) rfl rfl k) ?_
  show OwnG p.tables e below _ (T8.setTop (mkF m 15 #[.val (.ref a1), .val .null, .val (.long q1), .second, .val (.long q2), .second] [(.ref a1)]))
  refine own_go (fun t k => XS.lload X8.here hx rfl (hb hby own_d17) rfl  k) ?_
  show OwnG p.tables e below _ (T8.setTop (mkF m 17 #[.val (.ref a1), .val .null, .val (.long q1), .second, .val (.long q2), .second] [(.long q2), (.ref a1)]))
  obtain ⟨T14, h14, X14, e14, W14, st14⟩ := putF X8 hx hZ hown (host := "") (Or.inl (hw _ (List.mem_of_getElem? (i := 19) rfl))) Via.refl e8 F12 F9 (Or.inr ⟨(hw _ (List.mem_of_getElem? (i := 20) rfl)), rfl, hnm⟩) (hw _ (List.mem_of_getElem? (i := 2) rfl)) (ty := .long) (by decide) rfl rfl (g := (mkF m 17 #[.val (.ref a1), .val .null, .val (.long q1), .second, .val (.long q2), .second] [(.long q2), (.ref a1)])) rfl rfl (hb hby own_d18)
  have F15 : Exa Z h14 a1 "com/example/keyspace/keyspace/engine/Cell" := F9.wr W14
  have F16 : Fld Z h14 a1 "com/example/keyspace/keyspace/engine/Cell" "value" "[B" .null := F10.other W14 (Or.inr (slot_ne (Or.inr (hw _ (List.mem_of_getElem? (i := 16) rfl))) (Or.inr (hw _ (List.mem_of_getElem? (i := 20) rfl))) (by decide) (t := (.array .byte)) (t' := .long) (by decide) (by decide)))
  have F17 : Fld Z h14 a1 "com/example/keyspace/keyspace/engine/Cell" "timestamp" "J" (.long q1) := F11.other W14 (Or.inr (slot_ne (Or.inr (hw _ (List.mem_of_getElem? (i := 18) rfl))) (Or.inr (hw _ (List.mem_of_getElem? (i := 20) rfl))) (by decide) (t := .long) (t' := .long) (by decide) (by decide)))
  have F18 : Fld Z h14 a1 "com/example/keyspace/keyspace/engine/Cell" "expiry" "J" (.long q2) := F12.same W14
  have N19 := Fr.snoc X14 N13 g_a1
  have K19 : Keep h0 h14 [a1] := K13.wr W14 (Or.inl (List.mem_of_getElem? (i := 0) rfl))
  have Z19 : n0 ≤ h14.size := Nat.le_trans Z13 (Keep.of_wr W14).1
  refine own_go (fun t k => st14 t k) ?_
  show OwnG p.tables e below _ (T14.setTop (mkF m 20 #[.val (.ref a1), .val .null, .val (.long q1), .second, .val (.long q2), .second] []))
  obtain ⟨fs, hr, hrun, hended, hW, hsame⟩ := X14.leave (v := none) (fun _ => rfl)
  refine ⟨_, _, X14.returnOut hx Bd.returns (hb hby own_d19) hr, hrun, hended, _, _, rfl, ?_, ⟨_, rfl⟩, hW, hsame.mono (by decide) (by decide)⟩
  show Q_own_init1 Z a1 q1 q2 h0 n0 _ T14.heap _
  rw [e14]
  exact ⟨rfl, N19, K19, F15, F16, F17, F18⟩
theorem own_ef20 (m : MethodId) (a1 : Addr) (q3 : Int64) : entryFrame m #[(.ref a1), (.long q3)] 3 = mkF m 0 #[.val (.ref a1), .val (.long q3), .second] [] := by first | (simp [entryFrame, mkF, argsToLocals, Value.category]; done) | rfl
theorem own_d21 : decode prog_92_method_2_code 0 = .ok (.aload_n 0, 1) := by decide +kernel
theorem own_d22 : decode prog_92_method_2_code 1 = .ok (.getfield 9, 3) := by decide +kernel
theorem own_d23 : decode prog_92_method_2_code 4 = .ok (.ifnull 16, 3) := by decide +kernel
theorem own_d24 : decode prog_92_method_2_code 20 = .ok (.iconst 0, 1) := by decide +kernel
theorem own_d25 : decode prog_92_method_2_code 21 = .ok (.ireturn, 1) := by decide +kernel
def Q_own_live1 (Z : State) (a1 : Addr) (q3 : Int64) (q2 : Int64) (h0 : Heap) (n0 : Nat) (v : Option Value) (h : Heap) (L : List Loc) : Prop := v = some (.int (0 : Int32)) ∧ Fr n0 L ∧ h = h0
set_option maxRecDepth 65536 in
set_option maxHeartbeats 40000000 in
theorem own_live1 (l : Launch) (Z : State) (a0 : Array Value) (hw : ∀ d ∈ tables_1, d.before a0 Z = true) (ws : List Jvm.Cond) (a1 : Addr) (q3 : Int64) (q2 : Int64) (h0 : Heap) (n0 : Nat) (Z0 : n0 ≤ h0.size) (f0_0 : Fld Z h0 a1 "com/example/keyspace/keyspace/engine/Cell" "value" "[B" .null) (f0_1 : Fld Z h0 a1 "com/example/keyspace/keyspace/engine/Cell" "expiry" "J" (.long q2)) :
    MetFree l (⟨"com/example/keyspace/keyspace/engine/Cell", "isLive", "(J)Z"⟩ : MethodName) (head1 (Jvm.Cond.code (⟨"com/example/keyspace/keyspace/engine/Cell", "isLive", "(J)Z"⟩ : MethodName) prog_92_method_2_code 3 (some .boolean) :: ws) ({ frames := 0, cells := 0, slots := 0, locals := 0 } : Room)) (fun a U => a = #[(.ref a1), (.long q3)] ∧ Z.Warmed39 U.vm ∧ U.heap = h0) (fun _ _ _ _ _ => True) (fun _ U o U' => ∃ v L, o = .returned v ∧ Q_own_live1 Z a1 q3 q2 h0 n0 v U'.heap L ∧ FrameEnd U o U' L ({ frames := 0, cells := 0, slots := 0, locals := 0 } : Room).cells ({ frames := 0, cells := 0, slots := 0, locals := 0 } : Room).slots) := by
  refine MetFree.of_bodySF (plainFor_of_name own_pn6) hisR ?_
  intro p e s m args below meth c s₁ Bd hml0 hP hK
  obtain ⟨rfl, hZ, hh⟩ := hP
  have hx := Bd.exec
  have hby := Bd.bytes
  have hml : c.maxLocals = 3 := hml0
  have hown : s.vm.findClass "com/example/keyspace/keyspace/engine/Cell" = some m.cls := findClass_of_methodNamed Bd.named
  have hnm := (name_of_methodNamed Bd.named Bd.method).1
  have X0 : Stand p l e ({ frames := 0, cells := 0, slots := 0, locals := 0 } : Room) s m #[(.ref a1), (.long q3)] below meth c s₁ [] 0 0 := Stand.of_body Bd
  have e0 : s₁.heap = h0 := by rw [← hh, Bd.state]; rfl
  have N0 := Fr.nil n0
  have K0 := Keep.refl h0 []
  refine own_go (fun t k => castTop (own_ef20 m a1 q3) k) ?_
  show OwnG p.tables e below _ (s₁.setTop (mkF m 0 #[.val (.ref a1), .val (.long q3), .second] []))
  refine own_go (fun t k => XS.aloadN X0.here hx rfl (hb hby own_d21) rfl rfl k) ?_
  show OwnG p.tables e below _ (s₁.setTop (mkF m 1 #[.val (.ref a1), .val (.long q3), .second] [(.ref a1)]))
  obtain ⟨T1, X1, e1, st1⟩ := getF X0 hx hZ hown (host := "") (Or.inl (hw _ (List.mem_of_getElem? (i := 15) rfl))) Via.refl e0 f0_0 (g := (mkF m 1 #[.val (.ref a1), .val (.long q3), .second] [(.ref a1)])) rfl rfl (hb hby own_d22)
  refine own_go (fun t k => st1 t k) ?_
  show OwnG p.tables e below _ (T1.setTop (mkF m 4 #[.val (.ref a1), .val (.long q3), .second] [.null]))
  refine own_go (fun t k => XS.ifnullYes X1.here hx rfl (pc0 := 4) (pc' := 20) rfl (hb hby own_d23) rfl (by decide) (by decide) k) ?_
  show OwnG p.tables e below _ (T1.setTop (mkF m 20 #[.val (.ref a1), .val (.long q3), .second] []))
  refine own_go (fun t k => XS.iconst X1.here hx rfl (hb hby own_d24) k) ?_
  show OwnG p.tables e below _ (T1.setTop (mkF m 21 #[.val (.ref a1), .val (.long q3), .second] [(.int (0 : Int32))]))
  obtain ⟨fs, hr, hrun, hended, hW, hsame⟩ := X1.leave (v := some (.int (0 : Int32))) (fun h => by rw [Bd.returns] at h; cases h)
  refine ⟨_, _, retN X1 hx (t := .boolean) Bd.returns (by simp) (hb hby own_d25) hr, hrun, hended, _, _, rfl, ?_, ⟨_, rfl⟩, hW, hsame.mono (by decide) (by decide)⟩
  show Q_own_live1 Z a1 q3 q2 h0 n0 _ T1.heap _
  rw [e1]
  exact ⟨rfl, N0, rfl⟩
theorem own_ef26 (m : MethodId) (a1 : Addr) (a2 : Addr) (q1 : Int64) (q2 : Int64) : entryFrame m #[(.ref a1), (.ref a2), (.long q1), (.long q2)] 6 = mkF m 0 #[.val (.ref a1), .val (.ref a2), .val (.long q1), .second, .val (.long q2), .second] [] := by first | (simp [entryFrame, mkF, argsToLocals, Value.category]; done) | rfl
def Q_own_init0 (Z : State) (a1 : Addr) (a2 : Addr) (q1 : Int64) (q2 : Int64) (h0 : Heap) (n0 : Nat) (v : Option Value) (h : Heap) (L : List Loc) : Prop := v = none ∧ Fr n0 L ∧ Keep h0 h [a1] ∧ Exa Z h a1 "com/example/keyspace/keyspace/engine/Cell" ∧ Fld Z h a1 "com/example/keyspace/keyspace/engine/Cell" "value" "[B" (.ref a2) ∧ Fld Z h a1 "com/example/keyspace/keyspace/engine/Cell" "timestamp" "J" (.long q1) ∧ Fld Z h a1 "com/example/keyspace/keyspace/engine/Cell" "expiry" "J" (.long q2)
set_option maxRecDepth 65536 in
set_option maxHeartbeats 40000000 in
theorem own_init0 (l : Launch) (Z : State) (a0 : Array Value) (hw : ∀ d ∈ tables_1, d.before a0 Z = true) (ws : List Jvm.Cond) (a1 : Addr) (a2 : Addr) (q1 : Int64) (q2 : Int64) (h0 : Heap) (n0 : Nat) (Z0 : n0 ≤ h0.size) (f0_0 : Exa Z h0 a1 "com/example/keyspace/keyspace/engine/Cell") (f0_1 : Fld Z h0 a1 "com/example/keyspace/keyspace/engine/Cell" "value" "[B" .null) (f0_2 : Fld Z h0 a1 "com/example/keyspace/keyspace/engine/Cell" "timestamp" "J" (.long (0 : Int64))) (f0_3 : Fld Z h0 a1 "com/example/keyspace/keyspace/engine/Cell" "expiry" "J" (.long (0 : Int64))) (g_a1 : n0 ≤ a1) :
    MetFree l (⟨"com/example/keyspace/keyspace/engine/Cell", "<init>", "([BJJ)V"⟩ : MethodName) (head1 (Jvm.Cond.code (⟨"com/example/keyspace/keyspace/engine/Cell", "<init>", "([BJJ)V"⟩ : MethodName) prog_92_method_1_code 6 none :: ws) ({ frames := 2, cells := 0, slots := 0, locals := 24 } : Room)) (fun a U => a = #[(.ref a1), (.ref a2), (.long q1), (.long q2)] ∧ Z.Warmed39 U.vm ∧ U.heap = h0) (fun _ _ _ _ _ => True) (fun _ U o U' => ∃ v L, o = .returned v ∧ Q_own_init0 Z a1 a2 q1 q2 h0 n0 v U'.heap L ∧ FrameEnd U o U' L ({ frames := 2, cells := 0, slots := 0, locals := 24 } : Room).cells ({ frames := 2, cells := 0, slots := 0, locals := 24 } : Room).slots) := by
  refine MetFree.of_bodySF (plainFor_of_name own_pn6) hisR ?_
  intro p e s m args below meth c s₁ Bd hml0 hP hK
  obtain ⟨rfl, hZ, hh⟩ := hP
  have hx := Bd.exec
  have hby := Bd.bytes
  have hml : c.maxLocals = 6 := hml0
  have hown : s.vm.findClass "com/example/keyspace/keyspace/engine/Cell" = some m.cls := findClass_of_methodNamed Bd.named
  have hnm := (name_of_methodNamed Bd.named Bd.method).1
  have X0 : Stand p l e ({ frames := 2, cells := 0, slots := 0, locals := 24 } : Room) s m #[(.ref a1), (.ref a2), (.long q1), (.long q2)] below meth c s₁ [] 0 0 := Stand.of_body Bd
  have e0 : s₁.heap = h0 := by rw [← hh, Bd.state]; rfl
  have N0 := Fr.nil n0
  have K0 := Keep.refl h0 [a1]
  refine own_go (fun t k => castTop (own_ef26 m a1 a2 q1 q2) k) ?_
  show OwnG p.tables e below _ (s₁.setTop (mkF m 0 #[.val (.ref a1), .val (.ref a2), .val (.long q1), .second, .val (.long q2), .second] []))
  refine own_go (fun t k => XS.aloadN X0.here hx rfl (hb hby own_d7) rfl rfl k) ?_
  show OwnG p.tables e below _ (s₁.setTop (mkF m 1 #[.val (.ref a1), .val (.ref a2), .val (.long q1), .second, .val (.long q2), .second] [(.ref a1)]))
  obtain ⟨_, _, ⟨T1, L1, k1, n1⟩, -, X1, ⟨Lc1, hQ1, l1, y1, z1⟩, st1⟩ := X0.specialBack hx (y := (⟨"java/lang/Record", "<init>", "()V"⟩ : MethodName)) rfl hown (mvT hZ (hw _ (List.mem_of_getElem? (i := 7) rfl))) (mvT hZ (hw _ (List.mem_of_getElem? (i := 8) rfl))) (mvT hZ (hw _ (List.mem_of_getElem? (i := 11) rfl))) (by decide) (backOf (W := 0) (own_rec l Z a0 hw [] a1 h0 n0 Z0) hZ (hw _ (List.mem_of_getElem? (i := 11) rfl)) (hw _ (List.mem_of_getElem? (i := 10) rfl)) (by decide) (by decide)) (g := (mkF m 1 #[.val (.ref a1), .val (.ref a2), .val (.long q1), .second, .val (.long q2), .second] [(.ref a1)])) rfl (by rw [hml]; rfl) (Steps.refl _) (a := a1) (argsL := []) (rest := []) (lenOf own_pd9 rfl) rfl (by show 2 * 0 + _ ≤ _; exact Nat.le_of_eq rfl) (hb hby own_d8) (fun _ _ => ⟨rfl, e0, (by decide : 0 + 0 ≤ _), (by decide : 0 + 0 ≤ _)⟩)
  dsimp only [Pt.U, Pt.locs, Pt.cells, Pt.slots] at X1 l1 y1 z1 st1 hQ1
  subst l1 y1 z1
  obtain ⟨rfl, Nq1, eq1⟩ := hQ1
  have N1 := Fr.app N0 Nq1
  have e1 : T1.heap = h0 := eq1
  refine own_go (fun t k => st1.trans k) ?_
  show OwnG p.tables e below _ (T1.setTop (mkF m 4 #[.val (.ref a1), .val (.ref a2), .val (.long q1), .second, .val (.long q2), .second] []))
  refine own_go (fun t k => XS.aloadN X1.here hx rfl (hb hby own_d10) rfl rfl k) ?_
  show OwnG p.tables e below _ (T1.setTop (mkF m 5 #[.val (.ref a1), .val (.ref a2), .val (.long q1), .second, .val (.long q2), .second] [(.ref a1)]))
  refine own_go (fun t k => XS.aloadN X1.here hx rfl (hb hby own_d11) rfl rfl k) ?_
  show OwnG p.tables e below _ (T1.setTop (mkF m 6 #[.val (.ref a1), .val (.ref a2), .val (.long q1), .second, .val (.long q2), .second] [(.ref a2), (.ref a1)]))
  obtain ⟨T2, h2, X2, e2, W2, st2⟩ := putF X1 hx hZ hown (host := "") (Or.inl (hw _ (List.mem_of_getElem? (i := 15) rfl))) Via.refl e1 f0_1 f0_0 (Or.inr ⟨(hw _ (List.mem_of_getElem? (i := 16) rfl)), rfl, hnm⟩) (hw _ (List.mem_of_getElem? (i := 2) rfl)) (ty := (.array .byte)) (by decide) rfl rfl (g := (mkF m 6 #[.val (.ref a1), .val (.ref a2), .val (.long q1), .second, .val (.long q2), .second] [(.ref a2), (.ref a1)])) rfl rfl (hb hby own_d12)
  have F3 : Exa Z h2 a1 "com/example/keyspace/keyspace/engine/Cell" := f0_0.wr W2
  have F4 : Fld Z h2 a1 "com/example/keyspace/keyspace/engine/Cell" "value" "[B" (.ref a2) := f0_1.same W2
  have F5 : Fld Z h2 a1 "com/example/keyspace/keyspace/engine/Cell" "timestamp" "J" (.long (0 : Int64)) := f0_2.other W2 (Or.inr (slot_ne (Or.inr (hw _ (List.mem_of_getElem? (i := 18) rfl))) (Or.inr (hw _ (List.mem_of_getElem? (i := 16) rfl))) (by decide) (t := .long) (t' := (.array .byte)) (by decide) (by decide)))
  have F6 : Fld Z h2 a1 "com/example/keyspace/keyspace/engine/Cell" "expiry" "J" (.long (0 : Int64)) := f0_3.other W2 (Or.inr (slot_ne (Or.inr (hw _ (List.mem_of_getElem? (i := 20) rfl))) (Or.inr (hw _ (List.mem_of_getElem? (i := 16) rfl))) (by decide) (t := .long) (t' := (.array .byte)) (by decide) (by decide)))
  have N7 := Fr.snoc X2 N1 g_a1
  have K7 : Keep h0 h2 [a1] := K0.wr W2 (Or.inl (List.mem_of_getElem? (i := 0) rfl))
  have Z7 : n0 ≤ h2.size := Nat.le_trans Z0 (Keep.of_wr W2).1
  refine own_go (fun t k => st2 t k) ?_
  show OwnG p.tables e below _ (T2.setTop (mkF m 9 #[.val (.ref a1), .val (.ref a2), .val (.long q1), .second, .val (.long q2), .second] []))
  refine own_go (fun t k => XS.aloadN X2.here hx rfl (hb hby own_d13) rfl rfl k) ?_
  show OwnG p.tables e below _ (T2.setTop (mkF m 10 #[.val (.ref a1), .val (.ref a2), .val (.long q1), .second, .val (.long q2), .second] [(.ref a1)]))
  refine own_go (fun t k => XS.lloadN X2.here hx rfl (hb hby own_d14) rfl  k) ?_
  show OwnG p.tables e below _ (T2.setTop (mkF m 11 #[.val (.ref a1), .val (.ref a2), .val (.long q1), .second, .val (.long q2), .second] [(.long q1), (.ref a1)]))
  obtain ⟨T8, h8, X8, e8, W8, st8⟩ := putF X2 hx hZ hown (host := "") (Or.inl (hw _ (List.mem_of_getElem? (i := 17) rfl))) Via.refl e2 F5 F3 (Or.inr ⟨(hw _ (List.mem_of_getElem? (i := 18) rfl)), rfl, hnm⟩) (hw _ (List.mem_of_getElem? (i := 2) rfl)) (ty := .long) (by decide) rfl rfl (g := (mkF m 11 #[.val (.ref a1), .val (.ref a2), .val (.long q1), .second, .val (.long q2), .second] [(.long q1), (.ref a1)])) rfl rfl (hb hby own_d15)
  have F9 : Exa Z h8 a1 "com/example/keyspace/keyspace/engine/Cell" := F3.wr W8
  have F10 : Fld Z h8 a1 "com/example/keyspace/keyspace/engine/Cell" "value" "[B" (.ref a2) := F4.other W8 (Or.inr (slot_ne (Or.inr (hw _ (List.mem_of_getElem? (i := 16) rfl))) (Or.inr (hw _ (List.mem_of_getElem? (i := 18) rfl))) (by decide) (t := (.array .byte)) (t' := .long) (by decide) (by decide)))
  have F11 : Fld Z h8 a1 "com/example/keyspace/keyspace/engine/Cell" "timestamp" "J" (.long q1) := F5.same W8
  have F12 : Fld Z h8 a1 "com/example/keyspace/keyspace/engine/Cell" "expiry" "J" (.long (0 : Int64)) := F6.other W8 (Or.inr (slot_ne (Or.inr (hw _ (List.mem_of_getElem? (i := 20) rfl))) (Or.inr (hw _ (List.mem_of_getElem? (i := 18) rfl))) (by decide) (t := .long) (t' := .long) (by decide) (by decide)))
  have N13 := Fr.snoc X8 N7 g_a1
  have K13 : Keep h0 h8 [a1] := K7.wr W8 (Or.inl (List.mem_of_getElem? (i := 0) rfl))
  have Z13 : n0 ≤ h8.size := Nat.le_trans Z7 (Keep.of_wr W8).1
  refine own_go (fun t k => st8 t k) ?_
  show OwnG p.tables e below _ (T8.setTop (mkF m 14 #[.val (.ref a1), .val (.ref a2), .val (.long q1), .second, .val (.long q2), .second] []))
  refine own_go (fun t k => XS.aloadN X8.here hx rfl (hb hby own_d16) rfl rfl k) ?_
  show OwnG p.tables e below _ (T8.setTop (mkF m 15 #[.val (.ref a1), .val (.ref a2), .val (.long q1), .second, .val (.long q2), .second] [(.ref a1)]))
  refine own_go (fun t k => XS.lload X8.here hx rfl (hb hby own_d17) rfl  k) ?_
  show OwnG p.tables e below _ (T8.setTop (mkF m 17 #[.val (.ref a1), .val (.ref a2), .val (.long q1), .second, .val (.long q2), .second] [(.long q2), (.ref a1)]))
  obtain ⟨T14, h14, X14, e14, W14, st14⟩ := putF X8 hx hZ hown (host := "") (Or.inl (hw _ (List.mem_of_getElem? (i := 19) rfl))) Via.refl e8 F12 F9 (Or.inr ⟨(hw _ (List.mem_of_getElem? (i := 20) rfl)), rfl, hnm⟩) (hw _ (List.mem_of_getElem? (i := 2) rfl)) (ty := .long) (by decide) rfl rfl (g := (mkF m 17 #[.val (.ref a1), .val (.ref a2), .val (.long q1), .second, .val (.long q2), .second] [(.long q2), (.ref a1)])) rfl rfl (hb hby own_d18)
  have F15 : Exa Z h14 a1 "com/example/keyspace/keyspace/engine/Cell" := F9.wr W14
  have F16 : Fld Z h14 a1 "com/example/keyspace/keyspace/engine/Cell" "value" "[B" (.ref a2) := F10.other W14 (Or.inr (slot_ne (Or.inr (hw _ (List.mem_of_getElem? (i := 16) rfl))) (Or.inr (hw _ (List.mem_of_getElem? (i := 20) rfl))) (by decide) (t := (.array .byte)) (t' := .long) (by decide) (by decide)))
  have F17 : Fld Z h14 a1 "com/example/keyspace/keyspace/engine/Cell" "timestamp" "J" (.long q1) := F11.other W14 (Or.inr (slot_ne (Or.inr (hw _ (List.mem_of_getElem? (i := 18) rfl))) (Or.inr (hw _ (List.mem_of_getElem? (i := 20) rfl))) (by decide) (t := .long) (t' := .long) (by decide) (by decide)))
  have F18 : Fld Z h14 a1 "com/example/keyspace/keyspace/engine/Cell" "expiry" "J" (.long q2) := F12.same W14
  have N19 := Fr.snoc X14 N13 g_a1
  have K19 : Keep h0 h14 [a1] := K13.wr W14 (Or.inl (List.mem_of_getElem? (i := 0) rfl))
  have Z19 : n0 ≤ h14.size := Nat.le_trans Z13 (Keep.of_wr W14).1
  refine own_go (fun t k => st14 t k) ?_
  show OwnG p.tables e below _ (T14.setTop (mkF m 20 #[.val (.ref a1), .val (.ref a2), .val (.long q1), .second, .val (.long q2), .second] []))
  obtain ⟨fs, hr, hrun, hended, hW, hsame⟩ := X14.leave (v := none) (fun _ => rfl)
  refine ⟨_, _, X14.returnOut hx Bd.returns (hb hby own_d19) hr, hrun, hended, _, _, rfl, ?_, ⟨_, rfl⟩, hW, hsame.mono (by decide) (by decide)⟩
  show Q_own_init0 Z a1 a2 q1 q2 h0 n0 _ T14.heap _
  rw [e14]
  exact ⟨rfl, N19, K19, F15, F16, F17, F18⟩
theorem own_ef27 (m : MethodId) (a1 : Addr) (q3 : Int64) : entryFrame m #[(.ref a1), (.long q3)] 3 = mkF m 0 #[.val (.ref a1), .val (.long q3), .second] [] := by first | (simp [entryFrame, mkF, argsToLocals, Value.category]; done) | rfl
theorem own_d28 : decode prog_92_method_2_code 7 = .ok (.lload_n 1, 1) := by decide +kernel
theorem own_d29 : decode prog_92_method_2_code 8 = .ok (.aload_n 0, 1) := by decide +kernel
theorem own_d30 : decode prog_92_method_2_code 9 = .ok (.getfield 19, 3) := by decide +kernel
theorem own_d31 : decode prog_92_method_2_code 12 = .ok (.lcmp, 1) := by decide +kernel
theorem own_d32 : decode prog_92_method_2_code 13 = .ok (.ifCond .ge 7, 3) := by decide +kernel
theorem own_d33 : decode prog_92_method_2_code 16 = .ok (.iconst 1, 1) := by decide +kernel
theorem own_d34 : decode prog_92_method_2_code 17 = .ok (.goto 4, 3) := by decide +kernel
def Q_own_live0 (Z : State) (a1 : Addr) (q3 : Int64) (a2 : Addr) (q2 : Int64) (h0 : Heap) (n0 : Nat) (v : Option Value) (h : Heap) (L : List Loc) : Prop := v = some (.int (own_lt q3 q2)) ∧ Fr n0 L ∧ h = h0
set_option maxRecDepth 65536 in
set_option maxHeartbeats 40000000 in
theorem own_live0 (l : Launch) (Z : State) (a0 : Array Value) (hw : ∀ d ∈ tables_1, d.before a0 Z = true) (ws : List Jvm.Cond) (a1 : Addr) (q3 : Int64) (a2 : Addr) (q2 : Int64) (h0 : Heap) (n0 : Nat) (Z0 : n0 ≤ h0.size) (f0_0 : Fld Z h0 a1 "com/example/keyspace/keyspace/engine/Cell" "value" "[B" (.ref a2)) (f0_1 : Fld Z h0 a1 "com/example/keyspace/keyspace/engine/Cell" "expiry" "J" (.long q2)) :
    MetFree l (⟨"com/example/keyspace/keyspace/engine/Cell", "isLive", "(J)Z"⟩ : MethodName) (head1 (Jvm.Cond.code (⟨"com/example/keyspace/keyspace/engine/Cell", "isLive", "(J)Z"⟩ : MethodName) prog_92_method_2_code 3 (some .boolean) :: ws) ({ frames := 0, cells := 0, slots := 0, locals := 0 } : Room)) (fun a U => a = #[(.ref a1), (.long q3)] ∧ Z.Warmed39 U.vm ∧ U.heap = h0) (fun _ _ _ _ _ => True) (fun _ U o U' => ∃ v L, o = .returned v ∧ Q_own_live0 Z a1 q3 a2 q2 h0 n0 v U'.heap L ∧ FrameEnd U o U' L ({ frames := 0, cells := 0, slots := 0, locals := 0 } : Room).cells ({ frames := 0, cells := 0, slots := 0, locals := 0 } : Room).slots) := by
  refine MetFree.of_bodySF (plainFor_of_name own_pn6) hisR ?_
  intro p e s m args below meth c s₁ Bd hml0 hP hK
  obtain ⟨rfl, hZ, hh⟩ := hP
  have hx := Bd.exec
  have hby := Bd.bytes
  have hml : c.maxLocals = 3 := hml0
  have hown : s.vm.findClass "com/example/keyspace/keyspace/engine/Cell" = some m.cls := findClass_of_methodNamed Bd.named
  have hnm := (name_of_methodNamed Bd.named Bd.method).1
  have X0 : Stand p l e ({ frames := 0, cells := 0, slots := 0, locals := 0 } : Room) s m #[(.ref a1), (.long q3)] below meth c s₁ [] 0 0 := Stand.of_body Bd
  have e0 : s₁.heap = h0 := by rw [← hh, Bd.state]; rfl
  have N0 := Fr.nil n0
  have K0 := Keep.refl h0 []
  refine own_go (fun t k => castTop (own_ef27 m a1 q3) k) ?_
  show OwnG p.tables e below _ (s₁.setTop (mkF m 0 #[.val (.ref a1), .val (.long q3), .second] []))
  refine own_go (fun t k => XS.aloadN X0.here hx rfl (hb hby own_d21) rfl rfl k) ?_
  show OwnG p.tables e below _ (s₁.setTop (mkF m 1 #[.val (.ref a1), .val (.long q3), .second] [(.ref a1)]))
  obtain ⟨T1, X1, e1, st1⟩ := getF X0 hx hZ hown (host := "") (Or.inl (hw _ (List.mem_of_getElem? (i := 15) rfl))) Via.refl e0 f0_0 (g := (mkF m 1 #[.val (.ref a1), .val (.long q3), .second] [(.ref a1)])) rfl rfl (hb hby own_d22)
  refine own_go (fun t k => st1 t k) ?_
  show OwnG p.tables e below _ (T1.setTop (mkF m 4 #[.val (.ref a1), .val (.long q3), .second] [(.ref a2)]))
  refine own_go (fun t k => XS.ifnullNo X1.here hx rfl (hb hby own_d23) rfl k) ?_
  show OwnG p.tables e below _ (T1.setTop (mkF m 7 #[.val (.ref a1), .val (.long q3), .second] []))
  refine own_go (fun t k => XS.lloadN X1.here hx rfl (hb hby own_d28) rfl  k) ?_
  show OwnG p.tables e below _ (T1.setTop (mkF m 8 #[.val (.ref a1), .val (.long q3), .second] [(.long q3)]))
  refine own_go (fun t k => XS.aloadN X1.here hx rfl (hb hby own_d29) rfl rfl k) ?_
  show OwnG p.tables e below _ (T1.setTop (mkF m 9 #[.val (.ref a1), .val (.long q3), .second] [(.ref a1), (.long q3)]))
  obtain ⟨T2, X2, e2, st2⟩ := getF X1 hx hZ hown (host := "") (Or.inl (hw _ (List.mem_of_getElem? (i := 19) rfl))) Via.refl e1 f0_1 (g := (mkF m 9 #[.val (.ref a1), .val (.long q3), .second] [(.ref a1), (.long q3)])) rfl rfl (hb hby own_d30)
  refine own_go (fun t k => st2 t k) ?_
  show OwnG p.tables e below _ (T2.setTop (mkF m 12 #[.val (.ref a1), .val (.long q3), .second] [(.long q2), (.long q3)]))
  refine own_go (fun t k => XS.lcmp X2.here hx rfl (hb hby own_d31) rfl k) ?_
  show OwnG p.tables e below _ (T2.setTop (mkF m 13 #[.val (.ref a1), .val (.long q3), .second] [(.int (lcmpW q3 q2))]))
  by_cases hc3 : q3 < q2
  · refine own_go (fun t k => XS.ifNo X2.here hx rfl (hb hby own_d32) rfl ((if0 _ _).trans (tlt ((lw_lt _ _).mpr hc3)).2.1) k) ?_
    show OwnG p.tables e below _ (T2.setTop (mkF m 16 #[.val (.ref a1), .val (.long q3), .second] []))
    refine own_go (fun t k => XS.iconst X2.here hx rfl (hb hby own_d33) k) ?_
    show OwnG p.tables e below _ (T2.setTop (mkF m 17 #[.val (.ref a1), .val (.long q3), .second] [(.int (1 : Int32))]))
    refine own_go (fun t k => XS.goto X2.here hx rfl (pc0 := 17) (pc' := 21) rfl (hb hby own_d34) (by decide) (by decide) k) ?_
    show OwnG p.tables e below _ (T2.setTop (mkF m 21 #[.val (.ref a1), .val (.long q3), .second] [(.int (1 : Int32))]))
    obtain ⟨fs, hr, hrun, hended, hW, hsame⟩ := X2.leave (v := some (.int (1 : Int32))) (fun h => by rw [Bd.returns] at h; cases h)
    refine ⟨_, _, retN X2 hx (t := .boolean) Bd.returns (by simp) (hb hby own_d25) hr, hrun, hended, _, _, rfl, ?_, ⟨_, rfl⟩, hW, hsame.mono (by decide) (by decide)⟩
    show Q_own_live0 Z a1 q3 a2 q2 h0 n0 _ T2.heap _
    rw [e2]
    exact ⟨by rw [own_lt, if_pos hc3], N0, rfl⟩
  · refine own_go (fun t k => XS.ifYes X2.here hx rfl (pc0 := 13) (pc' := 20) rfl (hb hby own_d32) rfl ((if0 _ _).trans (flt (mt (lw_lt _ _).mp hc3)).2.1) (by decide) (by decide) k) ?_
    show OwnG p.tables e below _ (T2.setTop (mkF m 20 #[.val (.ref a1), .val (.long q3), .second] []))
    refine own_go (fun t k => XS.iconst X2.here hx rfl (hb hby own_d24) k) ?_
    show OwnG p.tables e below _ (T2.setTop (mkF m 21 #[.val (.ref a1), .val (.long q3), .second] [(.int (0 : Int32))]))
    obtain ⟨fs, hr, hrun, hended, hW, hsame⟩ := X2.leave (v := some (.int (0 : Int32))) (fun h => by rw [Bd.returns] at h; cases h)
    refine ⟨_, _, retN X2 hx (t := .boolean) Bd.returns (by simp) (hb hby own_d25) hr, hrun, hended, _, _, rfl, ?_, ⟨_, rfl⟩, hW, hsame.mono (by decide) (by decide)⟩
    show Q_own_live0 Z a1 q3 a2 q2 h0 n0 _ T2.heap _
    rw [e2]
    exact ⟨by rw [own_lt, if_neg hc3], N0, rfl⟩
theorem own_ef35 (m : MethodId) (q1 : Int64) (p2 : Int32) (q3 : Int64) (p4 : Int32) : entryFrame m #[(.long q1), (.int p2), (.long q3), (.int p4)] 6 = mkF m 0 #[.val (.long q1), .second, .val (.int p2), .val (.long q3), .second, .val (.int p4)] [] := by first | (simp [entryFrame, mkF, argsToLocals, Value.category]; done) | rfl
theorem own_pn36 : plainName "com/example/keyspace/keyspace/engine/CellIsLivePinLaw" = true := by first | (simp [plainName, overriddenIn]; done) | decide +kernel
theorem own_d37 : decode method_2_code 0 = .ok (.lload_n 0, 1) := by decide +kernel
theorem own_d38 : decode method_2_code 1 = .ok (.lload_n 3, 1) := by decide +kernel
theorem own_d39 : decode method_2_code 2 = .ok (.lcmp, 1) := by decide +kernel
theorem own_d40 : decode method_2_code 3 = .ok (.ifCond .gt 18, 3) := by decide +kernel
theorem own_d41 : decode method_2_code 21 = .ok (.iload_n 2, 1) := by decide +kernel
theorem own_d42 : decode method_2_code 22 = .ok (.ifCond .eq 8, 3) := by decide +kernel
theorem own_d43 : decode method_2_code 30 = .ok (.iconst 1, 1) := by decide +kernel
theorem own_d44 : decode method_2_code 31 = .ok (.goto 4, 3) := by decide +kernel
theorem own_d45 : decode method_2_code 35 = .ok (.ireturn, 1) := by decide +kernel
theorem own_d46 : decode method_2_code 25 = .ok (.iload 5, 2) := by decide +kernel
theorem own_d47 : decode method_2_code 27 = .ok (.ifCond .eq 7, 3) := by decide +kernel
theorem own_d48 : decode method_2_code 34 = .ok (.iconst 0, 1) := by decide +kernel
theorem own_d49 : decode method_2_code 6 = .ok (.iload 5, 2) := by decide +kernel
theorem own_d50 : decode method_2_code 8 = .ok (.ifCond .eq 7, 3) := by decide +kernel
theorem own_d51 : decode method_2_code 15 = .ok (.iconst 1, 1) := by decide +kernel
theorem own_d52 : decode method_2_code 16 = .ok (.goto 4, 3) := by decide +kernel
theorem own_d53 : decode method_2_code 20 = .ok (.ireturn, 1) := by decide +kernel
theorem own_d54 : decode method_2_code 11 = .ok (.iload_n 2, 1) := by decide +kernel
theorem own_d55 : decode method_2_code 12 = .ok (.ifCond .eq 7, 3) := by decide +kernel
theorem own_d56 : decode method_2_code 19 = .ok (.iconst 0, 1) := by decide +kernel
def Q_own_monoC (Z : State) (q1 : Int64) (p2 : Int32) (q3 : Int64) (p4 : Int32) (h0 : Heap) (n0 : Nat) (v : Option Value) (h : Heap) (L : List Loc) : Prop := v = some (.int (own_mono q1 p2 q3 p4)) ∧ Fr n0 L ∧ h = h0
set_option maxRecDepth 65536 in
set_option maxHeartbeats 40000000 in
theorem own_monoC (l : Launch) (Z : State) (a0 : Array Value) (hw : ∀ d ∈ tables_1, d.before a0 Z = true) (ws : List Jvm.Cond) (q1 : Int64) (p2 : Int32) (q3 : Int64) (p4 : Int32) (h0 : Heap) (n0 : Nat) (Z0 : n0 ≤ h0.size) :
    MetFree l (⟨"com/example/keyspace/keyspace/engine/CellIsLivePinLaw", "mono", "(JZJZ)Z"⟩ : MethodName) (head1 (Jvm.Cond.code (⟨"com/example/keyspace/keyspace/engine/CellIsLivePinLaw", "mono", "(JZJZ)Z"⟩ : MethodName) method_2_code 6 (some .boolean) :: ws) ({ frames := 0, cells := 0, slots := 0, locals := 0 } : Room)) (fun a U => a = #[(.long q1), (.int p2), (.long q3), (.int p4)] ∧ Z.Warmed39 U.vm ∧ U.heap = h0) (fun _ _ _ _ _ => True) (fun _ U o U' => ∃ v L, o = .returned v ∧ Q_own_monoC Z q1 p2 q3 p4 h0 n0 v U'.heap L ∧ FrameEnd U o U' L ({ frames := 0, cells := 0, slots := 0, locals := 0 } : Room).cells ({ frames := 0, cells := 0, slots := 0, locals := 0 } : Room).slots) := by
  refine MetFree.of_bodySF (plainFor_of_name own_pn36) hisR ?_
  intro p e s m args below meth c s₁ Bd hml0 hP hK
  obtain ⟨rfl, hZ, hh⟩ := hP
  have hx := Bd.exec
  have hby := Bd.bytes
  have hml : c.maxLocals = 6 := hml0
  have hown : s.vm.findClass "com/example/keyspace/keyspace/engine/CellIsLivePinLaw" = some m.cls := findClass_of_methodNamed Bd.named
  have hnm := (name_of_methodNamed Bd.named Bd.method).1
  have X0 : Stand p l e ({ frames := 0, cells := 0, slots := 0, locals := 0 } : Room) s m #[(.long q1), (.int p2), (.long q3), (.int p4)] below meth c s₁ [] 0 0 := Stand.of_body Bd
  have e0 : s₁.heap = h0 := by rw [← hh, Bd.state]; rfl
  have N0 := Fr.nil n0
  have K0 := Keep.refl h0 []
  refine own_go (fun t k => castTop (own_ef35 m q1 p2 q3 p4) k) ?_
  show OwnG p.tables e below _ (s₁.setTop (mkF m 0 #[.val (.long q1), .second, .val (.int p2), .val (.long q3), .second, .val (.int p4)] []))
  refine own_go (fun t k => XS.lloadN X0.here hx rfl (hb hby own_d37) rfl  k) ?_
  show OwnG p.tables e below _ (s₁.setTop (mkF m 1 #[.val (.long q1), .second, .val (.int p2), .val (.long q3), .second, .val (.int p4)] [(.long q1)]))
  refine own_go (fun t k => XS.lloadN X0.here hx rfl (hb hby own_d38) rfl  k) ?_
  show OwnG p.tables e below _ (s₁.setTop (mkF m 2 #[.val (.long q1), .second, .val (.int p2), .val (.long q3), .second, .val (.int p4)] [(.long q3), (.long q1)]))
  refine own_go (fun t k => XS.lcmp X0.here hx rfl (hb hby own_d39) rfl k) ?_
  show OwnG p.tables e below _ (s₁.setTop (mkF m 3 #[.val (.long q1), .second, .val (.int p2), .val (.long q3), .second, .val (.int p4)] [(.int (lcmpW q1 q3))]))
  by_cases hc1 : q3 < q1
  · refine own_go (fun t k => XS.ifYes X0.here hx rfl (pc0 := 3) (pc' := 21) rfl (hb hby own_d40) rfl ((if0 _ _).trans (tlt ((lw_gt _ _).mpr hc1)).2.2.1) (by decide) (by decide) k) ?_
    show OwnG p.tables e below _ (s₁.setTop (mkF m 21 #[.val (.long q1), .second, .val (.int p2), .val (.long q3), .second, .val (.int p4)] []))
    refine own_go (fun t k => XS.iloadN X0.here hx rfl (hb hby own_d41) rfl  k) ?_
    show OwnG p.tables e below _ (s₁.setTop (mkF m 22 #[.val (.long q1), .second, .val (.int p2), .val (.long q3), .second, .val (.int p4)] [(.int p2)]))
    by_cases hc2 : p2 = (0 : Int32)
    · refine own_go (fun t k => XS.ifYes X0.here hx rfl (pc0 := 22) (pc' := 30) rfl (hb hby own_d42) rfl ((if0 _ _).trans (teq hc2).1) (by decide) (by decide) k) ?_
      show OwnG p.tables e below _ (s₁.setTop (mkF m 30 #[.val (.long q1), .second, .val (.int p2), .val (.long q3), .second, .val (.int p4)] []))
      refine own_go (fun t k => XS.iconst X0.here hx rfl (hb hby own_d43) k) ?_
      show OwnG p.tables e below _ (s₁.setTop (mkF m 31 #[.val (.long q1), .second, .val (.int p2), .val (.long q3), .second, .val (.int p4)] [(.int (1 : Int32))]))
      refine own_go (fun t k => XS.goto X0.here hx rfl (pc0 := 31) (pc' := 35) rfl (hb hby own_d44) (by decide) (by decide) k) ?_
      show OwnG p.tables e below _ (s₁.setTop (mkF m 35 #[.val (.long q1), .second, .val (.int p2), .val (.long q3), .second, .val (.int p4)] [(.int (1 : Int32))]))
      obtain ⟨fs, hr, hrun, hended, hW, hsame⟩ := X0.leave (v := some (.int (1 : Int32))) (fun h => by rw [Bd.returns] at h; cases h)
      refine ⟨_, _, retN X0 hx (t := .boolean) Bd.returns (by simp) (hb hby own_d45) hr, hrun, hended, _, _, rfl, ?_, ⟨_, rfl⟩, hW, hsame.mono (by decide) (by decide)⟩
      show Q_own_monoC Z q1 p2 q3 p4 h0 n0 _ s₁.heap _
      rw [e0]
      exact ⟨by simp [own_mono, hc1, hc2], N0, rfl⟩
    · refine own_go (fun t k => XS.ifNo X0.here hx rfl (hb hby own_d42) rfl ((if0 _ _).trans (feq hc2).1) k) ?_
      show OwnG p.tables e below _ (s₁.setTop (mkF m 25 #[.val (.long q1), .second, .val (.int p2), .val (.long q3), .second, .val (.int p4)] []))
      refine own_go (fun t k => XS.iload X0.here hx rfl (hb hby own_d46) rfl  k) ?_
      show OwnG p.tables e below _ (s₁.setTop (mkF m 27 #[.val (.long q1), .second, .val (.int p2), .val (.long q3), .second, .val (.int p4)] [(.int p4)]))
      by_cases hc3 : p4 = (0 : Int32)
      · refine own_go (fun t k => XS.ifYes X0.here hx rfl (pc0 := 27) (pc' := 34) rfl (hb hby own_d47) rfl ((if0 _ _).trans (teq hc3).1) (by decide) (by decide) k) ?_
        show OwnG p.tables e below _ (s₁.setTop (mkF m 34 #[.val (.long q1), .second, .val (.int p2), .val (.long q3), .second, .val (.int p4)] []))
        refine own_go (fun t k => XS.iconst X0.here hx rfl (hb hby own_d48) k) ?_
        show OwnG p.tables e below _ (s₁.setTop (mkF m 35 #[.val (.long q1), .second, .val (.int p2), .val (.long q3), .second, .val (.int p4)] [(.int (0 : Int32))]))
        obtain ⟨fs, hr, hrun, hended, hW, hsame⟩ := X0.leave (v := some (.int (0 : Int32))) (fun h => by rw [Bd.returns] at h; cases h)
        refine ⟨_, _, retN X0 hx (t := .boolean) Bd.returns (by simp) (hb hby own_d45) hr, hrun, hended, _, _, rfl, ?_, ⟨_, rfl⟩, hW, hsame.mono (by decide) (by decide)⟩
        show Q_own_monoC Z q1 p2 q3 p4 h0 n0 _ s₁.heap _
        rw [e0]
        exact ⟨by simp [own_mono, hc1, hc2, hc3], N0, rfl⟩
      · refine own_go (fun t k => XS.ifNo X0.here hx rfl (hb hby own_d47) rfl ((if0 _ _).trans (feq hc3).1) k) ?_
        show OwnG p.tables e below _ (s₁.setTop (mkF m 30 #[.val (.long q1), .second, .val (.int p2), .val (.long q3), .second, .val (.int p4)] []))
        refine own_go (fun t k => XS.iconst X0.here hx rfl (hb hby own_d43) k) ?_
        show OwnG p.tables e below _ (s₁.setTop (mkF m 31 #[.val (.long q1), .second, .val (.int p2), .val (.long q3), .second, .val (.int p4)] [(.int (1 : Int32))]))
        refine own_go (fun t k => XS.goto X0.here hx rfl (pc0 := 31) (pc' := 35) rfl (hb hby own_d44) (by decide) (by decide) k) ?_
        show OwnG p.tables e below _ (s₁.setTop (mkF m 35 #[.val (.long q1), .second, .val (.int p2), .val (.long q3), .second, .val (.int p4)] [(.int (1 : Int32))]))
        obtain ⟨fs, hr, hrun, hended, hW, hsame⟩ := X0.leave (v := some (.int (1 : Int32))) (fun h => by rw [Bd.returns] at h; cases h)
        refine ⟨_, _, retN X0 hx (t := .boolean) Bd.returns (by simp) (hb hby own_d45) hr, hrun, hended, _, _, rfl, ?_, ⟨_, rfl⟩, hW, hsame.mono (by decide) (by decide)⟩
        show Q_own_monoC Z q1 p2 q3 p4 h0 n0 _ s₁.heap _
        rw [e0]
        exact ⟨by simp [own_mono, hc1, hc2, hc3], N0, rfl⟩
  · refine own_go (fun t k => XS.ifNo X0.here hx rfl (hb hby own_d40) rfl ((if0 _ _).trans (flt (mt (lw_gt _ _).mp hc1)).2.2.1) k) ?_
    show OwnG p.tables e below _ (s₁.setTop (mkF m 6 #[.val (.long q1), .second, .val (.int p2), .val (.long q3), .second, .val (.int p4)] []))
    refine own_go (fun t k => XS.iload X0.here hx rfl (hb hby own_d49) rfl  k) ?_
    show OwnG p.tables e below _ (s₁.setTop (mkF m 8 #[.val (.long q1), .second, .val (.int p2), .val (.long q3), .second, .val (.int p4)] [(.int p4)]))
    by_cases hc4 : p4 = (0 : Int32)
    · refine own_go (fun t k => XS.ifYes X0.here hx rfl (pc0 := 8) (pc' := 15) rfl (hb hby own_d50) rfl ((if0 _ _).trans (teq hc4).1) (by decide) (by decide) k) ?_
      show OwnG p.tables e below _ (s₁.setTop (mkF m 15 #[.val (.long q1), .second, .val (.int p2), .val (.long q3), .second, .val (.int p4)] []))
      refine own_go (fun t k => XS.iconst X0.here hx rfl (hb hby own_d51) k) ?_
      show OwnG p.tables e below _ (s₁.setTop (mkF m 16 #[.val (.long q1), .second, .val (.int p2), .val (.long q3), .second, .val (.int p4)] [(.int (1 : Int32))]))
      refine own_go (fun t k => XS.goto X0.here hx rfl (pc0 := 16) (pc' := 20) rfl (hb hby own_d52) (by decide) (by decide) k) ?_
      show OwnG p.tables e below _ (s₁.setTop (mkF m 20 #[.val (.long q1), .second, .val (.int p2), .val (.long q3), .second, .val (.int p4)] [(.int (1 : Int32))]))
      obtain ⟨fs, hr, hrun, hended, hW, hsame⟩ := X0.leave (v := some (.int (1 : Int32))) (fun h => by rw [Bd.returns] at h; cases h)
      refine ⟨_, _, retN X0 hx (t := .boolean) Bd.returns (by simp) (hb hby own_d53) hr, hrun, hended, _, _, rfl, ?_, ⟨_, rfl⟩, hW, hsame.mono (by decide) (by decide)⟩
      show Q_own_monoC Z q1 p2 q3 p4 h0 n0 _ s₁.heap _
      rw [e0]
      exact ⟨by simp [own_mono, hc1, hc4], N0, rfl⟩
    · refine own_go (fun t k => XS.ifNo X0.here hx rfl (hb hby own_d50) rfl ((if0 _ _).trans (feq hc4).1) k) ?_
      show OwnG p.tables e below _ (s₁.setTop (mkF m 11 #[.val (.long q1), .second, .val (.int p2), .val (.long q3), .second, .val (.int p4)] []))
      refine own_go (fun t k => XS.iloadN X0.here hx rfl (hb hby own_d54) rfl  k) ?_
      show OwnG p.tables e below _ (s₁.setTop (mkF m 12 #[.val (.long q1), .second, .val (.int p2), .val (.long q3), .second, .val (.int p4)] [(.int p2)]))
      by_cases hc5 : p2 = (0 : Int32)
      · refine own_go (fun t k => XS.ifYes X0.here hx rfl (pc0 := 12) (pc' := 19) rfl (hb hby own_d55) rfl ((if0 _ _).trans (teq hc5).1) (by decide) (by decide) k) ?_
        show OwnG p.tables e below _ (s₁.setTop (mkF m 19 #[.val (.long q1), .second, .val (.int p2), .val (.long q3), .second, .val (.int p4)] []))
        refine own_go (fun t k => XS.iconst X0.here hx rfl (hb hby own_d56) k) ?_
        show OwnG p.tables e below _ (s₁.setTop (mkF m 20 #[.val (.long q1), .second, .val (.int p2), .val (.long q3), .second, .val (.int p4)] [(.int (0 : Int32))]))
        obtain ⟨fs, hr, hrun, hended, hW, hsame⟩ := X0.leave (v := some (.int (0 : Int32))) (fun h => by rw [Bd.returns] at h; cases h)
        refine ⟨_, _, retN X0 hx (t := .boolean) Bd.returns (by simp) (hb hby own_d53) hr, hrun, hended, _, _, rfl, ?_, ⟨_, rfl⟩, hW, hsame.mono (by decide) (by decide)⟩
        show Q_own_monoC Z q1 p2 q3 p4 h0 n0 _ s₁.heap _
        rw [e0]
        exact ⟨by simp [own_mono, hc1, hc4, hc5], N0, rfl⟩
      · refine own_go (fun t k => XS.ifNo X0.here hx rfl (hb hby own_d55) rfl ((if0 _ _).trans (feq hc5).1) k) ?_
        show OwnG p.tables e below _ (s₁.setTop (mkF m 15 #[.val (.long q1), .second, .val (.int p2), .val (.long q3), .second, .val (.int p4)] []))
        refine own_go (fun t k => XS.iconst X0.here hx rfl (hb hby own_d51) k) ?_
        show OwnG p.tables e below _ (s₁.setTop (mkF m 16 #[.val (.long q1), .second, .val (.int p2), .val (.long q3), .second, .val (.int p4)] [(.int (1 : Int32))]))
        refine own_go (fun t k => XS.goto X0.here hx rfl (pc0 := 16) (pc' := 20) rfl (hb hby own_d52) (by decide) (by decide) k) ?_
        show OwnG p.tables e below _ (s₁.setTop (mkF m 20 #[.val (.long q1), .second, .val (.int p2), .val (.long q3), .second, .val (.int p4)] [(.int (1 : Int32))]))
        obtain ⟨fs, hr, hrun, hended, hW, hsame⟩ := X0.leave (v := some (.int (1 : Int32))) (fun h => by rw [Bd.returns] at h; cases h)
        refine ⟨_, _, retN X0 hx (t := .boolean) Bd.returns (by simp) (hb hby own_d53) hr, hrun, hended, _, _, rfl, ?_, ⟨_, rfl⟩, hW, hsame.mono (by decide) (by decide)⟩
        show Q_own_monoC Z q1 p2 q3 p4 h0 n0 _ s₁.heap _
        rw [e0]
        exact ⟨by simp [own_mono, hc1, hc4, hc5], N0, rfl⟩
theorem own_ef57 (m : MethodId) (ex : Int64) (nw : Int64) (tt : Int64) (ts : Int64) (fl : Int32) : entryFrame m #[(.long ex), (.long nw), (.long tt), (.long ts), (.int fl)] maxLocals = mkF m 0 #[.val (.long ex), .second, .val (.long nw), .second, .val (.long tt), .second, .val (.long ts), .second, .val (.int fl), .unset, .unset, .unset, .unset, .unset, .unset, .unset, .unset, .unset, .unset] [] := by first | (simp [entryFrame, mkF, argsToLocals, Value.category, maxLocals]; done) | rfl
theorem own_pd58 : parseMethodDescriptor "([BJJ)V" = some ⟨[(.array .byte), .long, .long], none⟩ := by decide +kernel
theorem own_pd59 : parseMethodDescriptor "(J)Z" = some ⟨[.long], some .boolean⟩ := by decide +kernel
theorem own_pd60 : parseMethodDescriptor "(JZJZ)Z" = some ⟨[.long, .boolean, .long, .boolean], some .boolean⟩ := by decide +kernel
def Q_own_law (Z : State) (ex : Int64) (nw : Int64) (tt : Int64) (ts : Int64) (fl : Int32) (h0 : Heap) (n0 : Nat) (v : Option Value) (h : Heap) (L : List Loc) : Prop := v = some (.int (1 : Int32)) ∧ Fr n0 L
set_option maxRecDepth 65536 in
set_option maxHeartbeats 40000000 in
theorem own_law (l : Launch) (Z : State) (a0 : Array Value) (hw : ∀ d ∈ tables_1, d.before a0 Z = true) (ws : List Jvm.Cond) (ex : Int64) (nw : Int64) (tt : Int64) (ts : Int64) (fl : Int32) (h0 : Heap) (n0 : Nat) (Z0 : n0 ≤ h0.size) :
    MetFree l x (head1 (Jvm.Cond.code x code maxLocals ret :: ws) room_1) (fun a U => a = #[(.long ex), (.long nw), (.long tt), (.long ts), (.int fl)] ∧ Z.Warmed39 U.vm ∧ U.heap = h0) (fun _ _ _ _ _ => True) (fun _ U o U' => ∃ v L, o = .returned v ∧ Q_own_law Z ex nw tt ts fl h0 n0 v U'.heap L ∧ FrameEnd U o U' L room_1.cells room_1.slots) := by
  refine MetFree.of_bodySF (plainFor_of_name own_pn36) hisR ?_
  intro p e s m args below meth c s₁ Bd hml0 hP hK
  obtain ⟨rfl, hZ, hh⟩ := hP
  have hx := Bd.exec
  have hby := Bd.bytes
  have hml : c.maxLocals = 19 := hml0
  have hown : s.vm.findClass "com/example/keyspace/keyspace/engine/CellIsLivePinLaw" = some m.cls := findClass_of_methodNamed Bd.named
  have hnm := (name_of_methodNamed Bd.named Bd.method).1
  have X0 : Stand p l e room_1 s m #[(.long ex), (.long nw), (.long tt), (.long ts), (.int fl)] below meth c s₁ [] 0 0 := Stand.of_body Bd
  have e0 : s₁.heap = h0 := by rw [← hh, Bd.state]; rfl
  have N0 := Fr.nil n0
  have K0 := Keep.refl h0 []
  refine own_go (fun t k => castTop (own_ef57 m ex nw tt ts fl) k) ?_
  show OwnG p.tables e below _ (s₁.setTop (mkF m 0 #[.val (.long ex), .second, .val (.long nw), .second, .val (.long tt), .second, .val (.long ts), .second, .val (.int fl), .unset, .unset, .unset, .unset, .unset, .unset, .unset, .unset, .unset, .unset] []))
  refine own_go (fun t k => XS.iload X0.here hx rfl (hb hby at_0) rfl  k) ?_
  show OwnG p.tables e below _ (s₁.setTop (mkF m 2 #[.val (.long ex), .second, .val (.long nw), .second, .val (.long tt), .second, .val (.long ts), .second, .val (.int fl), .unset, .unset, .unset, .unset, .unset, .unset, .unset, .unset, .unset, .unset] [(.int fl)]))
  refine own_go (fun t k => XS.iconst X0.here hx rfl (hb hby at_2) k) ?_
  show OwnG p.tables e below _ (s₁.setTop (mkF m 3 #[.val (.long ex), .second, .val (.long nw), .second, .val (.long tt), .second, .val (.long ts), .second, .val (.int fl), .unset, .unset, .unset, .unset, .unset, .unset, .unset, .unset, .unset, .unset] [(.int (1 : Int32)), (.int fl)]))
  refine own_go (fun t k => XS.iand X0.here hx rfl (hb hby at_3) rfl k) ?_
  show OwnG p.tables e below _ (s₁.setTop (mkF m 4 #[.val (.long ex), .second, .val (.long nw), .second, .val (.long tt), .second, .val (.long ts), .second, .val (.int fl), .unset, .unset, .unset, .unset, .unset, .unset, .unset, .unset, .unset, .unset] [(.int (fl &&& (1 : Int32)))]))
  by_cases hc1 : (fl &&& (1 : Int32)) = (0 : Int32)
  · refine own_go (fun t k => XS.ifYes X0.here hx rfl (pc0 := 4) (pc' := 11) rfl (hb hby at_4) rfl ((if0 _ _).trans (teq hc1).1) (by decide) (by decide) k) ?_
    show OwnG p.tables e below _ (s₁.setTop (mkF m 11 #[.val (.long ex), .second, .val (.long nw), .second, .val (.long tt), .second, .val (.long ts), .second, .val (.int fl), .unset, .unset, .unset, .unset, .unset, .unset, .unset, .unset, .unset, .unset] []))
    refine own_go (fun t k => XS.iconst X0.here hx rfl (hb hby at_11) k) ?_
    show OwnG p.tables e below _ (s₁.setTop (mkF m 12 #[.val (.long ex), .second, .val (.long nw), .second, .val (.long tt), .second, .val (.long ts), .second, .val (.int fl), .unset, .unset, .unset, .unset, .unset, .unset, .unset, .unset, .unset, .unset] [(.int (0 : Int32))]))
    refine own_go (fun t k => XS.istore X0.here hx rfl (hb hby at_12) rfl (l' := #[.val (.long ex), .second, .val (.long nw), .second, .val (.long tt), .second, .val (.long ts), .second, .val (.int fl), .val (.int (0 : Int32)), .unset, .unset, .unset, .unset, .unset, .unset, .unset, .unset, .unset]) rfl k) ?_
    show OwnG p.tables e below _ (s₁.setTop (mkF m 14 #[.val (.long ex), .second, .val (.long nw), .second, .val (.long tt), .second, .val (.long ts), .second, .val (.int fl), .val (.int (0 : Int32)), .unset, .unset, .unset, .unset, .unset, .unset, .unset, .unset, .unset] []))
    refine own_go (fun t k => XS.aconstNull X0.here hx rfl (hb hby at_14) k) ?_
    show OwnG p.tables e below _ (s₁.setTop (mkF m 15 #[.val (.long ex), .second, .val (.long nw), .second, .val (.long tt), .second, .val (.long ts), .second, .val (.int fl), .val (.int (0 : Int32)), .unset, .unset, .unset, .unset, .unset, .unset, .unset, .unset, .unset] [.null]))
    refine own_go (fun t k => XS.astore X0.here hx rfl (hb hby at_15) rfl rfl (l' := #[.val (.long ex), .second, .val (.long nw), .second, .val (.long tt), .second, .val (.long ts), .second, .val (.int fl), .val (.int (0 : Int32)), .val .null, .unset, .unset, .unset, .unset, .unset, .unset, .unset, .unset]) rfl k) ?_
    show OwnG p.tables e below _ (s₁.setTop (mkF m 17 #[.val (.long ex), .second, .val (.long nw), .second, .val (.long tt), .second, .val (.long ts), .second, .val (.int fl), .val (.int (0 : Int32)), .val .null, .unset, .unset, .unset, .unset, .unset, .unset, .unset, .unset] []))
    refine own_go (fun t k => XS.iload X0.here hx rfl (hb hby at_17) rfl  k) ?_
    show OwnG p.tables e below _ (s₁.setTop (mkF m 19 #[.val (.long ex), .second, .val (.long nw), .second, .val (.long tt), .second, .val (.long ts), .second, .val (.int fl), .val (.int (0 : Int32)), .val .null, .unset, .unset, .unset, .unset, .unset, .unset, .unset, .unset] [(.int (0 : Int32))]))
    refine own_go (fun t k => XS.ifYes X0.here hx rfl (pc0 := 19) (pc' := 36) rfl (hb hby at_19) rfl ((if0 _ _).trans (teq (by decide : (0 : Int32) = (0 : Int32))).1) (by decide) (by decide) k) ?_
    show OwnG p.tables e below _ (s₁.setTop (mkF m 36 #[.val (.long ex), .second, .val (.long nw), .second, .val (.long tt), .second, .val (.long ts), .second, .val (.int fl), .val (.int (0 : Int32)), .val .null, .unset, .unset, .unset, .unset, .unset, .unset, .unset, .unset] []))
    obtain ⟨T2, h2, X2, e2, E2, A2, D2, -, st2⟩ := newO X0 hx hZ hown (hw _ (List.mem_of_getElem? (i := 1) rfl)) (hw _ (List.mem_of_getElem? (i := 2) rfl)) (hw _ (List.mem_of_getElem? (i := 3) rfl)) e0 (g := (mkF m 36 #[.val (.long ex), .second, .val (.long nw), .second, .val (.long tt), .second, .val (.long ts), .second, .val (.int fl), .val (.int (0 : Int32)), .val .null, .unset, .unset, .unset, .unset, .unset, .unset, .unset, .unset] [])) rfl (hb hby at_36) (by decide) (by decide)
    obtain ⟨b2, g2⟩ : ∃ z, z = h0.size := ⟨_, rfl⟩
    rw [← g2] at A2 D2 st2
    have g_b2 : n0 ≤ b2 := Nat.le_trans Z0 (Nat.le_of_eq g2.symm)
    have sz_b2 : h0.size ≤ b2 := Nat.le_trans K0.1 (Nat.le_of_eq g2.symm)
    have K3 : Keep h0 h2 [] := K0.ext E2
    have Z3 : n0 ≤ h2.size := Nat.le_trans Z0 E2.1
    have F4 : Fld Z h2 b2 "com/example/keyspace/keyspace/engine/Cell" "value" "[B" .null := D2 (Or.inr (hw _ (List.mem_of_getElem? (i := 16) rfl))) (ty := (.array .byte)) (by decide)
    have F5 : Fld Z h2 b2 "com/example/keyspace/keyspace/engine/Cell" "timestamp" "J" (.long (0 : Int64)) := D2 (Or.inr (hw _ (List.mem_of_getElem? (i := 18) rfl))) (ty := .long) (by decide)
    have F6 : Fld Z h2 b2 "com/example/keyspace/keyspace/engine/Cell" "expiry" "J" (.long (0 : Int64)) := D2 (Or.inr (hw _ (List.mem_of_getElem? (i := 20) rfl))) (ty := .long) (by decide)
    refine own_go (fun t k => st2 t k) ?_
    show OwnG p.tables e below _ (T2.setTop (mkF m 39 #[.val (.long ex), .second, .val (.long nw), .second, .val (.long tt), .second, .val (.long ts), .second, .val (.int fl), .val (.int (0 : Int32)), .val .null, .unset, .unset, .unset, .unset, .unset, .unset, .unset, .unset] [(.ref b2)]))
    refine own_go (fun t k => XS.dup X2.here hx rfl (hb hby at_39) rfl rfl k) ?_
    show OwnG p.tables e below _ (T2.setTop (mkF m 40 #[.val (.long ex), .second, .val (.long nw), .second, .val (.long tt), .second, .val (.long ts), .second, .val (.int fl), .val (.int (0 : Int32)), .val .null, .unset, .unset, .unset, .unset, .unset, .unset, .unset, .unset] [(.ref b2), (.ref b2)]))
    refine own_go (fun t k => XS.aload X2.here hx rfl (hb hby at_40) rfl rfl k) ?_
    show OwnG p.tables e below _ (T2.setTop (mkF m 42 #[.val (.long ex), .second, .val (.long nw), .second, .val (.long tt), .second, .val (.long ts), .second, .val (.int fl), .val (.int (0 : Int32)), .val .null, .unset, .unset, .unset, .unset, .unset, .unset, .unset, .unset] [.null, (.ref b2), (.ref b2)]))
    refine own_go (fun t k => XS.lload X2.here hx rfl (hb hby at_42) rfl  k) ?_
    show OwnG p.tables e below _ (T2.setTop (mkF m 44 #[.val (.long ex), .second, .val (.long nw), .second, .val (.long tt), .second, .val (.long ts), .second, .val (.int fl), .val (.int (0 : Int32)), .val .null, .unset, .unset, .unset, .unset, .unset, .unset, .unset, .unset] [(.long ts), .null, (.ref b2), (.ref b2)]))
    refine own_go (fun t k => XS.lloadN X2.here hx rfl (hb hby at_44) rfl  k) ?_
    show OwnG p.tables e below _ (T2.setTop (mkF m 45 #[.val (.long ex), .second, .val (.long nw), .second, .val (.long tt), .second, .val (.long ts), .second, .val (.int fl), .val (.int (0 : Int32)), .val .null, .unset, .unset, .unset, .unset, .unset, .unset, .unset, .unset] [(.long ex), (.long ts), .null, (.ref b2), (.ref b2)]))
    obtain ⟨_, _, ⟨T7, L7, k7, n7⟩, -, X7, ⟨Lc7, hQ7, l7, y7, z7⟩, st7⟩ := X2.specialBack hx (y := (⟨"com/example/keyspace/keyspace/engine/Cell", "<init>", "([BJJ)V"⟩ : MethodName)) rfl hown (mvT hZ (hw _ (List.mem_of_getElem? (i := 4) rfl))) (mvT hZ (hw _ (List.mem_of_getElem? (i := 5) rfl))) (mvT hZ (hw _ (List.mem_of_getElem? (i := 6) rfl))) (by decide) (backOf (W := 1) (own_init1 l Z a0 hw [] b2 ts ex h2 n0 Z3 A2 F4 F5 F6 g_b2) hZ (hw _ (List.mem_of_getElem? (i := 6) rfl)) (hw _ (List.mem_of_getElem? (i := 3) rfl)) (by decide) (by decide)) (g := (mkF m 45 #[.val (.long ex), .second, .val (.long nw), .second, .val (.long tt), .second, .val (.long ts), .second, .val (.int fl), .val (.int (0 : Int32)), .val .null, .unset, .unset, .unset, .unset, .unset, .unset, .unset, .unset] [(.long ex), (.long ts), .null, (.ref b2), (.ref b2)])) rfl (by rw [hml]; rfl) (Steps.refl _) (a := b2) (argsL := [.null, (.long ts), (.long ex)]) (rest := [(.ref b2)]) (lenOf own_pd58 rfl) rfl (by show 2 * 0 + _ ≤ _; exact Nat.le_of_eq rfl) (hb hby at_45) (fun _ _ => ⟨rfl, e2, (by decide : 1 + 0 ≤ _), (by decide : 3 + 0 ≤ _)⟩)
    dsimp only [Pt.U, Pt.locs, Pt.cells, Pt.slots] at X7 l7 y7 z7 st7 hQ7
    subst l7 y7 z7
    obtain ⟨rfl, Nq7, Kq7, Fq7_0, Fq7_1, Fq7_2, Fq7_3⟩ := hQ7
    have N7 := Fr.app N0 Nq7
    have F8 : Exa Z T7.heap b2 "com/example/keyspace/keyspace/engine/Cell" := A2.keep Kq7
    have K7 : Keep h0 T7.heap [] := K3.trans Kq7 (allS (Or.inr sz_b2) all0)
    have Z7 : n0 ≤ T7.heap.size := Nat.le_trans Z3 Kq7.1
    refine own_go (fun t k => st7.trans k) ?_
    show OwnG p.tables e below _ (T7.setTop (mkF m 48 #[.val (.long ex), .second, .val (.long nw), .second, .val (.long tt), .second, .val (.long ts), .second, .val (.int fl), .val (.int (0 : Int32)), .val .null, .unset, .unset, .unset, .unset, .unset, .unset, .unset, .unset] [(.ref b2)]))
    refine own_go (fun t k => XS.astore X7.here hx rfl (hb hby at_48) rfl rfl (l' := #[.val (.long ex), .second, .val (.long nw), .second, .val (.long tt), .second, .val (.long ts), .second, .val (.int fl), .val (.int (0 : Int32)), .val .null, .val (.ref b2), .unset, .unset, .unset, .unset, .unset, .unset, .unset]) rfl k) ?_
    show OwnG p.tables e below _ (T7.setTop (mkF m 50 #[.val (.long ex), .second, .val (.long nw), .second, .val (.long tt), .second, .val (.long ts), .second, .val (.int fl), .val (.int (0 : Int32)), .val .null, .val (.ref b2), .unset, .unset, .unset, .unset, .unset, .unset, .unset] []))
    refine own_go (fun t k => XS.aload X7.here hx rfl (hb hby at_50) rfl rfl k) ?_
    show OwnG p.tables e below _ (T7.setTop (mkF m 52 #[.val (.long ex), .second, .val (.long nw), .second, .val (.long tt), .second, .val (.long ts), .second, .val (.int fl), .val (.int (0 : Int32)), .val .null, .val (.ref b2), .unset, .unset, .unset, .unset, .unset, .unset, .unset] [(.ref b2)]))
    refine own_go (fun t k => XS.lloadN X7.here hx rfl (hb hby at_52) rfl  k) ?_
    show OwnG p.tables e below _ (T7.setTop (mkF m 53 #[.val (.long ex), .second, .val (.long nw), .second, .val (.long tt), .second, .val (.long ts), .second, .val (.int fl), .val (.int (0 : Int32)), .val .null, .val (.ref b2), .unset, .unset, .unset, .unset, .unset, .unset, .unset] [(.long nw), (.ref b2)]))
    obtain ⟨cq9, kq9, q9a, q9b, q9c⟩ := isOf hZ rfl Fq7_0
    obtain ⟨_, _, ⟨T9, L9, k9, n9⟩, -, X9, ⟨Lc9, hQ9, l9, y9, z9⟩, st9⟩ := X7.virtualBack hx (y := (⟨"com/example/keyspace/keyspace/engine/Cell", "isLive", "(J)Z"⟩ : MethodName)) (z := (⟨"com/example/keyspace/keyspace/engine/Cell", "isLive", "(J)Z"⟩ : MethodName)) hown (mvT hZ (hw _ (List.mem_of_getElem? (i := 21) rfl))) (mvT hZ (hw _ (List.mem_of_getElem? (i := 22) rfl))) (notFace_of_selects (args := #[]) (mvT hZ (hw _ (List.mem_of_getElem? (i := 24) rfl)))) (mvT hZ (hw _ (List.mem_of_getElem? (i := 24) rfl))) (mvT hZ (hw _ (List.mem_of_getElem? (i := 23) rfl))) (by decide) (backOf (W := 0) (own_live1 l Z a0 hw [] b2 nw ex T7.heap n0 Z7 Fq7_1 Fq7_3) hZ (hw _ (List.mem_of_getElem? (i := 25) rfl)) (hw _ (List.mem_of_getElem? (i := 3) rfl)) (by decide) (by decide)) q9a q9c (g := (mkF m 53 #[.val (.long ex), .second, .val (.long nw), .second, .val (.long tt), .second, .val (.long ts), .second, .val (.int fl), .val (.int (0 : Int32)), .val .null, .val (.ref b2), .unset, .unset, .unset, .unset, .unset, .unset, .unset] [(.long nw), (.ref b2)])) rfl (by rw [hml]; rfl) (Steps.refl _) (argsL := [(.long nw)]) (rest := []) (lenOf own_pd59 rfl) rfl (by show 2 * 0 + _ ≤ _; exact Nat.le_of_eq rfl) (hb hby at_53) (fun _ _ => ⟨rfl, rfl, (by decide : 1 + 0 ≤ _), (by decide : 3 + 0 ≤ _)⟩)
    dsimp only [Pt.U, Pt.locs, Pt.cells, Pt.slots] at X9 l9 y9 z9 st9 hQ9
    subst l9 y9 z9
    obtain ⟨rfl, Nq9, eq9⟩ := hQ9
    have N9 := Fr.app N7 Nq9
    have e9 : T9.heap = T7.heap := eq9
    refine own_go (fun t k => st9.trans k) ?_
    show OwnG p.tables e below _ (T9.setTop (mkF m 56 #[.val (.long ex), .second, .val (.long nw), .second, .val (.long tt), .second, .val (.long ts), .second, .val (.int fl), .val (.int (0 : Int32)), .val .null, .val (.ref b2), .unset, .unset, .unset, .unset, .unset, .unset, .unset] [(.int (0 : Int32))]))
    refine own_go (fun t k => XS.istore X9.here hx rfl (hb hby at_56) rfl (l' := #[.val (.long ex), .second, .val (.long nw), .second, .val (.long tt), .second, .val (.long ts), .second, .val (.int fl), .val (.int (0 : Int32)), .val .null, .val (.ref b2), .val (.int (0 : Int32)), .unset, .unset, .unset, .unset, .unset, .unset]) rfl k) ?_
    show OwnG p.tables e below _ (T9.setTop (mkF m 58 #[.val (.long ex), .second, .val (.long nw), .second, .val (.long tt), .second, .val (.long ts), .second, .val (.int fl), .val (.int (0 : Int32)), .val .null, .val (.ref b2), .val (.int (0 : Int32)), .unset, .unset, .unset, .unset, .unset, .unset] []))
    refine own_go (fun t k => XS.aload X9.here hx rfl (hb hby at_58) rfl rfl k) ?_
    show OwnG p.tables e below _ (T9.setTop (mkF m 60 #[.val (.long ex), .second, .val (.long nw), .second, .val (.long tt), .second, .val (.long ts), .second, .val (.int fl), .val (.int (0 : Int32)), .val .null, .val (.ref b2), .val (.int (0 : Int32)), .unset, .unset, .unset, .unset, .unset, .unset] [(.ref b2)]))
    refine own_go (fun t k => XS.lload X9.here hx rfl (hb hby at_60) rfl  k) ?_
    show OwnG p.tables e below _ (T9.setTop (mkF m 62 #[.val (.long ex), .second, .val (.long nw), .second, .val (.long tt), .second, .val (.long ts), .second, .val (.int fl), .val (.int (0 : Int32)), .val .null, .val (.ref b2), .val (.int (0 : Int32)), .unset, .unset, .unset, .unset, .unset, .unset] [(.long tt), (.ref b2)]))
    obtain ⟨cq10, kq10, q10a, q10b, q10c⟩ := isOf hZ e9 Fq7_0
    obtain ⟨_, _, ⟨T10, L10, k10, n10⟩, -, X10, ⟨Lc10, hQ10, l10, y10, z10⟩, st10⟩ := X9.virtualBack hx (y := (⟨"com/example/keyspace/keyspace/engine/Cell", "isLive", "(J)Z"⟩ : MethodName)) (z := (⟨"com/example/keyspace/keyspace/engine/Cell", "isLive", "(J)Z"⟩ : MethodName)) hown (mvT hZ (hw _ (List.mem_of_getElem? (i := 21) rfl))) (mvT hZ (hw _ (List.mem_of_getElem? (i := 22) rfl))) (notFace_of_selects (args := #[]) (mvT hZ (hw _ (List.mem_of_getElem? (i := 24) rfl)))) (mvT hZ (hw _ (List.mem_of_getElem? (i := 24) rfl))) (mvT hZ (hw _ (List.mem_of_getElem? (i := 23) rfl))) (by decide) (backOf (W := 0) (own_live1 l Z a0 hw [] b2 tt ex T7.heap n0 Z7 Fq7_1 Fq7_3) hZ (hw _ (List.mem_of_getElem? (i := 25) rfl)) (hw _ (List.mem_of_getElem? (i := 3) rfl)) (by decide) (by decide)) q10a q10c (g := (mkF m 62 #[.val (.long ex), .second, .val (.long nw), .second, .val (.long tt), .second, .val (.long ts), .second, .val (.int fl), .val (.int (0 : Int32)), .val .null, .val (.ref b2), .val (.int (0 : Int32)), .unset, .unset, .unset, .unset, .unset, .unset] [(.long tt), (.ref b2)])) rfl (by rw [hml]; rfl) (Steps.refl _) (argsL := [(.long tt)]) (rest := []) (lenOf own_pd59 rfl) rfl (by show 2 * 0 + _ ≤ _; exact Nat.le_of_eq rfl) (hb hby at_62) (fun _ _ => ⟨rfl, e9, (by decide : 1 + 0 ≤ _), (by decide : 3 + 0 ≤ _)⟩)
    dsimp only [Pt.U, Pt.locs, Pt.cells, Pt.slots] at X10 l10 y10 z10 st10 hQ10
    subst l10 y10 z10
    obtain ⟨rfl, Nq10, eq10⟩ := hQ10
    have N10 := Fr.app N9 Nq10
    have e10 : T10.heap = T7.heap := eq10
    refine own_go (fun t k => st10.trans k) ?_
    show OwnG p.tables e below _ (T10.setTop (mkF m 65 #[.val (.long ex), .second, .val (.long nw), .second, .val (.long tt), .second, .val (.long ts), .second, .val (.int fl), .val (.int (0 : Int32)), .val .null, .val (.ref b2), .val (.int (0 : Int32)), .unset, .unset, .unset, .unset, .unset, .unset] [(.int (0 : Int32))]))
    refine own_go (fun t k => XS.istore X10.here hx rfl (hb hby at_65) rfl (l' := #[.val (.long ex), .second, .val (.long nw), .second, .val (.long tt), .second, .val (.long ts), .second, .val (.int fl), .val (.int (0 : Int32)), .val .null, .val (.ref b2), .val (.int (0 : Int32)), .val (.int (0 : Int32)), .unset, .unset, .unset, .unset, .unset]) rfl k) ?_
    show OwnG p.tables e below _ (T10.setTop (mkF m 67 #[.val (.long ex), .second, .val (.long nw), .second, .val (.long tt), .second, .val (.long ts), .second, .val (.int fl), .val (.int (0 : Int32)), .val .null, .val (.ref b2), .val (.int (0 : Int32)), .val (.int (0 : Int32)), .unset, .unset, .unset, .unset, .unset] []))
    refine own_go (fun t k => XS.aload X10.here hx rfl (hb hby at_67) rfl rfl k) ?_
    show OwnG p.tables e below _ (T10.setTop (mkF m 69 #[.val (.long ex), .second, .val (.long nw), .second, .val (.long tt), .second, .val (.long ts), .second, .val (.int fl), .val (.int (0 : Int32)), .val .null, .val (.ref b2), .val (.int (0 : Int32)), .val (.int (0 : Int32)), .unset, .unset, .unset, .unset, .unset] [(.ref b2)]))
    refine own_go (fun t k => XS.lloadN X10.here hx rfl (hb hby at_69) rfl  k) ?_
    show OwnG p.tables e below _ (T10.setTop (mkF m 70 #[.val (.long ex), .second, .val (.long nw), .second, .val (.long tt), .second, .val (.long ts), .second, .val (.int fl), .val (.int (0 : Int32)), .val .null, .val (.ref b2), .val (.int (0 : Int32)), .val (.int (0 : Int32)), .unset, .unset, .unset, .unset, .unset] [(.long ex), (.ref b2)]))
    obtain ⟨cq11, kq11, q11a, q11b, q11c⟩ := isOf hZ e10 Fq7_0
    obtain ⟨_, _, ⟨T11, L11, k11, n11⟩, -, X11, ⟨Lc11, hQ11, l11, y11, z11⟩, st11⟩ := X10.virtualBack hx (y := (⟨"com/example/keyspace/keyspace/engine/Cell", "isLive", "(J)Z"⟩ : MethodName)) (z := (⟨"com/example/keyspace/keyspace/engine/Cell", "isLive", "(J)Z"⟩ : MethodName)) hown (mvT hZ (hw _ (List.mem_of_getElem? (i := 21) rfl))) (mvT hZ (hw _ (List.mem_of_getElem? (i := 22) rfl))) (notFace_of_selects (args := #[]) (mvT hZ (hw _ (List.mem_of_getElem? (i := 24) rfl)))) (mvT hZ (hw _ (List.mem_of_getElem? (i := 24) rfl))) (mvT hZ (hw _ (List.mem_of_getElem? (i := 23) rfl))) (by decide) (backOf (W := 0) (own_live1 l Z a0 hw [] b2 ex ex T7.heap n0 Z7 Fq7_1 Fq7_3) hZ (hw _ (List.mem_of_getElem? (i := 25) rfl)) (hw _ (List.mem_of_getElem? (i := 3) rfl)) (by decide) (by decide)) q11a q11c (g := (mkF m 70 #[.val (.long ex), .second, .val (.long nw), .second, .val (.long tt), .second, .val (.long ts), .second, .val (.int fl), .val (.int (0 : Int32)), .val .null, .val (.ref b2), .val (.int (0 : Int32)), .val (.int (0 : Int32)), .unset, .unset, .unset, .unset, .unset] [(.long ex), (.ref b2)])) rfl (by rw [hml]; rfl) (Steps.refl _) (argsL := [(.long ex)]) (rest := []) (lenOf own_pd59 rfl) rfl (by show 2 * 0 + _ ≤ _; exact Nat.le_of_eq rfl) (hb hby at_70) (fun _ _ => ⟨rfl, e10, (by decide : 1 + 0 ≤ _), (by decide : 3 + 0 ≤ _)⟩)
    dsimp only [Pt.U, Pt.locs, Pt.cells, Pt.slots] at X11 l11 y11 z11 st11 hQ11
    subst l11 y11 z11
    obtain ⟨rfl, Nq11, eq11⟩ := hQ11
    have N11 := Fr.app N10 Nq11
    have e11 : T11.heap = T7.heap := eq11
    refine own_go (fun t k => st11.trans k) ?_
    show OwnG p.tables e below _ (T11.setTop (mkF m 73 #[.val (.long ex), .second, .val (.long nw), .second, .val (.long tt), .second, .val (.long ts), .second, .val (.int fl), .val (.int (0 : Int32)), .val .null, .val (.ref b2), .val (.int (0 : Int32)), .val (.int (0 : Int32)), .unset, .unset, .unset, .unset, .unset] [(.int (0 : Int32))]))
    refine own_go (fun t k => XS.istore X11.here hx rfl (hb hby at_73) rfl (l' := #[.val (.long ex), .second, .val (.long nw), .second, .val (.long tt), .second, .val (.long ts), .second, .val (.int fl), .val (.int (0 : Int32)), .val .null, .val (.ref b2), .val (.int (0 : Int32)), .val (.int (0 : Int32)), .val (.int (0 : Int32)), .unset, .unset, .unset, .unset]) rfl k) ?_
    show OwnG p.tables e below _ (T11.setTop (mkF m 75 #[.val (.long ex), .second, .val (.long nw), .second, .val (.long tt), .second, .val (.long ts), .second, .val (.int fl), .val (.int (0 : Int32)), .val .null, .val (.ref b2), .val (.int (0 : Int32)), .val (.int (0 : Int32)), .val (.int (0 : Int32)), .unset, .unset, .unset, .unset] []))
    refine own_go (fun t k => XS.lloadN X11.here hx rfl (hb hby at_75) rfl  k) ?_
    show OwnG p.tables e below _ (T11.setTop (mkF m 76 #[.val (.long ex), .second, .val (.long nw), .second, .val (.long tt), .second, .val (.long ts), .second, .val (.int fl), .val (.int (0 : Int32)), .val .null, .val (.ref b2), .val (.int (0 : Int32)), .val (.int (0 : Int32)), .val (.int (0 : Int32)), .unset, .unset, .unset, .unset] [(.long ex)]))
    refine own_go (fun t k => (X11.ldc2Long hx hown (mvT hZ (hw _ (List.mem_of_getElem? (i := 26) rfl))) (g := (mkF m 76 #[.val (.long ex), .second, .val (.long nw), .second, .val (.long tt), .second, .val (.long ts), .second, .val (.int fl), .val (.int (0 : Int32)), .val .null, .val (.ref b2), .val (.int (0 : Int32)), .val (.int (0 : Int32)), .val (.int (0 : Int32)), .unset, .unset, .unset, .unset] [(.long ex)])) rfl (hb hby at_76)) t k) ?_
    show OwnG p.tables e below _ (T11.setTop (mkF m 79 #[.val (.long ex), .second, .val (.long nw), .second, .val (.long tt), .second, .val (.long ts), .second, .val (.int fl), .val (.int (0 : Int32)), .val .null, .val (.ref b2), .val (.int (0 : Int32)), .val (.int (0 : Int32)), .val (.int (0 : Int32)), .unset, .unset, .unset, .unset] [(.long (-9223372036854775808 : Int64)), (.long ex)]))
    refine own_go (fun t k => XS.lcmp X11.here hx rfl (hb hby at_79) rfl k) ?_
    show OwnG p.tables e below _ (T11.setTop (mkF m 80 #[.val (.long ex), .second, .val (.long nw), .second, .val (.long tt), .second, .val (.long ts), .second, .val (.int fl), .val (.int (0 : Int32)), .val .null, .val (.ref b2), .val (.int (0 : Int32)), .val (.int (0 : Int32)), .val (.int (0 : Int32)), .unset, .unset, .unset, .unset] [(.int (lcmpW ex (-9223372036854775808 : Int64)))]))
    by_cases hc12 : ex = (-9223372036854775808 : Int64)
    · refine own_go (fun t k => XS.ifYes X11.here hx rfl (pc0 := 80) (pc' := 87) rfl (hb hby at_80) rfl ((if0 _ _).trans (teq ((lw_eq _ _).mpr hc12)).1) (by decide) (by decide) k) ?_
      show OwnG p.tables e below _ (T11.setTop (mkF m 87 #[.val (.long ex), .second, .val (.long nw), .second, .val (.long tt), .second, .val (.long ts), .second, .val (.int fl), .val (.int (0 : Int32)), .val .null, .val (.ref b2), .val (.int (0 : Int32)), .val (.int (0 : Int32)), .val (.int (0 : Int32)), .unset, .unset, .unset, .unset] []))
      refine own_go (fun t k => XS.iconst X11.here hx rfl (hb hby at_87) k) ?_
      show OwnG p.tables e below _ (T11.setTop (mkF m 88 #[.val (.long ex), .second, .val (.long nw), .second, .val (.long tt), .second, .val (.long ts), .second, .val (.int fl), .val (.int (0 : Int32)), .val .null, .val (.ref b2), .val (.int (0 : Int32)), .val (.int (0 : Int32)), .val (.int (0 : Int32)), .unset, .unset, .unset, .unset] [(.int (0 : Int32))]))
      refine own_go (fun t k => XS.istore X11.here hx rfl (hb hby at_88) rfl (l' := #[.val (.long ex), .second, .val (.long nw), .second, .val (.long tt), .second, .val (.long ts), .second, .val (.int fl), .val (.int (0 : Int32)), .val .null, .val (.ref b2), .val (.int (0 : Int32)), .val (.int (0 : Int32)), .val (.int (0 : Int32)), .val (.int (0 : Int32)), .unset, .unset, .unset]) rfl k) ?_
      show OwnG p.tables e below _ (T11.setTop (mkF m 90 #[.val (.long ex), .second, .val (.long nw), .second, .val (.long tt), .second, .val (.long ts), .second, .val (.int fl), .val (.int (0 : Int32)), .val .null, .val (.ref b2), .val (.int (0 : Int32)), .val (.int (0 : Int32)), .val (.int (0 : Int32)), .val (.int (0 : Int32)), .unset, .unset, .unset] []))
      refine own_go (fun t k => XS.iload X11.here hx rfl (hb hby at_90) rfl  k) ?_
      show OwnG p.tables e below _ (T11.setTop (mkF m 92 #[.val (.long ex), .second, .val (.long nw), .second, .val (.long tt), .second, .val (.long ts), .second, .val (.int fl), .val (.int (0 : Int32)), .val .null, .val (.ref b2), .val (.int (0 : Int32)), .val (.int (0 : Int32)), .val (.int (0 : Int32)), .val (.int (0 : Int32)), .unset, .unset, .unset] [(.int (0 : Int32))]))
      refine own_go (fun t k => XS.ifYes X11.here hx rfl (pc0 := 92) (pc' := 101) rfl (hb hby at_92) rfl ((if0 _ _).trans (teq (by decide : (0 : Int32) = (0 : Int32))).1) (by decide) (by decide) k) ?_
      show OwnG p.tables e below _ (T11.setTop (mkF m 101 #[.val (.long ex), .second, .val (.long nw), .second, .val (.long tt), .second, .val (.long ts), .second, .val (.int fl), .val (.int (0 : Int32)), .val .null, .val (.ref b2), .val (.int (0 : Int32)), .val (.int (0 : Int32)), .val (.int (0 : Int32)), .val (.int (0 : Int32)), .unset, .unset, .unset] []))
      refine own_go (fun t k => XS.lloadN X11.here hx rfl (hb hby at_101) rfl  k) ?_
      show OwnG p.tables e below _ (T11.setTop (mkF m 102 #[.val (.long ex), .second, .val (.long nw), .second, .val (.long tt), .second, .val (.long ts), .second, .val (.int fl), .val (.int (0 : Int32)), .val .null, .val (.ref b2), .val (.int (0 : Int32)), .val (.int (0 : Int32)), .val (.int (0 : Int32)), .val (.int (0 : Int32)), .unset, .unset, .unset] [(.long ex)]))
      refine own_go (fun t k => XS.lstore X11.here hx rfl (hb hby at_102) rfl (l' := #[.val (.long ex), .second, .val (.long nw), .second, .val (.long tt), .second, .val (.long ts), .second, .val (.int fl), .val (.int (0 : Int32)), .val .null, .val (.ref b2), .val (.int (0 : Int32)), .val (.int (0 : Int32)), .val (.int (0 : Int32)), .val (.int (0 : Int32)), .val (.long ex), .second, .unset]) rfl k) ?_
      show OwnG p.tables e below _ (T11.setTop (mkF m 104 #[.val (.long ex), .second, .val (.long nw), .second, .val (.long tt), .second, .val (.long ts), .second, .val (.int fl), .val (.int (0 : Int32)), .val .null, .val (.ref b2), .val (.int (0 : Int32)), .val (.int (0 : Int32)), .val (.int (0 : Int32)), .val (.int (0 : Int32)), .val (.long ex), .second, .unset] []))
      refine own_go (fun t k => XS.iload X11.here hx rfl (hb hby at_104) rfl  k) ?_
      show OwnG p.tables e below _ (T11.setTop (mkF m 106 #[.val (.long ex), .second, .val (.long nw), .second, .val (.long tt), .second, .val (.long ts), .second, .val (.int fl), .val (.int (0 : Int32)), .val .null, .val (.ref b2), .val (.int (0 : Int32)), .val (.int (0 : Int32)), .val (.int (0 : Int32)), .val (.int (0 : Int32)), .val (.long ex), .second, .unset] [(.int (0 : Int32))]))
      refine own_go (fun t k => XS.ifYes X11.here hx rfl (pc0 := 106) (pc' := 119) rfl (hb hby at_106) rfl ((if0 _ _).trans (teq (by decide : (0 : Int32) = (0 : Int32))).1) (by decide) (by decide) k) ?_
      show OwnG p.tables e below _ (T11.setTop (mkF m 119 #[.val (.long ex), .second, .val (.long nw), .second, .val (.long tt), .second, .val (.long ts), .second, .val (.int fl), .val (.int (0 : Int32)), .val .null, .val (.ref b2), .val (.int (0 : Int32)), .val (.int (0 : Int32)), .val (.int (0 : Int32)), .val (.int (0 : Int32)), .val (.long ex), .second, .unset] []))
      refine own_go (fun t k => XS.iconst X11.here hx rfl (hb hby at_119) k) ?_
      show OwnG p.tables e below _ (T11.setTop (mkF m 120 #[.val (.long ex), .second, .val (.long nw), .second, .val (.long tt), .second, .val (.long ts), .second, .val (.int fl), .val (.int (0 : Int32)), .val .null, .val (.ref b2), .val (.int (0 : Int32)), .val (.int (0 : Int32)), .val (.int (0 : Int32)), .val (.int (0 : Int32)), .val (.long ex), .second, .unset] [(.int (0 : Int32))]))
      refine own_go (fun t k => XS.istore X11.here hx rfl (hb hby at_120) rfl (l' := #[.val (.long ex), .second, .val (.long nw), .second, .val (.long tt), .second, .val (.long ts), .second, .val (.int fl), .val (.int (0 : Int32)), .val .null, .val (.ref b2), .val (.int (0 : Int32)), .val (.int (0 : Int32)), .val (.int (0 : Int32)), .val (.int (0 : Int32)), .val (.long ex), .second, .val (.int (0 : Int32))]) rfl k) ?_
      show OwnG p.tables e below _ (T11.setTop (mkF m 122 #[.val (.long ex), .second, .val (.long nw), .second, .val (.long tt), .second, .val (.long ts), .second, .val (.int fl), .val (.int (0 : Int32)), .val .null, .val (.ref b2), .val (.int (0 : Int32)), .val (.int (0 : Int32)), .val (.int (0 : Int32)), .val (.int (0 : Int32)), .val (.long ex), .second, .val (.int (0 : Int32))] []))
      refine own_go (fun t k => XS.iload X11.here hx rfl (hb hby at_122) rfl  k) ?_
      show OwnG p.tables e below _ (T11.setTop (mkF m 124 #[.val (.long ex), .second, .val (.long nw), .second, .val (.long tt), .second, .val (.long ts), .second, .val (.int fl), .val (.int (0 : Int32)), .val .null, .val (.ref b2), .val (.int (0 : Int32)), .val (.int (0 : Int32)), .val (.int (0 : Int32)), .val (.int (0 : Int32)), .val (.long ex), .second, .val (.int (0 : Int32))] [(.int (0 : Int32))]))
      refine own_go (fun t k => XS.ifNo X11.here hx rfl (hb hby at_124) rfl ((if0 _ _).trans (teq (by decide : (0 : Int32) = (0 : Int32))).2) k) ?_
      show OwnG p.tables e below _ (T11.setTop (mkF m 127 #[.val (.long ex), .second, .val (.long nw), .second, .val (.long tt), .second, .val (.long ts), .second, .val (.int fl), .val (.int (0 : Int32)), .val .null, .val (.ref b2), .val (.int (0 : Int32)), .val (.int (0 : Int32)), .val (.int (0 : Int32)), .val (.int (0 : Int32)), .val (.long ex), .second, .val (.int (0 : Int32))] []))
      refine own_go (fun t k => XS.iload X11.here hx rfl (hb hby at_127) rfl  k) ?_
      show OwnG p.tables e below _ (T11.setTop (mkF m 129 #[.val (.long ex), .second, .val (.long nw), .second, .val (.long tt), .second, .val (.long ts), .second, .val (.int fl), .val (.int (0 : Int32)), .val .null, .val (.ref b2), .val (.int (0 : Int32)), .val (.int (0 : Int32)), .val (.int (0 : Int32)), .val (.int (0 : Int32)), .val (.long ex), .second, .val (.int (0 : Int32))] [(.int (0 : Int32))]))
      refine own_go (fun t k => XS.ifNo X11.here hx rfl (hb hby at_129) rfl ((if0 _ _).trans (teq (by decide : (0 : Int32) = (0 : Int32))).2) k) ?_
      show OwnG p.tables e below _ (T11.setTop (mkF m 132 #[.val (.long ex), .second, .val (.long nw), .second, .val (.long tt), .second, .val (.long ts), .second, .val (.int fl), .val (.int (0 : Int32)), .val .null, .val (.ref b2), .val (.int (0 : Int32)), .val (.int (0 : Int32)), .val (.int (0 : Int32)), .val (.int (0 : Int32)), .val (.long ex), .second, .val (.int (0 : Int32))] []))
      refine own_go (fun t k => XS.iload X11.here hx rfl (hb hby at_132) rfl  k) ?_
      show OwnG p.tables e below _ (T11.setTop (mkF m 134 #[.val (.long ex), .second, .val (.long nw), .second, .val (.long tt), .second, .val (.long ts), .second, .val (.int fl), .val (.int (0 : Int32)), .val .null, .val (.ref b2), .val (.int (0 : Int32)), .val (.int (0 : Int32)), .val (.int (0 : Int32)), .val (.int (0 : Int32)), .val (.long ex), .second, .val (.int (0 : Int32))] [(.int (0 : Int32))]))
      refine own_go (fun t k => XS.ifNo X11.here hx rfl (hb hby at_134) rfl ((if0 _ _).trans (teq (by decide : (0 : Int32) = (0 : Int32))).2) k) ?_
      show OwnG p.tables e below _ (T11.setTop (mkF m 137 #[.val (.long ex), .second, .val (.long nw), .second, .val (.long tt), .second, .val (.long ts), .second, .val (.int fl), .val (.int (0 : Int32)), .val .null, .val (.ref b2), .val (.int (0 : Int32)), .val (.int (0 : Int32)), .val (.int (0 : Int32)), .val (.int (0 : Int32)), .val (.long ex), .second, .val (.int (0 : Int32))] []))
      refine own_go (fun t k => XS.iload X11.here hx rfl (hb hby at_137) rfl  k) ?_
      show OwnG p.tables e below _ (T11.setTop (mkF m 139 #[.val (.long ex), .second, .val (.long nw), .second, .val (.long tt), .second, .val (.long ts), .second, .val (.int fl), .val (.int (0 : Int32)), .val .null, .val (.ref b2), .val (.int (0 : Int32)), .val (.int (0 : Int32)), .val (.int (0 : Int32)), .val (.int (0 : Int32)), .val (.long ex), .second, .val (.int (0 : Int32))] [(.int (0 : Int32))]))
      refine own_go (fun t k => XS.ifYes X11.here hx rfl (pc0 := 139) (pc' := 144) rfl (hb hby at_139) rfl ((if0 _ _).trans (teq (by decide : (0 : Int32) = (0 : Int32))).1) (by decide) (by decide) k) ?_
      show OwnG p.tables e below _ (T11.setTop (mkF m 144 #[.val (.long ex), .second, .val (.long nw), .second, .val (.long tt), .second, .val (.long ts), .second, .val (.int fl), .val (.int (0 : Int32)), .val .null, .val (.ref b2), .val (.int (0 : Int32)), .val (.int (0 : Int32)), .val (.int (0 : Int32)), .val (.int (0 : Int32)), .val (.long ex), .second, .val (.int (0 : Int32))] []))
      refine own_go (fun t k => XS.iload X11.here hx rfl (hb hby at_144) rfl  k) ?_
      show OwnG p.tables e below _ (T11.setTop (mkF m 146 #[.val (.long ex), .second, .val (.long nw), .second, .val (.long tt), .second, .val (.long ts), .second, .val (.int fl), .val (.int (0 : Int32)), .val .null, .val (.ref b2), .val (.int (0 : Int32)), .val (.int (0 : Int32)), .val (.int (0 : Int32)), .val (.int (0 : Int32)), .val (.long ex), .second, .val (.int (0 : Int32))] [(.int (0 : Int32))]))
      refine own_go (fun t k => XS.ifYes X11.here hx rfl (pc0 := 146) (pc' := 151) rfl (hb hby at_146) rfl ((if0 _ _).trans (teq (by decide : (0 : Int32) = (0 : Int32))).1) (by decide) (by decide) k) ?_
      show OwnG p.tables e below _ (T11.setTop (mkF m 151 #[.val (.long ex), .second, .val (.long nw), .second, .val (.long tt), .second, .val (.long ts), .second, .val (.int fl), .val (.int (0 : Int32)), .val .null, .val (.ref b2), .val (.int (0 : Int32)), .val (.int (0 : Int32)), .val (.int (0 : Int32)), .val (.int (0 : Int32)), .val (.long ex), .second, .val (.int (0 : Int32))] []))
      refine own_go (fun t k => XS.iload X11.here hx rfl (hb hby at_151) rfl  k) ?_
      show OwnG p.tables e below _ (T11.setTop (mkF m 153 #[.val (.long ex), .second, .val (.long nw), .second, .val (.long tt), .second, .val (.long ts), .second, .val (.int fl), .val (.int (0 : Int32)), .val .null, .val (.ref b2), .val (.int (0 : Int32)), .val (.int (0 : Int32)), .val (.int (0 : Int32)), .val (.int (0 : Int32)), .val (.long ex), .second, .val (.int (0 : Int32))] [(.int (0 : Int32))]))
      refine own_go (fun t k => XS.iload X11.here hx rfl (hb hby at_153) rfl  k) ?_
      show OwnG p.tables e below _ (T11.setTop (mkF m 155 #[.val (.long ex), .second, .val (.long nw), .second, .val (.long tt), .second, .val (.long ts), .second, .val (.int fl), .val (.int (0 : Int32)), .val .null, .val (.ref b2), .val (.int (0 : Int32)), .val (.int (0 : Int32)), .val (.int (0 : Int32)), .val (.int (0 : Int32)), .val (.long ex), .second, .val (.int (0 : Int32))] [(.int (0 : Int32)), (.int (0 : Int32))]))
      refine own_go (fun t k => XS.ifYes X11.here hx rfl (pc0 := 155) (pc' := 167) rfl (hb hby at_155) rfl ((if0 _ _).trans (teq (by decide : (0 : Int32) = (0 : Int32))).1) (by decide) (by decide) k) ?_
      show OwnG p.tables e below _ (T11.setTop (mkF m 167 #[.val (.long ex), .second, .val (.long nw), .second, .val (.long tt), .second, .val (.long ts), .second, .val (.int fl), .val (.int (0 : Int32)), .val .null, .val (.ref b2), .val (.int (0 : Int32)), .val (.int (0 : Int32)), .val (.int (0 : Int32)), .val (.int (0 : Int32)), .val (.long ex), .second, .val (.int (0 : Int32))] [(.int (0 : Int32))]))
      refine own_go (fun t k => XS.iconst X11.here hx rfl (hb hby at_167) k) ?_
      show OwnG p.tables e below _ (T11.setTop (mkF m 168 #[.val (.long ex), .second, .val (.long nw), .second, .val (.long tt), .second, .val (.long ts), .second, .val (.int fl), .val (.int (0 : Int32)), .val .null, .val (.ref b2), .val (.int (0 : Int32)), .val (.int (0 : Int32)), .val (.int (0 : Int32)), .val (.int (0 : Int32)), .val (.long ex), .second, .val (.int (0 : Int32))] [(.int (0 : Int32)), (.int (0 : Int32))]))
      refine own_go (fun t k => XS.icmpYes X11.here hx rfl (pc0 := 168) (pc' := 173) rfl (hb hby at_168) rfl (teq (by decide : (0 : Int32) = (0 : Int32))).1 (by decide) (by decide) k) ?_
      show OwnG p.tables e below _ (T11.setTop (mkF m 173 #[.val (.long ex), .second, .val (.long nw), .second, .val (.long tt), .second, .val (.long ts), .second, .val (.int fl), .val (.int (0 : Int32)), .val .null, .val (.ref b2), .val (.int (0 : Int32)), .val (.int (0 : Int32)), .val (.int (0 : Int32)), .val (.int (0 : Int32)), .val (.long ex), .second, .val (.int (0 : Int32))] []))
      refine own_go (fun t k => XS.lloadN X11.here hx rfl (hb hby at_173) rfl  k) ?_
      show OwnG p.tables e below _ (T11.setTop (mkF m 174 #[.val (.long ex), .second, .val (.long nw), .second, .val (.long tt), .second, .val (.long ts), .second, .val (.int fl), .val (.int (0 : Int32)), .val .null, .val (.ref b2), .val (.int (0 : Int32)), .val (.int (0 : Int32)), .val (.int (0 : Int32)), .val (.int (0 : Int32)), .val (.long ex), .second, .val (.int (0 : Int32))] [(.long nw)]))
      refine own_go (fun t k => XS.iload X11.here hx rfl (hb hby at_174) rfl  k) ?_
      show OwnG p.tables e below _ (T11.setTop (mkF m 176 #[.val (.long ex), .second, .val (.long nw), .second, .val (.long tt), .second, .val (.long ts), .second, .val (.int fl), .val (.int (0 : Int32)), .val .null, .val (.ref b2), .val (.int (0 : Int32)), .val (.int (0 : Int32)), .val (.int (0 : Int32)), .val (.int (0 : Int32)), .val (.long ex), .second, .val (.int (0 : Int32))] [(.int (0 : Int32)), (.long nw)]))
      refine own_go (fun t k => XS.lload X11.here hx rfl (hb hby at_176) rfl  k) ?_
      show OwnG p.tables e below _ (T11.setTop (mkF m 178 #[.val (.long ex), .second, .val (.long nw), .second, .val (.long tt), .second, .val (.long ts), .second, .val (.int fl), .val (.int (0 : Int32)), .val .null, .val (.ref b2), .val (.int (0 : Int32)), .val (.int (0 : Int32)), .val (.int (0 : Int32)), .val (.int (0 : Int32)), .val (.long ex), .second, .val (.int (0 : Int32))] [(.long tt), (.int (0 : Int32)), (.long nw)]))
      refine own_go (fun t k => XS.iload X11.here hx rfl (hb hby at_178) rfl  k) ?_
      show OwnG p.tables e below _ (T11.setTop (mkF m 180 #[.val (.long ex), .second, .val (.long nw), .second, .val (.long tt), .second, .val (.long ts), .second, .val (.int fl), .val (.int (0 : Int32)), .val .null, .val (.ref b2), .val (.int (0 : Int32)), .val (.int (0 : Int32)), .val (.int (0 : Int32)), .val (.int (0 : Int32)), .val (.long ex), .second, .val (.int (0 : Int32))] [(.int (0 : Int32)), (.long tt), (.int (0 : Int32)), (.long nw)]))
      obtain ⟨_, _, ⟨T13, L13, k13, n13⟩, -, X13, ⟨Lc13, hQ13, l13, y13, z13⟩, st13⟩ := Jvm.LawKit.callS X11 hx (y := (⟨"com/example/keyspace/keyspace/engine/CellIsLivePinLaw", "mono", "(JZJZ)Z"⟩ : MethodName)) hown (mvT hZ (hw _ (List.mem_of_getElem? (i := 27) rfl))) (mvT hZ (hw _ (List.mem_of_getElem? (i := 28) rfl))) (mvT hZ (hw _ (List.mem_of_getElem? (i := 29) rfl))) (mvT hZ (hw _ (List.mem_of_getElem? (i := 30) rfl))) (by decide) (backOf (W := 0) (own_monoC l Z a0 hw [] nw (0 : Int32) tt (0 : Int32) T7.heap n0 Z7) hZ (hw _ (List.mem_of_getElem? (i := 30) rfl)) (hw _ (List.mem_of_getElem? (i := 29) rfl)) (by decide) (by decide)) (g := (mkF m 180 #[.val (.long ex), .second, .val (.long nw), .second, .val (.long tt), .second, .val (.long ts), .second, .val (.int fl), .val (.int (0 : Int32)), .val .null, .val (.ref b2), .val (.int (0 : Int32)), .val (.int (0 : Int32)), .val (.int (0 : Int32)), .val (.int (0 : Int32)), .val (.long ex), .second, .val (.int (0 : Int32))] [(.int (0 : Int32)), (.long tt), (.int (0 : Int32)), (.long nw)])) rfl (by rw [hml]; rfl) (argsL := [(.long nw), (.int (0 : Int32)), (.long tt), (.int (0 : Int32))]) (rest := []) (lenOf own_pd60 rfl) rfl (by show 2 * 0 + _ ≤ _; exact Nat.le_of_eq rfl) (hb hby at_180) (fun _ _ => ⟨rfl, e11, (by decide : 1 + 0 ≤ _), (by decide : 3 + 0 ≤ _)⟩)
      dsimp only [Pt.U, Pt.locs, Pt.cells, Pt.slots] at X13 l13 y13 z13 st13 hQ13
      subst l13 y13 z13
      obtain ⟨rfl, Nq13, eq13⟩ := hQ13
      have N13 := Fr.app N11 Nq13
      have e13 : T13.heap = T7.heap := eq13
      refine own_go (fun t k => st13 t k) ?_
      show OwnG p.tables e below _ (T13.setTop (mkF m 183 #[.val (.long ex), .second, .val (.long nw), .second, .val (.long tt), .second, .val (.long ts), .second, .val (.int fl), .val (.int (0 : Int32)), .val .null, .val (.ref b2), .val (.int (0 : Int32)), .val (.int (0 : Int32)), .val (.int (0 : Int32)), .val (.int (0 : Int32)), .val (.long ex), .second, .val (.int (0 : Int32))] [(.int (own_mono nw (0 : Int32) tt (0 : Int32)))]))
      rw [own_mono_0 nw tt]
      show OwnG p.tables e below _ (T13.setTop (mkF m 183 #[.val (.long ex), .second, .val (.long nw), .second, .val (.long tt), .second, .val (.long ts), .second, .val (.int fl), .val (.int (0 : Int32)), .val .null, .val (.ref b2), .val (.int (0 : Int32)), .val (.int (0 : Int32)), .val (.int (0 : Int32)), .val (.int (0 : Int32)), .val (.long ex), .second, .val (.int (0 : Int32))] [(.int (1 : Int32))]))
      refine own_go (fun t k => XS.ifYes X13.here hx rfl (pc0 := 183) (pc' := 188) rfl (hb hby at_183) rfl ((if0 _ _).trans (feq (by decide : ¬ ((1 : Int32) = (0 : Int32)))).2) (by decide) (by decide) k) ?_
      show OwnG p.tables e below _ (T13.setTop (mkF m 188 #[.val (.long ex), .second, .val (.long nw), .second, .val (.long tt), .second, .val (.long ts), .second, .val (.int fl), .val (.int (0 : Int32)), .val .null, .val (.ref b2), .val (.int (0 : Int32)), .val (.int (0 : Int32)), .val (.int (0 : Int32)), .val (.int (0 : Int32)), .val (.long ex), .second, .val (.int (0 : Int32))] []))
      refine own_go (fun t k => XS.lloadN X13.here hx rfl (hb hby at_188) rfl  k) ?_
      show OwnG p.tables e below _ (T13.setTop (mkF m 189 #[.val (.long ex), .second, .val (.long nw), .second, .val (.long tt), .second, .val (.long ts), .second, .val (.int fl), .val (.int (0 : Int32)), .val .null, .val (.ref b2), .val (.int (0 : Int32)), .val (.int (0 : Int32)), .val (.int (0 : Int32)), .val (.int (0 : Int32)), .val (.long ex), .second, .val (.int (0 : Int32))] [(.long nw)]))
      refine own_go (fun t k => XS.iload X13.here hx rfl (hb hby at_189) rfl  k) ?_
      show OwnG p.tables e below _ (T13.setTop (mkF m 191 #[.val (.long ex), .second, .val (.long nw), .second, .val (.long tt), .second, .val (.long ts), .second, .val (.int fl), .val (.int (0 : Int32)), .val .null, .val (.ref b2), .val (.int (0 : Int32)), .val (.int (0 : Int32)), .val (.int (0 : Int32)), .val (.int (0 : Int32)), .val (.long ex), .second, .val (.int (0 : Int32))] [(.int (0 : Int32)), (.long nw)]))
      refine own_go (fun t k => XS.lloadN X13.here hx rfl (hb hby at_191) rfl  k) ?_
      show OwnG p.tables e below _ (T13.setTop (mkF m 192 #[.val (.long ex), .second, .val (.long nw), .second, .val (.long tt), .second, .val (.long ts), .second, .val (.int fl), .val (.int (0 : Int32)), .val .null, .val (.ref b2), .val (.int (0 : Int32)), .val (.int (0 : Int32)), .val (.int (0 : Int32)), .val (.int (0 : Int32)), .val (.long ex), .second, .val (.int (0 : Int32))] [(.long ex), (.int (0 : Int32)), (.long nw)]))
      refine own_go (fun t k => XS.iload X13.here hx rfl (hb hby at_192) rfl  k) ?_
      show OwnG p.tables e below _ (T13.setTop (mkF m 194 #[.val (.long ex), .second, .val (.long nw), .second, .val (.long tt), .second, .val (.long ts), .second, .val (.int fl), .val (.int (0 : Int32)), .val .null, .val (.ref b2), .val (.int (0 : Int32)), .val (.int (0 : Int32)), .val (.int (0 : Int32)), .val (.int (0 : Int32)), .val (.long ex), .second, .val (.int (0 : Int32))] [(.int (0 : Int32)), (.long ex), (.int (0 : Int32)), (.long nw)]))
      obtain ⟨_, _, ⟨T14, L14, k14, n14⟩, -, X14, ⟨Lc14, hQ14, l14, y14, z14⟩, st14⟩ := Jvm.LawKit.callS X13 hx (y := (⟨"com/example/keyspace/keyspace/engine/CellIsLivePinLaw", "mono", "(JZJZ)Z"⟩ : MethodName)) hown (mvT hZ (hw _ (List.mem_of_getElem? (i := 27) rfl))) (mvT hZ (hw _ (List.mem_of_getElem? (i := 28) rfl))) (mvT hZ (hw _ (List.mem_of_getElem? (i := 29) rfl))) (mvT hZ (hw _ (List.mem_of_getElem? (i := 30) rfl))) (by decide) (backOf (W := 0) (own_monoC l Z a0 hw [] nw (0 : Int32) ex (0 : Int32) T7.heap n0 Z7) hZ (hw _ (List.mem_of_getElem? (i := 30) rfl)) (hw _ (List.mem_of_getElem? (i := 29) rfl)) (by decide) (by decide)) (g := (mkF m 194 #[.val (.long ex), .second, .val (.long nw), .second, .val (.long tt), .second, .val (.long ts), .second, .val (.int fl), .val (.int (0 : Int32)), .val .null, .val (.ref b2), .val (.int (0 : Int32)), .val (.int (0 : Int32)), .val (.int (0 : Int32)), .val (.int (0 : Int32)), .val (.long ex), .second, .val (.int (0 : Int32))] [(.int (0 : Int32)), (.long ex), (.int (0 : Int32)), (.long nw)])) rfl (by rw [hml]; rfl) (argsL := [(.long nw), (.int (0 : Int32)), (.long ex), (.int (0 : Int32))]) (rest := []) (lenOf own_pd60 rfl) rfl (by show 2 * 0 + _ ≤ _; exact Nat.le_of_eq rfl) (hb hby at_194) (fun _ _ => ⟨rfl, e13, (by decide : 1 + 0 ≤ _), (by decide : 3 + 0 ≤ _)⟩)
      dsimp only [Pt.U, Pt.locs, Pt.cells, Pt.slots] at X14 l14 y14 z14 st14 hQ14
      subst l14 y14 z14
      obtain ⟨rfl, Nq14, eq14⟩ := hQ14
      have N14 := Fr.app N13 Nq14
      have e14 : T14.heap = T7.heap := eq14
      refine own_go (fun t k => st14 t k) ?_
      show OwnG p.tables e below _ (T14.setTop (mkF m 197 #[.val (.long ex), .second, .val (.long nw), .second, .val (.long tt), .second, .val (.long ts), .second, .val (.int fl), .val (.int (0 : Int32)), .val .null, .val (.ref b2), .val (.int (0 : Int32)), .val (.int (0 : Int32)), .val (.int (0 : Int32)), .val (.int (0 : Int32)), .val (.long ex), .second, .val (.int (0 : Int32))] [(.int (own_mono nw (0 : Int32) ex (0 : Int32)))]))
      rw [own_mono_0 nw ex]
      show OwnG p.tables e below _ (T14.setTop (mkF m 197 #[.val (.long ex), .second, .val (.long nw), .second, .val (.long tt), .second, .val (.long ts), .second, .val (.int fl), .val (.int (0 : Int32)), .val .null, .val (.ref b2), .val (.int (0 : Int32)), .val (.int (0 : Int32)), .val (.int (0 : Int32)), .val (.int (0 : Int32)), .val (.long ex), .second, .val (.int (0 : Int32))] [(.int (1 : Int32))]))
      refine own_go (fun t k => XS.ifYes X14.here hx rfl (pc0 := 197) (pc' := 202) rfl (hb hby at_197) rfl ((if0 _ _).trans (feq (by decide : ¬ ((1 : Int32) = (0 : Int32)))).2) (by decide) (by decide) k) ?_
      show OwnG p.tables e below _ (T14.setTop (mkF m 202 #[.val (.long ex), .second, .val (.long nw), .second, .val (.long tt), .second, .val (.long ts), .second, .val (.int fl), .val (.int (0 : Int32)), .val .null, .val (.ref b2), .val (.int (0 : Int32)), .val (.int (0 : Int32)), .val (.int (0 : Int32)), .val (.int (0 : Int32)), .val (.long ex), .second, .val (.int (0 : Int32))] []))
      refine own_go (fun t k => XS.iload X14.here hx rfl (hb hby at_202) rfl  k) ?_
      show OwnG p.tables e below _ (T14.setTop (mkF m 204 #[.val (.long ex), .second, .val (.long nw), .second, .val (.long tt), .second, .val (.long ts), .second, .val (.int fl), .val (.int (0 : Int32)), .val .null, .val (.ref b2), .val (.int (0 : Int32)), .val (.int (0 : Int32)), .val (.int (0 : Int32)), .val (.int (0 : Int32)), .val (.long ex), .second, .val (.int (0 : Int32))] [(.int (0 : Int32))]))
      refine own_go (fun t k => XS.ifYes X14.here hx rfl (pc0 := 204) (pc' := 222) rfl (hb hby at_204) rfl ((if0 _ _).trans (teq (by decide : (0 : Int32) = (0 : Int32))).1) (by decide) (by decide) k) ?_
      show OwnG p.tables e below _ (T14.setTop (mkF m 222 #[.val (.long ex), .second, .val (.long nw), .second, .val (.long tt), .second, .val (.long ts), .second, .val (.int fl), .val (.int (0 : Int32)), .val .null, .val (.ref b2), .val (.int (0 : Int32)), .val (.int (0 : Int32)), .val (.int (0 : Int32)), .val (.int (0 : Int32)), .val (.long ex), .second, .val (.int (0 : Int32))] []))
      refine own_go (fun t k => XS.iconst X14.here hx rfl (hb hby at_222) k) ?_
      show OwnG p.tables e below _ (T14.setTop (mkF m 223 #[.val (.long ex), .second, .val (.long nw), .second, .val (.long tt), .second, .val (.long ts), .second, .val (.int fl), .val (.int (0 : Int32)), .val .null, .val (.ref b2), .val (.int (0 : Int32)), .val (.int (0 : Int32)), .val (.int (0 : Int32)), .val (.int (0 : Int32)), .val (.long ex), .second, .val (.int (0 : Int32))] [(.int (1 : Int32))]))
      obtain ⟨fs, hr, hrun, hended, hW, hsame⟩ := X14.leave (v := some (.int (1 : Int32))) (fun h => by rw [Bd.returns] at h; cases h)
      refine ⟨_, _, retN X14 hx (t := .boolean) Bd.returns (by simp) (hb hby at_223) hr, hrun, hended, _, _, rfl, ?_, ⟨_, rfl⟩, hW, hsame.mono (by decide) (by decide)⟩
      show Q_own_law Z ex nw tt ts fl h0 n0 _ T14.heap _
      rw [e14]
      exact ⟨rfl, N14⟩
    · refine own_go (fun t k => XS.ifNo X11.here hx rfl (hb hby at_80) rfl ((if0 _ _).trans (feq (mt (lw_eq _ _).mp hc12)).1) k) ?_
      show OwnG p.tables e below _ (T11.setTop (mkF m 83 #[.val (.long ex), .second, .val (.long nw), .second, .val (.long tt), .second, .val (.long ts), .second, .val (.int fl), .val (.int (0 : Int32)), .val .null, .val (.ref b2), .val (.int (0 : Int32)), .val (.int (0 : Int32)), .val (.int (0 : Int32)), .unset, .unset, .unset, .unset] []))
      refine own_go (fun t k => XS.iconst X11.here hx rfl (hb hby at_83) k) ?_
      show OwnG p.tables e below _ (T11.setTop (mkF m 84 #[.val (.long ex), .second, .val (.long nw), .second, .val (.long tt), .second, .val (.long ts), .second, .val (.int fl), .val (.int (0 : Int32)), .val .null, .val (.ref b2), .val (.int (0 : Int32)), .val (.int (0 : Int32)), .val (.int (0 : Int32)), .unset, .unset, .unset, .unset] [(.int (1 : Int32))]))
      refine own_go (fun t k => XS.goto X11.here hx rfl (pc0 := 84) (pc' := 88) rfl (hb hby at_84) (by decide) (by decide) k) ?_
      show OwnG p.tables e below _ (T11.setTop (mkF m 88 #[.val (.long ex), .second, .val (.long nw), .second, .val (.long tt), .second, .val (.long ts), .second, .val (.int fl), .val (.int (0 : Int32)), .val .null, .val (.ref b2), .val (.int (0 : Int32)), .val (.int (0 : Int32)), .val (.int (0 : Int32)), .unset, .unset, .unset, .unset] [(.int (1 : Int32))]))
      refine own_go (fun t k => XS.istore X11.here hx rfl (hb hby at_88) rfl (l' := #[.val (.long ex), .second, .val (.long nw), .second, .val (.long tt), .second, .val (.long ts), .second, .val (.int fl), .val (.int (0 : Int32)), .val .null, .val (.ref b2), .val (.int (0 : Int32)), .val (.int (0 : Int32)), .val (.int (0 : Int32)), .val (.int (1 : Int32)), .unset, .unset, .unset]) rfl k) ?_
      show OwnG p.tables e below _ (T11.setTop (mkF m 90 #[.val (.long ex), .second, .val (.long nw), .second, .val (.long tt), .second, .val (.long ts), .second, .val (.int fl), .val (.int (0 : Int32)), .val .null, .val (.ref b2), .val (.int (0 : Int32)), .val (.int (0 : Int32)), .val (.int (0 : Int32)), .val (.int (1 : Int32)), .unset, .unset, .unset] []))
      refine own_go (fun t k => XS.iload X11.here hx rfl (hb hby at_90) rfl  k) ?_
      show OwnG p.tables e below _ (T11.setTop (mkF m 92 #[.val (.long ex), .second, .val (.long nw), .second, .val (.long tt), .second, .val (.long ts), .second, .val (.int fl), .val (.int (0 : Int32)), .val .null, .val (.ref b2), .val (.int (0 : Int32)), .val (.int (0 : Int32)), .val (.int (0 : Int32)), .val (.int (1 : Int32)), .unset, .unset, .unset] [(.int (1 : Int32))]))
      refine own_go (fun t k => XS.ifNo X11.here hx rfl (hb hby at_92) rfl ((if0 _ _).trans (feq (by decide : ¬ ((1 : Int32) = (0 : Int32)))).1) k) ?_
      show OwnG p.tables e below _ (T11.setTop (mkF m 95 #[.val (.long ex), .second, .val (.long nw), .second, .val (.long tt), .second, .val (.long ts), .second, .val (.int fl), .val (.int (0 : Int32)), .val .null, .val (.ref b2), .val (.int (0 : Int32)), .val (.int (0 : Int32)), .val (.int (0 : Int32)), .val (.int (1 : Int32)), .unset, .unset, .unset] []))
      refine own_go (fun t k => XS.lloadN X11.here hx rfl (hb hby at_95) rfl  k) ?_
      show OwnG p.tables e below _ (T11.setTop (mkF m 96 #[.val (.long ex), .second, .val (.long nw), .second, .val (.long tt), .second, .val (.long ts), .second, .val (.int fl), .val (.int (0 : Int32)), .val .null, .val (.ref b2), .val (.int (0 : Int32)), .val (.int (0 : Int32)), .val (.int (0 : Int32)), .val (.int (1 : Int32)), .unset, .unset, .unset] [(.long ex)]))
      refine own_go (fun t k => XS.lconst X11.here hx rfl (hb hby at_96) k) ?_
      show OwnG p.tables e below _ (T11.setTop (mkF m 97 #[.val (.long ex), .second, .val (.long nw), .second, .val (.long tt), .second, .val (.long ts), .second, .val (.int fl), .val (.int (0 : Int32)), .val .null, .val (.ref b2), .val (.int (0 : Int32)), .val (.int (0 : Int32)), .val (.int (0 : Int32)), .val (.int (1 : Int32)), .unset, .unset, .unset] [(.long (1 : Int64)), (.long ex)]))
      refine own_go (fun t k => XS.lsub X11.here hx rfl (hb hby at_97) rfl k) ?_
      show OwnG p.tables e below _ (T11.setTop (mkF m 98 #[.val (.long ex), .second, .val (.long nw), .second, .val (.long tt), .second, .val (.long ts), .second, .val (.int fl), .val (.int (0 : Int32)), .val .null, .val (.ref b2), .val (.int (0 : Int32)), .val (.int (0 : Int32)), .val (.int (0 : Int32)), .val (.int (1 : Int32)), .unset, .unset, .unset] [(.long (ex - (1 : Int64)))]))
      refine own_go (fun t k => XS.goto X11.here hx rfl (pc0 := 98) (pc' := 102) rfl (hb hby at_98) (by decide) (by decide) k) ?_
      show OwnG p.tables e below _ (T11.setTop (mkF m 102 #[.val (.long ex), .second, .val (.long nw), .second, .val (.long tt), .second, .val (.long ts), .second, .val (.int fl), .val (.int (0 : Int32)), .val .null, .val (.ref b2), .val (.int (0 : Int32)), .val (.int (0 : Int32)), .val (.int (0 : Int32)), .val (.int (1 : Int32)), .unset, .unset, .unset] [(.long (ex - (1 : Int64)))]))
      refine own_go (fun t k => XS.lstore X11.here hx rfl (hb hby at_102) rfl (l' := #[.val (.long ex), .second, .val (.long nw), .second, .val (.long tt), .second, .val (.long ts), .second, .val (.int fl), .val (.int (0 : Int32)), .val .null, .val (.ref b2), .val (.int (0 : Int32)), .val (.int (0 : Int32)), .val (.int (0 : Int32)), .val (.int (1 : Int32)), .val (.long (ex - (1 : Int64))), .second, .unset]) rfl k) ?_
      show OwnG p.tables e below _ (T11.setTop (mkF m 104 #[.val (.long ex), .second, .val (.long nw), .second, .val (.long tt), .second, .val (.long ts), .second, .val (.int fl), .val (.int (0 : Int32)), .val .null, .val (.ref b2), .val (.int (0 : Int32)), .val (.int (0 : Int32)), .val (.int (0 : Int32)), .val (.int (1 : Int32)), .val (.long (ex - (1 : Int64))), .second, .unset] []))
      refine own_go (fun t k => XS.iload X11.here hx rfl (hb hby at_104) rfl  k) ?_
      show OwnG p.tables e below _ (T11.setTop (mkF m 106 #[.val (.long ex), .second, .val (.long nw), .second, .val (.long tt), .second, .val (.long ts), .second, .val (.int fl), .val (.int (0 : Int32)), .val .null, .val (.ref b2), .val (.int (0 : Int32)), .val (.int (0 : Int32)), .val (.int (0 : Int32)), .val (.int (1 : Int32)), .val (.long (ex - (1 : Int64))), .second, .unset] [(.int (1 : Int32))]))
      refine own_go (fun t k => XS.ifNo X11.here hx rfl (hb hby at_106) rfl ((if0 _ _).trans (feq (by decide : ¬ ((1 : Int32) = (0 : Int32)))).1) k) ?_
      show OwnG p.tables e below _ (T11.setTop (mkF m 109 #[.val (.long ex), .second, .val (.long nw), .second, .val (.long tt), .second, .val (.long ts), .second, .val (.int fl), .val (.int (0 : Int32)), .val .null, .val (.ref b2), .val (.int (0 : Int32)), .val (.int (0 : Int32)), .val (.int (0 : Int32)), .val (.int (1 : Int32)), .val (.long (ex - (1 : Int64))), .second, .unset] []))
      refine own_go (fun t k => XS.aload X11.here hx rfl (hb hby at_109) rfl rfl k) ?_
      show OwnG p.tables e below _ (T11.setTop (mkF m 111 #[.val (.long ex), .second, .val (.long nw), .second, .val (.long tt), .second, .val (.long ts), .second, .val (.int fl), .val (.int (0 : Int32)), .val .null, .val (.ref b2), .val (.int (0 : Int32)), .val (.int (0 : Int32)), .val (.int (0 : Int32)), .val (.int (1 : Int32)), .val (.long (ex - (1 : Int64))), .second, .unset] [(.ref b2)]))
      refine own_go (fun t k => XS.lload X11.here hx rfl (hb hby at_111) rfl  k) ?_
      show OwnG p.tables e below _ (T11.setTop (mkF m 113 #[.val (.long ex), .second, .val (.long nw), .second, .val (.long tt), .second, .val (.long ts), .second, .val (.int fl), .val (.int (0 : Int32)), .val .null, .val (.ref b2), .val (.int (0 : Int32)), .val (.int (0 : Int32)), .val (.int (0 : Int32)), .val (.int (1 : Int32)), .val (.long (ex - (1 : Int64))), .second, .unset] [(.long (ex - (1 : Int64))), (.ref b2)]))
      obtain ⟨cq15, kq15, q15a, q15b, q15c⟩ := isOf hZ e11 Fq7_0
      obtain ⟨_, _, ⟨T15, L15, k15, n15⟩, -, X15, ⟨Lc15, hQ15, l15, y15, z15⟩, st15⟩ := X11.virtualBack hx (y := (⟨"com/example/keyspace/keyspace/engine/Cell", "isLive", "(J)Z"⟩ : MethodName)) (z := (⟨"com/example/keyspace/keyspace/engine/Cell", "isLive", "(J)Z"⟩ : MethodName)) hown (mvT hZ (hw _ (List.mem_of_getElem? (i := 21) rfl))) (mvT hZ (hw _ (List.mem_of_getElem? (i := 22) rfl))) (notFace_of_selects (args := #[]) (mvT hZ (hw _ (List.mem_of_getElem? (i := 24) rfl)))) (mvT hZ (hw _ (List.mem_of_getElem? (i := 24) rfl))) (mvT hZ (hw _ (List.mem_of_getElem? (i := 23) rfl))) (by decide) (backOf (W := 0) (own_live1 l Z a0 hw [] b2 (ex - (1 : Int64)) ex T7.heap n0 Z7 Fq7_1 Fq7_3) hZ (hw _ (List.mem_of_getElem? (i := 25) rfl)) (hw _ (List.mem_of_getElem? (i := 3) rfl)) (by decide) (by decide)) q15a q15c (g := (mkF m 113 #[.val (.long ex), .second, .val (.long nw), .second, .val (.long tt), .second, .val (.long ts), .second, .val (.int fl), .val (.int (0 : Int32)), .val .null, .val (.ref b2), .val (.int (0 : Int32)), .val (.int (0 : Int32)), .val (.int (0 : Int32)), .val (.int (1 : Int32)), .val (.long (ex - (1 : Int64))), .second, .unset] [(.long (ex - (1 : Int64))), (.ref b2)])) rfl (by rw [hml]; rfl) (Steps.refl _) (argsL := [(.long (ex - (1 : Int64)))]) (rest := []) (lenOf own_pd59 rfl) rfl (by show 2 * 0 + _ ≤ _; exact Nat.le_of_eq rfl) (hb hby at_113) (fun _ _ => ⟨rfl, e11, (by decide : 1 + 0 ≤ _), (by decide : 3 + 0 ≤ _)⟩)
      dsimp only [Pt.U, Pt.locs, Pt.cells, Pt.slots] at X15 l15 y15 z15 st15 hQ15
      subst l15 y15 z15
      obtain ⟨rfl, Nq15, eq15⟩ := hQ15
      have N15 := Fr.app N11 Nq15
      have e15 : T15.heap = T7.heap := eq15
      refine own_go (fun t k => st15.trans k) ?_
      show OwnG p.tables e below _ (T15.setTop (mkF m 116 #[.val (.long ex), .second, .val (.long nw), .second, .val (.long tt), .second, .val (.long ts), .second, .val (.int fl), .val (.int (0 : Int32)), .val .null, .val (.ref b2), .val (.int (0 : Int32)), .val (.int (0 : Int32)), .val (.int (0 : Int32)), .val (.int (1 : Int32)), .val (.long (ex - (1 : Int64))), .second, .unset] [(.int (0 : Int32))]))
      refine own_go (fun t k => XS.goto X15.here hx rfl (pc0 := 116) (pc' := 120) rfl (hb hby at_116) (by decide) (by decide) k) ?_
      show OwnG p.tables e below _ (T15.setTop (mkF m 120 #[.val (.long ex), .second, .val (.long nw), .second, .val (.long tt), .second, .val (.long ts), .second, .val (.int fl), .val (.int (0 : Int32)), .val .null, .val (.ref b2), .val (.int (0 : Int32)), .val (.int (0 : Int32)), .val (.int (0 : Int32)), .val (.int (1 : Int32)), .val (.long (ex - (1 : Int64))), .second, .unset] [(.int (0 : Int32))]))
      refine own_go (fun t k => XS.istore X15.here hx rfl (hb hby at_120) rfl (l' := #[.val (.long ex), .second, .val (.long nw), .second, .val (.long tt), .second, .val (.long ts), .second, .val (.int fl), .val (.int (0 : Int32)), .val .null, .val (.ref b2), .val (.int (0 : Int32)), .val (.int (0 : Int32)), .val (.int (0 : Int32)), .val (.int (1 : Int32)), .val (.long (ex - (1 : Int64))), .second, .val (.int (0 : Int32))]) rfl k) ?_
      show OwnG p.tables e below _ (T15.setTop (mkF m 122 #[.val (.long ex), .second, .val (.long nw), .second, .val (.long tt), .second, .val (.long ts), .second, .val (.int fl), .val (.int (0 : Int32)), .val .null, .val (.ref b2), .val (.int (0 : Int32)), .val (.int (0 : Int32)), .val (.int (0 : Int32)), .val (.int (1 : Int32)), .val (.long (ex - (1 : Int64))), .second, .val (.int (0 : Int32))] []))
      refine own_go (fun t k => XS.iload X15.here hx rfl (hb hby at_122) rfl  k) ?_
      show OwnG p.tables e below _ (T15.setTop (mkF m 124 #[.val (.long ex), .second, .val (.long nw), .second, .val (.long tt), .second, .val (.long ts), .second, .val (.int fl), .val (.int (0 : Int32)), .val .null, .val (.ref b2), .val (.int (0 : Int32)), .val (.int (0 : Int32)), .val (.int (0 : Int32)), .val (.int (1 : Int32)), .val (.long (ex - (1 : Int64))), .second, .val (.int (0 : Int32))] [(.int (0 : Int32))]))
      refine own_go (fun t k => XS.ifNo X15.here hx rfl (hb hby at_124) rfl ((if0 _ _).trans (teq (by decide : (0 : Int32) = (0 : Int32))).2) k) ?_
      show OwnG p.tables e below _ (T15.setTop (mkF m 127 #[.val (.long ex), .second, .val (.long nw), .second, .val (.long tt), .second, .val (.long ts), .second, .val (.int fl), .val (.int (0 : Int32)), .val .null, .val (.ref b2), .val (.int (0 : Int32)), .val (.int (0 : Int32)), .val (.int (0 : Int32)), .val (.int (1 : Int32)), .val (.long (ex - (1 : Int64))), .second, .val (.int (0 : Int32))] []))
      refine own_go (fun t k => XS.iload X15.here hx rfl (hb hby at_127) rfl  k) ?_
      show OwnG p.tables e below _ (T15.setTop (mkF m 129 #[.val (.long ex), .second, .val (.long nw), .second, .val (.long tt), .second, .val (.long ts), .second, .val (.int fl), .val (.int (0 : Int32)), .val .null, .val (.ref b2), .val (.int (0 : Int32)), .val (.int (0 : Int32)), .val (.int (0 : Int32)), .val (.int (1 : Int32)), .val (.long (ex - (1 : Int64))), .second, .val (.int (0 : Int32))] [(.int (0 : Int32))]))
      refine own_go (fun t k => XS.ifNo X15.here hx rfl (hb hby at_129) rfl ((if0 _ _).trans (teq (by decide : (0 : Int32) = (0 : Int32))).2) k) ?_
      show OwnG p.tables e below _ (T15.setTop (mkF m 132 #[.val (.long ex), .second, .val (.long nw), .second, .val (.long tt), .second, .val (.long ts), .second, .val (.int fl), .val (.int (0 : Int32)), .val .null, .val (.ref b2), .val (.int (0 : Int32)), .val (.int (0 : Int32)), .val (.int (0 : Int32)), .val (.int (1 : Int32)), .val (.long (ex - (1 : Int64))), .second, .val (.int (0 : Int32))] []))
      refine own_go (fun t k => XS.iload X15.here hx rfl (hb hby at_132) rfl  k) ?_
      show OwnG p.tables e below _ (T15.setTop (mkF m 134 #[.val (.long ex), .second, .val (.long nw), .second, .val (.long tt), .second, .val (.long ts), .second, .val (.int fl), .val (.int (0 : Int32)), .val .null, .val (.ref b2), .val (.int (0 : Int32)), .val (.int (0 : Int32)), .val (.int (0 : Int32)), .val (.int (1 : Int32)), .val (.long (ex - (1 : Int64))), .second, .val (.int (0 : Int32))] [(.int (0 : Int32))]))
      refine own_go (fun t k => XS.ifNo X15.here hx rfl (hb hby at_134) rfl ((if0 _ _).trans (teq (by decide : (0 : Int32) = (0 : Int32))).2) k) ?_
      show OwnG p.tables e below _ (T15.setTop (mkF m 137 #[.val (.long ex), .second, .val (.long nw), .second, .val (.long tt), .second, .val (.long ts), .second, .val (.int fl), .val (.int (0 : Int32)), .val .null, .val (.ref b2), .val (.int (0 : Int32)), .val (.int (0 : Int32)), .val (.int (0 : Int32)), .val (.int (1 : Int32)), .val (.long (ex - (1 : Int64))), .second, .val (.int (0 : Int32))] []))
      refine own_go (fun t k => XS.iload X15.here hx rfl (hb hby at_137) rfl  k) ?_
      show OwnG p.tables e below _ (T15.setTop (mkF m 139 #[.val (.long ex), .second, .val (.long nw), .second, .val (.long tt), .second, .val (.long ts), .second, .val (.int fl), .val (.int (0 : Int32)), .val .null, .val (.ref b2), .val (.int (0 : Int32)), .val (.int (0 : Int32)), .val (.int (0 : Int32)), .val (.int (1 : Int32)), .val (.long (ex - (1 : Int64))), .second, .val (.int (0 : Int32))] [(.int (0 : Int32))]))
      refine own_go (fun t k => XS.ifYes X15.here hx rfl (pc0 := 139) (pc' := 144) rfl (hb hby at_139) rfl ((if0 _ _).trans (teq (by decide : (0 : Int32) = (0 : Int32))).1) (by decide) (by decide) k) ?_
      show OwnG p.tables e below _ (T15.setTop (mkF m 144 #[.val (.long ex), .second, .val (.long nw), .second, .val (.long tt), .second, .val (.long ts), .second, .val (.int fl), .val (.int (0 : Int32)), .val .null, .val (.ref b2), .val (.int (0 : Int32)), .val (.int (0 : Int32)), .val (.int (0 : Int32)), .val (.int (1 : Int32)), .val (.long (ex - (1 : Int64))), .second, .val (.int (0 : Int32))] []))
      refine own_go (fun t k => XS.iload X15.here hx rfl (hb hby at_144) rfl  k) ?_
      show OwnG p.tables e below _ (T15.setTop (mkF m 146 #[.val (.long ex), .second, .val (.long nw), .second, .val (.long tt), .second, .val (.long ts), .second, .val (.int fl), .val (.int (0 : Int32)), .val .null, .val (.ref b2), .val (.int (0 : Int32)), .val (.int (0 : Int32)), .val (.int (0 : Int32)), .val (.int (1 : Int32)), .val (.long (ex - (1 : Int64))), .second, .val (.int (0 : Int32))] [(.int (0 : Int32))]))
      refine own_go (fun t k => XS.ifYes X15.here hx rfl (pc0 := 146) (pc' := 151) rfl (hb hby at_146) rfl ((if0 _ _).trans (teq (by decide : (0 : Int32) = (0 : Int32))).1) (by decide) (by decide) k) ?_
      show OwnG p.tables e below _ (T15.setTop (mkF m 151 #[.val (.long ex), .second, .val (.long nw), .second, .val (.long tt), .second, .val (.long ts), .second, .val (.int fl), .val (.int (0 : Int32)), .val .null, .val (.ref b2), .val (.int (0 : Int32)), .val (.int (0 : Int32)), .val (.int (0 : Int32)), .val (.int (1 : Int32)), .val (.long (ex - (1 : Int64))), .second, .val (.int (0 : Int32))] []))
      refine own_go (fun t k => XS.iload X15.here hx rfl (hb hby at_151) rfl  k) ?_
      show OwnG p.tables e below _ (T15.setTop (mkF m 153 #[.val (.long ex), .second, .val (.long nw), .second, .val (.long tt), .second, .val (.long ts), .second, .val (.int fl), .val (.int (0 : Int32)), .val .null, .val (.ref b2), .val (.int (0 : Int32)), .val (.int (0 : Int32)), .val (.int (0 : Int32)), .val (.int (1 : Int32)), .val (.long (ex - (1 : Int64))), .second, .val (.int (0 : Int32))] [(.int (0 : Int32))]))
      refine own_go (fun t k => XS.iload X15.here hx rfl (hb hby at_153) rfl  k) ?_
      show OwnG p.tables e below _ (T15.setTop (mkF m 155 #[.val (.long ex), .second, .val (.long nw), .second, .val (.long tt), .second, .val (.long ts), .second, .val (.int fl), .val (.int (0 : Int32)), .val .null, .val (.ref b2), .val (.int (0 : Int32)), .val (.int (0 : Int32)), .val (.int (0 : Int32)), .val (.int (1 : Int32)), .val (.long (ex - (1 : Int64))), .second, .val (.int (0 : Int32))] [(.int (0 : Int32)), (.int (0 : Int32))]))
      refine own_go (fun t k => XS.ifYes X15.here hx rfl (pc0 := 155) (pc' := 167) rfl (hb hby at_155) rfl ((if0 _ _).trans (teq (by decide : (0 : Int32) = (0 : Int32))).1) (by decide) (by decide) k) ?_
      show OwnG p.tables e below _ (T15.setTop (mkF m 167 #[.val (.long ex), .second, .val (.long nw), .second, .val (.long tt), .second, .val (.long ts), .second, .val (.int fl), .val (.int (0 : Int32)), .val .null, .val (.ref b2), .val (.int (0 : Int32)), .val (.int (0 : Int32)), .val (.int (0 : Int32)), .val (.int (1 : Int32)), .val (.long (ex - (1 : Int64))), .second, .val (.int (0 : Int32))] [(.int (0 : Int32))]))
      refine own_go (fun t k => XS.iconst X15.here hx rfl (hb hby at_167) k) ?_
      show OwnG p.tables e below _ (T15.setTop (mkF m 168 #[.val (.long ex), .second, .val (.long nw), .second, .val (.long tt), .second, .val (.long ts), .second, .val (.int fl), .val (.int (0 : Int32)), .val .null, .val (.ref b2), .val (.int (0 : Int32)), .val (.int (0 : Int32)), .val (.int (0 : Int32)), .val (.int (1 : Int32)), .val (.long (ex - (1 : Int64))), .second, .val (.int (0 : Int32))] [(.int (0 : Int32)), (.int (0 : Int32))]))
      refine own_go (fun t k => XS.icmpYes X15.here hx rfl (pc0 := 168) (pc' := 173) rfl (hb hby at_168) rfl (teq (by decide : (0 : Int32) = (0 : Int32))).1 (by decide) (by decide) k) ?_
      show OwnG p.tables e below _ (T15.setTop (mkF m 173 #[.val (.long ex), .second, .val (.long nw), .second, .val (.long tt), .second, .val (.long ts), .second, .val (.int fl), .val (.int (0 : Int32)), .val .null, .val (.ref b2), .val (.int (0 : Int32)), .val (.int (0 : Int32)), .val (.int (0 : Int32)), .val (.int (1 : Int32)), .val (.long (ex - (1 : Int64))), .second, .val (.int (0 : Int32))] []))
      refine own_go (fun t k => XS.lloadN X15.here hx rfl (hb hby at_173) rfl  k) ?_
      show OwnG p.tables e below _ (T15.setTop (mkF m 174 #[.val (.long ex), .second, .val (.long nw), .second, .val (.long tt), .second, .val (.long ts), .second, .val (.int fl), .val (.int (0 : Int32)), .val .null, .val (.ref b2), .val (.int (0 : Int32)), .val (.int (0 : Int32)), .val (.int (0 : Int32)), .val (.int (1 : Int32)), .val (.long (ex - (1 : Int64))), .second, .val (.int (0 : Int32))] [(.long nw)]))
      refine own_go (fun t k => XS.iload X15.here hx rfl (hb hby at_174) rfl  k) ?_
      show OwnG p.tables e below _ (T15.setTop (mkF m 176 #[.val (.long ex), .second, .val (.long nw), .second, .val (.long tt), .second, .val (.long ts), .second, .val (.int fl), .val (.int (0 : Int32)), .val .null, .val (.ref b2), .val (.int (0 : Int32)), .val (.int (0 : Int32)), .val (.int (0 : Int32)), .val (.int (1 : Int32)), .val (.long (ex - (1 : Int64))), .second, .val (.int (0 : Int32))] [(.int (0 : Int32)), (.long nw)]))
      refine own_go (fun t k => XS.lload X15.here hx rfl (hb hby at_176) rfl  k) ?_
      show OwnG p.tables e below _ (T15.setTop (mkF m 178 #[.val (.long ex), .second, .val (.long nw), .second, .val (.long tt), .second, .val (.long ts), .second, .val (.int fl), .val (.int (0 : Int32)), .val .null, .val (.ref b2), .val (.int (0 : Int32)), .val (.int (0 : Int32)), .val (.int (0 : Int32)), .val (.int (1 : Int32)), .val (.long (ex - (1 : Int64))), .second, .val (.int (0 : Int32))] [(.long tt), (.int (0 : Int32)), (.long nw)]))
      refine own_go (fun t k => XS.iload X15.here hx rfl (hb hby at_178) rfl  k) ?_
      show OwnG p.tables e below _ (T15.setTop (mkF m 180 #[.val (.long ex), .second, .val (.long nw), .second, .val (.long tt), .second, .val (.long ts), .second, .val (.int fl), .val (.int (0 : Int32)), .val .null, .val (.ref b2), .val (.int (0 : Int32)), .val (.int (0 : Int32)), .val (.int (0 : Int32)), .val (.int (1 : Int32)), .val (.long (ex - (1 : Int64))), .second, .val (.int (0 : Int32))] [(.int (0 : Int32)), (.long tt), (.int (0 : Int32)), (.long nw)]))
      obtain ⟨_, _, ⟨T16, L16, k16, n16⟩, -, X16, ⟨Lc16, hQ16, l16, y16, z16⟩, st16⟩ := Jvm.LawKit.callS X15 hx (y := (⟨"com/example/keyspace/keyspace/engine/CellIsLivePinLaw", "mono", "(JZJZ)Z"⟩ : MethodName)) hown (mvT hZ (hw _ (List.mem_of_getElem? (i := 27) rfl))) (mvT hZ (hw _ (List.mem_of_getElem? (i := 28) rfl))) (mvT hZ (hw _ (List.mem_of_getElem? (i := 29) rfl))) (mvT hZ (hw _ (List.mem_of_getElem? (i := 30) rfl))) (by decide) (backOf (W := 0) (own_monoC l Z a0 hw [] nw (0 : Int32) tt (0 : Int32) T7.heap n0 Z7) hZ (hw _ (List.mem_of_getElem? (i := 30) rfl)) (hw _ (List.mem_of_getElem? (i := 29) rfl)) (by decide) (by decide)) (g := (mkF m 180 #[.val (.long ex), .second, .val (.long nw), .second, .val (.long tt), .second, .val (.long ts), .second, .val (.int fl), .val (.int (0 : Int32)), .val .null, .val (.ref b2), .val (.int (0 : Int32)), .val (.int (0 : Int32)), .val (.int (0 : Int32)), .val (.int (1 : Int32)), .val (.long (ex - (1 : Int64))), .second, .val (.int (0 : Int32))] [(.int (0 : Int32)), (.long tt), (.int (0 : Int32)), (.long nw)])) rfl (by rw [hml]; rfl) (argsL := [(.long nw), (.int (0 : Int32)), (.long tt), (.int (0 : Int32))]) (rest := []) (lenOf own_pd60 rfl) rfl (by show 2 * 0 + _ ≤ _; exact Nat.le_of_eq rfl) (hb hby at_180) (fun _ _ => ⟨rfl, e15, (by decide : 1 + 0 ≤ _), (by decide : 3 + 0 ≤ _)⟩)
      dsimp only [Pt.U, Pt.locs, Pt.cells, Pt.slots] at X16 l16 y16 z16 st16 hQ16
      subst l16 y16 z16
      obtain ⟨rfl, Nq16, eq16⟩ := hQ16
      have N16 := Fr.app N15 Nq16
      have e16 : T16.heap = T7.heap := eq16
      refine own_go (fun t k => st16 t k) ?_
      show OwnG p.tables e below _ (T16.setTop (mkF m 183 #[.val (.long ex), .second, .val (.long nw), .second, .val (.long tt), .second, .val (.long ts), .second, .val (.int fl), .val (.int (0 : Int32)), .val .null, .val (.ref b2), .val (.int (0 : Int32)), .val (.int (0 : Int32)), .val (.int (0 : Int32)), .val (.int (1 : Int32)), .val (.long (ex - (1 : Int64))), .second, .val (.int (0 : Int32))] [(.int (own_mono nw (0 : Int32) tt (0 : Int32)))]))
      rw [own_mono_0 nw tt]
      show OwnG p.tables e below _ (T16.setTop (mkF m 183 #[.val (.long ex), .second, .val (.long nw), .second, .val (.long tt), .second, .val (.long ts), .second, .val (.int fl), .val (.int (0 : Int32)), .val .null, .val (.ref b2), .val (.int (0 : Int32)), .val (.int (0 : Int32)), .val (.int (0 : Int32)), .val (.int (1 : Int32)), .val (.long (ex - (1 : Int64))), .second, .val (.int (0 : Int32))] [(.int (1 : Int32))]))
      refine own_go (fun t k => XS.ifYes X16.here hx rfl (pc0 := 183) (pc' := 188) rfl (hb hby at_183) rfl ((if0 _ _).trans (feq (by decide : ¬ ((1 : Int32) = (0 : Int32)))).2) (by decide) (by decide) k) ?_
      show OwnG p.tables e below _ (T16.setTop (mkF m 188 #[.val (.long ex), .second, .val (.long nw), .second, .val (.long tt), .second, .val (.long ts), .second, .val (.int fl), .val (.int (0 : Int32)), .val .null, .val (.ref b2), .val (.int (0 : Int32)), .val (.int (0 : Int32)), .val (.int (0 : Int32)), .val (.int (1 : Int32)), .val (.long (ex - (1 : Int64))), .second, .val (.int (0 : Int32))] []))
      refine own_go (fun t k => XS.lloadN X16.here hx rfl (hb hby at_188) rfl  k) ?_
      show OwnG p.tables e below _ (T16.setTop (mkF m 189 #[.val (.long ex), .second, .val (.long nw), .second, .val (.long tt), .second, .val (.long ts), .second, .val (.int fl), .val (.int (0 : Int32)), .val .null, .val (.ref b2), .val (.int (0 : Int32)), .val (.int (0 : Int32)), .val (.int (0 : Int32)), .val (.int (1 : Int32)), .val (.long (ex - (1 : Int64))), .second, .val (.int (0 : Int32))] [(.long nw)]))
      refine own_go (fun t k => XS.iload X16.here hx rfl (hb hby at_189) rfl  k) ?_
      show OwnG p.tables e below _ (T16.setTop (mkF m 191 #[.val (.long ex), .second, .val (.long nw), .second, .val (.long tt), .second, .val (.long ts), .second, .val (.int fl), .val (.int (0 : Int32)), .val .null, .val (.ref b2), .val (.int (0 : Int32)), .val (.int (0 : Int32)), .val (.int (0 : Int32)), .val (.int (1 : Int32)), .val (.long (ex - (1 : Int64))), .second, .val (.int (0 : Int32))] [(.int (0 : Int32)), (.long nw)]))
      refine own_go (fun t k => XS.lloadN X16.here hx rfl (hb hby at_191) rfl  k) ?_
      show OwnG p.tables e below _ (T16.setTop (mkF m 192 #[.val (.long ex), .second, .val (.long nw), .second, .val (.long tt), .second, .val (.long ts), .second, .val (.int fl), .val (.int (0 : Int32)), .val .null, .val (.ref b2), .val (.int (0 : Int32)), .val (.int (0 : Int32)), .val (.int (0 : Int32)), .val (.int (1 : Int32)), .val (.long (ex - (1 : Int64))), .second, .val (.int (0 : Int32))] [(.long ex), (.int (0 : Int32)), (.long nw)]))
      refine own_go (fun t k => XS.iload X16.here hx rfl (hb hby at_192) rfl  k) ?_
      show OwnG p.tables e below _ (T16.setTop (mkF m 194 #[.val (.long ex), .second, .val (.long nw), .second, .val (.long tt), .second, .val (.long ts), .second, .val (.int fl), .val (.int (0 : Int32)), .val .null, .val (.ref b2), .val (.int (0 : Int32)), .val (.int (0 : Int32)), .val (.int (0 : Int32)), .val (.int (1 : Int32)), .val (.long (ex - (1 : Int64))), .second, .val (.int (0 : Int32))] [(.int (0 : Int32)), (.long ex), (.int (0 : Int32)), (.long nw)]))
      obtain ⟨_, _, ⟨T17, L17, k17, n17⟩, -, X17, ⟨Lc17, hQ17, l17, y17, z17⟩, st17⟩ := Jvm.LawKit.callS X16 hx (y := (⟨"com/example/keyspace/keyspace/engine/CellIsLivePinLaw", "mono", "(JZJZ)Z"⟩ : MethodName)) hown (mvT hZ (hw _ (List.mem_of_getElem? (i := 27) rfl))) (mvT hZ (hw _ (List.mem_of_getElem? (i := 28) rfl))) (mvT hZ (hw _ (List.mem_of_getElem? (i := 29) rfl))) (mvT hZ (hw _ (List.mem_of_getElem? (i := 30) rfl))) (by decide) (backOf (W := 0) (own_monoC l Z a0 hw [] nw (0 : Int32) ex (0 : Int32) T7.heap n0 Z7) hZ (hw _ (List.mem_of_getElem? (i := 30) rfl)) (hw _ (List.mem_of_getElem? (i := 29) rfl)) (by decide) (by decide)) (g := (mkF m 194 #[.val (.long ex), .second, .val (.long nw), .second, .val (.long tt), .second, .val (.long ts), .second, .val (.int fl), .val (.int (0 : Int32)), .val .null, .val (.ref b2), .val (.int (0 : Int32)), .val (.int (0 : Int32)), .val (.int (0 : Int32)), .val (.int (1 : Int32)), .val (.long (ex - (1 : Int64))), .second, .val (.int (0 : Int32))] [(.int (0 : Int32)), (.long ex), (.int (0 : Int32)), (.long nw)])) rfl (by rw [hml]; rfl) (argsL := [(.long nw), (.int (0 : Int32)), (.long ex), (.int (0 : Int32))]) (rest := []) (lenOf own_pd60 rfl) rfl (by show 2 * 0 + _ ≤ _; exact Nat.le_of_eq rfl) (hb hby at_194) (fun _ _ => ⟨rfl, e16, (by decide : 1 + 0 ≤ _), (by decide : 3 + 0 ≤ _)⟩)
      dsimp only [Pt.U, Pt.locs, Pt.cells, Pt.slots] at X17 l17 y17 z17 st17 hQ17
      subst l17 y17 z17
      obtain ⟨rfl, Nq17, eq17⟩ := hQ17
      have N17 := Fr.app N16 Nq17
      have e17 : T17.heap = T7.heap := eq17
      refine own_go (fun t k => st17 t k) ?_
      show OwnG p.tables e below _ (T17.setTop (mkF m 197 #[.val (.long ex), .second, .val (.long nw), .second, .val (.long tt), .second, .val (.long ts), .second, .val (.int fl), .val (.int (0 : Int32)), .val .null, .val (.ref b2), .val (.int (0 : Int32)), .val (.int (0 : Int32)), .val (.int (0 : Int32)), .val (.int (1 : Int32)), .val (.long (ex - (1 : Int64))), .second, .val (.int (0 : Int32))] [(.int (own_mono nw (0 : Int32) ex (0 : Int32)))]))
      rw [own_mono_0 nw ex]
      show OwnG p.tables e below _ (T17.setTop (mkF m 197 #[.val (.long ex), .second, .val (.long nw), .second, .val (.long tt), .second, .val (.long ts), .second, .val (.int fl), .val (.int (0 : Int32)), .val .null, .val (.ref b2), .val (.int (0 : Int32)), .val (.int (0 : Int32)), .val (.int (0 : Int32)), .val (.int (1 : Int32)), .val (.long (ex - (1 : Int64))), .second, .val (.int (0 : Int32))] [(.int (1 : Int32))]))
      refine own_go (fun t k => XS.ifYes X17.here hx rfl (pc0 := 197) (pc' := 202) rfl (hb hby at_197) rfl ((if0 _ _).trans (feq (by decide : ¬ ((1 : Int32) = (0 : Int32)))).2) (by decide) (by decide) k) ?_
      show OwnG p.tables e below _ (T17.setTop (mkF m 202 #[.val (.long ex), .second, .val (.long nw), .second, .val (.long tt), .second, .val (.long ts), .second, .val (.int fl), .val (.int (0 : Int32)), .val .null, .val (.ref b2), .val (.int (0 : Int32)), .val (.int (0 : Int32)), .val (.int (0 : Int32)), .val (.int (1 : Int32)), .val (.long (ex - (1 : Int64))), .second, .val (.int (0 : Int32))] []))
      refine own_go (fun t k => XS.iload X17.here hx rfl (hb hby at_202) rfl  k) ?_
      show OwnG p.tables e below _ (T17.setTop (mkF m 204 #[.val (.long ex), .second, .val (.long nw), .second, .val (.long tt), .second, .val (.long ts), .second, .val (.int fl), .val (.int (0 : Int32)), .val .null, .val (.ref b2), .val (.int (0 : Int32)), .val (.int (0 : Int32)), .val (.int (0 : Int32)), .val (.int (1 : Int32)), .val (.long (ex - (1 : Int64))), .second, .val (.int (0 : Int32))] [(.int (1 : Int32))]))
      refine own_go (fun t k => XS.ifNo X17.here hx rfl (hb hby at_204) rfl ((if0 _ _).trans (feq (by decide : ¬ ((1 : Int32) = (0 : Int32)))).1) k) ?_
      show OwnG p.tables e below _ (T17.setTop (mkF m 207 #[.val (.long ex), .second, .val (.long nw), .second, .val (.long tt), .second, .val (.long ts), .second, .val (.int fl), .val (.int (0 : Int32)), .val .null, .val (.ref b2), .val (.int (0 : Int32)), .val (.int (0 : Int32)), .val (.int (0 : Int32)), .val (.int (1 : Int32)), .val (.long (ex - (1 : Int64))), .second, .val (.int (0 : Int32))] []))
      refine own_go (fun t k => XS.lloadN X17.here hx rfl (hb hby at_207) rfl  k) ?_
      show OwnG p.tables e below _ (T17.setTop (mkF m 208 #[.val (.long ex), .second, .val (.long nw), .second, .val (.long tt), .second, .val (.long ts), .second, .val (.int fl), .val (.int (0 : Int32)), .val .null, .val (.ref b2), .val (.int (0 : Int32)), .val (.int (0 : Int32)), .val (.int (0 : Int32)), .val (.int (1 : Int32)), .val (.long (ex - (1 : Int64))), .second, .val (.int (0 : Int32))] [(.long nw)]))
      refine own_go (fun t k => XS.iload X17.here hx rfl (hb hby at_208) rfl  k) ?_
      show OwnG p.tables e below _ (T17.setTop (mkF m 210 #[.val (.long ex), .second, .val (.long nw), .second, .val (.long tt), .second, .val (.long ts), .second, .val (.int fl), .val (.int (0 : Int32)), .val .null, .val (.ref b2), .val (.int (0 : Int32)), .val (.int (0 : Int32)), .val (.int (0 : Int32)), .val (.int (1 : Int32)), .val (.long (ex - (1 : Int64))), .second, .val (.int (0 : Int32))] [(.int (0 : Int32)), (.long nw)]))
      refine own_go (fun t k => XS.lload X17.here hx rfl (hb hby at_210) rfl  k) ?_
      show OwnG p.tables e below _ (T17.setTop (mkF m 212 #[.val (.long ex), .second, .val (.long nw), .second, .val (.long tt), .second, .val (.long ts), .second, .val (.int fl), .val (.int (0 : Int32)), .val .null, .val (.ref b2), .val (.int (0 : Int32)), .val (.int (0 : Int32)), .val (.int (0 : Int32)), .val (.int (1 : Int32)), .val (.long (ex - (1 : Int64))), .second, .val (.int (0 : Int32))] [(.long (ex - (1 : Int64))), (.int (0 : Int32)), (.long nw)]))
      refine own_go (fun t k => XS.iload X17.here hx rfl (hb hby at_212) rfl  k) ?_
      show OwnG p.tables e below _ (T17.setTop (mkF m 214 #[.val (.long ex), .second, .val (.long nw), .second, .val (.long tt), .second, .val (.long ts), .second, .val (.int fl), .val (.int (0 : Int32)), .val .null, .val (.ref b2), .val (.int (0 : Int32)), .val (.int (0 : Int32)), .val (.int (0 : Int32)), .val (.int (1 : Int32)), .val (.long (ex - (1 : Int64))), .second, .val (.int (0 : Int32))] [(.int (0 : Int32)), (.long (ex - (1 : Int64))), (.int (0 : Int32)), (.long nw)]))
      obtain ⟨_, _, ⟨T18, L18, k18, n18⟩, -, X18, ⟨Lc18, hQ18, l18, y18, z18⟩, st18⟩ := Jvm.LawKit.callS X17 hx (y := (⟨"com/example/keyspace/keyspace/engine/CellIsLivePinLaw", "mono", "(JZJZ)Z"⟩ : MethodName)) hown (mvT hZ (hw _ (List.mem_of_getElem? (i := 27) rfl))) (mvT hZ (hw _ (List.mem_of_getElem? (i := 28) rfl))) (mvT hZ (hw _ (List.mem_of_getElem? (i := 29) rfl))) (mvT hZ (hw _ (List.mem_of_getElem? (i := 30) rfl))) (by decide) (backOf (W := 0) (own_monoC l Z a0 hw [] nw (0 : Int32) (ex - (1 : Int64)) (0 : Int32) T7.heap n0 Z7) hZ (hw _ (List.mem_of_getElem? (i := 30) rfl)) (hw _ (List.mem_of_getElem? (i := 29) rfl)) (by decide) (by decide)) (g := (mkF m 214 #[.val (.long ex), .second, .val (.long nw), .second, .val (.long tt), .second, .val (.long ts), .second, .val (.int fl), .val (.int (0 : Int32)), .val .null, .val (.ref b2), .val (.int (0 : Int32)), .val (.int (0 : Int32)), .val (.int (0 : Int32)), .val (.int (1 : Int32)), .val (.long (ex - (1 : Int64))), .second, .val (.int (0 : Int32))] [(.int (0 : Int32)), (.long (ex - (1 : Int64))), (.int (0 : Int32)), (.long nw)])) rfl (by rw [hml]; rfl) (argsL := [(.long nw), (.int (0 : Int32)), (.long (ex - (1 : Int64))), (.int (0 : Int32))]) (rest := []) (lenOf own_pd60 rfl) rfl (by show 2 * 0 + _ ≤ _; exact Nat.le_of_eq rfl) (hb hby at_214) (fun _ _ => ⟨rfl, e17, (by decide : 1 + 0 ≤ _), (by decide : 3 + 0 ≤ _)⟩)
      dsimp only [Pt.U, Pt.locs, Pt.cells, Pt.slots] at X18 l18 y18 z18 st18 hQ18
      subst l18 y18 z18
      obtain ⟨rfl, Nq18, eq18⟩ := hQ18
      have N18 := Fr.app N17 Nq18
      have e18 : T18.heap = T7.heap := eq18
      refine own_go (fun t k => st18 t k) ?_
      show OwnG p.tables e below _ (T18.setTop (mkF m 217 #[.val (.long ex), .second, .val (.long nw), .second, .val (.long tt), .second, .val (.long ts), .second, .val (.int fl), .val (.int (0 : Int32)), .val .null, .val (.ref b2), .val (.int (0 : Int32)), .val (.int (0 : Int32)), .val (.int (0 : Int32)), .val (.int (1 : Int32)), .val (.long (ex - (1 : Int64))), .second, .val (.int (0 : Int32))] [(.int (own_mono nw (0 : Int32) (ex - (1 : Int64)) (0 : Int32)))]))
      rw [own_mono_0 nw _]
      show OwnG p.tables e below _ (T18.setTop (mkF m 217 #[.val (.long ex), .second, .val (.long nw), .second, .val (.long tt), .second, .val (.long ts), .second, .val (.int fl), .val (.int (0 : Int32)), .val .null, .val (.ref b2), .val (.int (0 : Int32)), .val (.int (0 : Int32)), .val (.int (0 : Int32)), .val (.int (1 : Int32)), .val (.long (ex - (1 : Int64))), .second, .val (.int (0 : Int32))] [(.int (1 : Int32))]))
      refine own_go (fun t k => XS.ifYes X18.here hx rfl (pc0 := 217) (pc' := 222) rfl (hb hby at_217) rfl ((if0 _ _).trans (feq (by decide : ¬ ((1 : Int32) = (0 : Int32)))).2) (by decide) (by decide) k) ?_
      show OwnG p.tables e below _ (T18.setTop (mkF m 222 #[.val (.long ex), .second, .val (.long nw), .second, .val (.long tt), .second, .val (.long ts), .second, .val (.int fl), .val (.int (0 : Int32)), .val .null, .val (.ref b2), .val (.int (0 : Int32)), .val (.int (0 : Int32)), .val (.int (0 : Int32)), .val (.int (1 : Int32)), .val (.long (ex - (1 : Int64))), .second, .val (.int (0 : Int32))] []))
      refine own_go (fun t k => XS.iconst X18.here hx rfl (hb hby at_222) k) ?_
      show OwnG p.tables e below _ (T18.setTop (mkF m 223 #[.val (.long ex), .second, .val (.long nw), .second, .val (.long tt), .second, .val (.long ts), .second, .val (.int fl), .val (.int (0 : Int32)), .val .null, .val (.ref b2), .val (.int (0 : Int32)), .val (.int (0 : Int32)), .val (.int (0 : Int32)), .val (.int (1 : Int32)), .val (.long (ex - (1 : Int64))), .second, .val (.int (0 : Int32))] [(.int (1 : Int32))]))
      obtain ⟨fs, hr, hrun, hended, hW, hsame⟩ := X18.leave (v := some (.int (1 : Int32))) (fun h => by rw [Bd.returns] at h; cases h)
      refine ⟨_, _, retN X18 hx (t := .boolean) Bd.returns (by simp) (hb hby at_223) hr, hrun, hended, _, _, rfl, ?_, ⟨_, rfl⟩, hW, hsame.mono (by decide) (by decide)⟩
      show Q_own_law Z ex nw tt ts fl h0 n0 _ T18.heap _
      rw [e18]
      exact ⟨rfl, N18⟩
  · refine own_go (fun t k => XS.ifNo X0.here hx rfl (hb hby at_4) rfl ((if0 _ _).trans (feq hc1).1) k) ?_
    show OwnG p.tables e below _ (s₁.setTop (mkF m 7 #[.val (.long ex), .second, .val (.long nw), .second, .val (.long tt), .second, .val (.long ts), .second, .val (.int fl), .unset, .unset, .unset, .unset, .unset, .unset, .unset, .unset, .unset, .unset] []))
    refine own_go (fun t k => XS.iconst X0.here hx rfl (hb hby at_7) k) ?_
    show OwnG p.tables e below _ (s₁.setTop (mkF m 8 #[.val (.long ex), .second, .val (.long nw), .second, .val (.long tt), .second, .val (.long ts), .second, .val (.int fl), .unset, .unset, .unset, .unset, .unset, .unset, .unset, .unset, .unset, .unset] [(.int (1 : Int32))]))
    refine own_go (fun t k => XS.goto X0.here hx rfl (pc0 := 8) (pc' := 12) rfl (hb hby at_8) (by decide) (by decide) k) ?_
    show OwnG p.tables e below _ (s₁.setTop (mkF m 12 #[.val (.long ex), .second, .val (.long nw), .second, .val (.long tt), .second, .val (.long ts), .second, .val (.int fl), .unset, .unset, .unset, .unset, .unset, .unset, .unset, .unset, .unset, .unset] [(.int (1 : Int32))]))
    refine own_go (fun t k => XS.istore X0.here hx rfl (hb hby at_12) rfl (l' := #[.val (.long ex), .second, .val (.long nw), .second, .val (.long tt), .second, .val (.long ts), .second, .val (.int fl), .val (.int (1 : Int32)), .unset, .unset, .unset, .unset, .unset, .unset, .unset, .unset, .unset]) rfl k) ?_
    show OwnG p.tables e below _ (s₁.setTop (mkF m 14 #[.val (.long ex), .second, .val (.long nw), .second, .val (.long tt), .second, .val (.long ts), .second, .val (.int fl), .val (.int (1 : Int32)), .unset, .unset, .unset, .unset, .unset, .unset, .unset, .unset, .unset] []))
    refine own_go (fun t k => XS.aconstNull X0.here hx rfl (hb hby at_14) k) ?_
    show OwnG p.tables e below _ (s₁.setTop (mkF m 15 #[.val (.long ex), .second, .val (.long nw), .second, .val (.long tt), .second, .val (.long ts), .second, .val (.int fl), .val (.int (1 : Int32)), .unset, .unset, .unset, .unset, .unset, .unset, .unset, .unset, .unset] [.null]))
    refine own_go (fun t k => XS.astore X0.here hx rfl (hb hby at_15) rfl rfl (l' := #[.val (.long ex), .second, .val (.long nw), .second, .val (.long tt), .second, .val (.long ts), .second, .val (.int fl), .val (.int (1 : Int32)), .val .null, .unset, .unset, .unset, .unset, .unset, .unset, .unset, .unset]) rfl k) ?_
    show OwnG p.tables e below _ (s₁.setTop (mkF m 17 #[.val (.long ex), .second, .val (.long nw), .second, .val (.long tt), .second, .val (.long ts), .second, .val (.int fl), .val (.int (1 : Int32)), .val .null, .unset, .unset, .unset, .unset, .unset, .unset, .unset, .unset] []))
    refine own_go (fun t k => XS.iload X0.here hx rfl (hb hby at_17) rfl  k) ?_
    show OwnG p.tables e below _ (s₁.setTop (mkF m 19 #[.val (.long ex), .second, .val (.long nw), .second, .val (.long tt), .second, .val (.long ts), .second, .val (.int fl), .val (.int (1 : Int32)), .val .null, .unset, .unset, .unset, .unset, .unset, .unset, .unset, .unset] [(.int (1 : Int32))]))
    refine own_go (fun t k => XS.ifNo X0.here hx rfl (hb hby at_19) rfl ((if0 _ _).trans (feq (by decide : ¬ ((1 : Int32) = (0 : Int32)))).1) k) ?_
    show OwnG p.tables e below _ (s₁.setTop (mkF m 22 #[.val (.long ex), .second, .val (.long nw), .second, .val (.long tt), .second, .val (.long ts), .second, .val (.int fl), .val (.int (1 : Int32)), .val .null, .unset, .unset, .unset, .unset, .unset, .unset, .unset, .unset] []))
    refine own_go (fun t k => XS.iconst X0.here hx rfl (hb hby at_22) k) ?_
    show OwnG p.tables e below _ (s₁.setTop (mkF m 23 #[.val (.long ex), .second, .val (.long nw), .second, .val (.long tt), .second, .val (.long ts), .second, .val (.int fl), .val (.int (1 : Int32)), .val .null, .unset, .unset, .unset, .unset, .unset, .unset, .unset, .unset] [(.int (1 : Int32))]))
    obtain ⟨T19, h19, k19, X19, e19, E19, A19, st19⟩ := newP X0 hx hZ (hw _ (List.mem_of_getElem? (i := 0) rfl)) e0 (g := (mkF m 23 #[.val (.long ex), .second, .val (.long nw), .second, .val (.long tt), .second, .val (.long ts), .second, .val (.int fl), .val (.int (1 : Int32)), .val .null, .unset, .unset, .unset, .unset, .unset, .unset, .unset, .unset] [(.int (1 : Int32))])) rfl (hb hby at_23) rfl (by decide) (cap := 1) (by decide) (by decide) (by decide) (by decide)
    obtain ⟨b19, g19⟩ : ∃ z, z = h0.size := ⟨_, rfl⟩
    rw [← g19] at A19 st19
    have g_b19 : n0 ≤ b19 := Nat.le_trans Z0 (Nat.le_of_eq g19.symm)
    have sz_b19 : h0.size ≤ b19 := Nat.le_trans K0.1 (Nat.le_of_eq g19.symm)
    have K20 : Keep h0 h19 [] := K0.ext E19
    have Z20 : n0 ≤ h19.size := Nat.le_trans Z0 E19.1
    have F21 : Arv Z h19 b19 k19 .byte (1 : Int32) [(.int (0 : Int32))] (.int (0 : Int32)) := (Arv.new A19 (by decide)).pad (pad_rep [] (.int (0 : Int32)) 1)
    refine own_go (fun t k => st19 t k) ?_
    show OwnG p.tables e below _ (T19.setTop (mkF m 25 #[.val (.long ex), .second, .val (.long nw), .second, .val (.long tt), .second, .val (.long ts), .second, .val (.int fl), .val (.int (1 : Int32)), .val .null, .unset, .unset, .unset, .unset, .unset, .unset, .unset, .unset] [(.ref b19)]))
    refine own_go (fun t k => XS.astore X19.here hx rfl (hb hby at_25) rfl rfl (l' := #[.val (.long ex), .second, .val (.long nw), .second, .val (.long tt), .second, .val (.long ts), .second, .val (.int fl), .val (.int (1 : Int32)), .val (.ref b19), .unset, .unset, .unset, .unset, .unset, .unset, .unset, .unset]) rfl k) ?_
    show OwnG p.tables e below _ (T19.setTop (mkF m 27 #[.val (.long ex), .second, .val (.long nw), .second, .val (.long tt), .second, .val (.long ts), .second, .val (.int fl), .val (.int (1 : Int32)), .val (.ref b19), .unset, .unset, .unset, .unset, .unset, .unset, .unset, .unset] []))
    refine own_go (fun t k => XS.aload X19.here hx rfl (hb hby at_27) rfl rfl k) ?_
    show OwnG p.tables e below _ (T19.setTop (mkF m 29 #[.val (.long ex), .second, .val (.long nw), .second, .val (.long tt), .second, .val (.long ts), .second, .val (.int fl), .val (.int (1 : Int32)), .val (.ref b19), .unset, .unset, .unset, .unset, .unset, .unset, .unset, .unset] [(.ref b19)]))
    refine own_go (fun t k => XS.iconst X19.here hx rfl (hb hby at_29) k) ?_
    show OwnG p.tables e below _ (T19.setTop (mkF m 30 #[.val (.long ex), .second, .val (.long nw), .second, .val (.long tt), .second, .val (.long ts), .second, .val (.int fl), .val (.int (1 : Int32)), .val (.ref b19), .unset, .unset, .unset, .unset, .unset, .unset, .unset, .unset] [(.int (0 : Int32)), (.ref b19)]))
    refine own_go (fun t k => XS.iload X19.here hx rfl (hb hby at_30) rfl  k) ?_
    show OwnG p.tables e below _ (T19.setTop (mkF m 32 #[.val (.long ex), .second, .val (.long nw), .second, .val (.long tt), .second, .val (.long ts), .second, .val (.int fl), .val (.int (1 : Int32)), .val (.ref b19), .unset, .unset, .unset, .unset, .unset, .unset, .unset, .unset] [(.int fl), (.int (0 : Int32)), (.ref b19)]))
    refine own_go (fun t k => XS.iconst X19.here hx rfl (hb hby at_32) k) ?_
    show OwnG p.tables e below _ (T19.setTop (mkF m 33 #[.val (.long ex), .second, .val (.long nw), .second, .val (.long tt), .second, .val (.long ts), .second, .val (.int fl), .val (.int (1 : Int32)), .val (.ref b19), .unset, .unset, .unset, .unset, .unset, .unset, .unset, .unset] [(.int (1 : Int32)), (.int fl), (.int (0 : Int32)), (.ref b19)]))
    refine own_go (fun t k => XS.ishr X19.here hx rfl (hb hby at_33) rfl k) ?_
    show OwnG p.tables e below _ (T19.setTop (mkF m 34 #[.val (.long ex), .second, .val (.long nw), .second, .val (.long tt), .second, .val (.long ts), .second, .val (.int fl), .val (.int (1 : Int32)), .val (.ref b19), .unset, .unset, .unset, .unset, .unset, .unset, .unset, .unset] [(.int (fl >>> ((1 : Int32) &&& 31))), (.int (0 : Int32)), (.ref b19)]))
    refine own_go (fun t k => XS.i2b X19.here hx rfl (hb hby at_34) rfl k) ?_
    show OwnG p.tables e below _ (T19.setTop (mkF m 35 #[.val (.long ex), .second, .val (.long nw), .second, .val (.long tt), .second, .val (.long ts), .second, .val (.int fl), .val (.int (1 : Int32)), .val (.ref b19), .unset, .unset, .unset, .unset, .unset, .unset, .unset, .unset] [(.int ((fl >>> ((1 : Int32) &&& 31)).toInt8.toInt32)), (.int (0 : Int32)), (.ref b19)]))
    obtain ⟨cl22, Ar22, qk22, Sz22, Nn22, Hs22, Gs22⟩ := F21
    have hin22 : ¬ ((0 : Int32) < 0 ∨ cl22.slots.size ≤ ((0 : Int32)).toNatClampNeg) := inb_of Sz22 ⟨by decide, by decide⟩
    obtain ⟨T22, h22, X22, e22, W22, st22⟩ := stB X19 hx hZ e19 Ar22 (j := (0 : Int32)) hin22 (g := (mkF m 35 #[.val (.long ex), .second, .val (.long nw), .second, .val (.long tt), .second, .val (.long ts), .second, .val (.int fl), .val (.int (1 : Int32)), .val (.ref b19), .unset, .unset, .unset, .unset, .unset, .unset, .unset, .unset] [(.int ((fl >>> ((1 : Int32) &&& 31)).toInt8.toInt32)), (.int (0 : Int32)), (.ref b19)])) rfl rfl (hb hby at_35)
    have N23 := Fr.snoc X22 N0 g_b19
    have K23 : Keep h0 h22 [] := K20.wr W22 (Or.inr sz_b19)
    have Z23 : n0 ≤ h22.size := Nat.le_trans Z20 (Keep.of_wr W22).1
    refine own_go (fun t k => st22 t k) ?_
    show OwnG p.tables e below _ (T22.setTop (mkF m 36 #[.val (.long ex), .second, .val (.long nw), .second, .val (.long tt), .second, .val (.long ts), .second, .val (.int fl), .val (.int (1 : Int32)), .val (.ref b19), .unset, .unset, .unset, .unset, .unset, .unset, .unset, .unset] []))
    obtain ⟨T24, h24, X24, e24, E24, A24, D24, -, st24⟩ := newO X22 hx hZ hown (hw _ (List.mem_of_getElem? (i := 1) rfl)) (hw _ (List.mem_of_getElem? (i := 2) rfl)) (hw _ (List.mem_of_getElem? (i := 3) rfl)) e22 (g := (mkF m 36 #[.val (.long ex), .second, .val (.long nw), .second, .val (.long tt), .second, .val (.long ts), .second, .val (.int fl), .val (.int (1 : Int32)), .val (.ref b19), .unset, .unset, .unset, .unset, .unset, .unset, .unset, .unset] [])) rfl (hb hby at_36) (by decide) (by decide)
    obtain ⟨b24, g24⟩ : ∃ z, z = h22.size := ⟨_, rfl⟩
    rw [← g24] at A24 D24 st24
    have g_b24 : n0 ≤ b24 := Nat.le_trans Z23 (Nat.le_of_eq g24.symm)
    have sz_b24 : h0.size ≤ b24 := Nat.le_trans K23.1 (Nat.le_of_eq g24.symm)
    have K25 : Keep h0 h24 [] := K23.ext E24
    have Z25 : n0 ≤ h24.size := Nat.le_trans Z23 E24.1
    have F26 : Fld Z h24 b24 "com/example/keyspace/keyspace/engine/Cell" "value" "[B" .null := D24 (Or.inr (hw _ (List.mem_of_getElem? (i := 16) rfl))) (ty := (.array .byte)) (by decide)
    have F27 : Fld Z h24 b24 "com/example/keyspace/keyspace/engine/Cell" "timestamp" "J" (.long (0 : Int64)) := D24 (Or.inr (hw _ (List.mem_of_getElem? (i := 18) rfl))) (ty := .long) (by decide)
    have F28 : Fld Z h24 b24 "com/example/keyspace/keyspace/engine/Cell" "expiry" "J" (.long (0 : Int64)) := D24 (Or.inr (hw _ (List.mem_of_getElem? (i := 20) rfl))) (ty := .long) (by decide)
    refine own_go (fun t k => st24 t k) ?_
    show OwnG p.tables e below _ (T24.setTop (mkF m 39 #[.val (.long ex), .second, .val (.long nw), .second, .val (.long tt), .second, .val (.long ts), .second, .val (.int fl), .val (.int (1 : Int32)), .val (.ref b19), .unset, .unset, .unset, .unset, .unset, .unset, .unset, .unset] [(.ref b24)]))
    refine own_go (fun t k => XS.dup X24.here hx rfl (hb hby at_39) rfl rfl k) ?_
    show OwnG p.tables e below _ (T24.setTop (mkF m 40 #[.val (.long ex), .second, .val (.long nw), .second, .val (.long tt), .second, .val (.long ts), .second, .val (.int fl), .val (.int (1 : Int32)), .val (.ref b19), .unset, .unset, .unset, .unset, .unset, .unset, .unset, .unset] [(.ref b24), (.ref b24)]))
    refine own_go (fun t k => XS.aload X24.here hx rfl (hb hby at_40) rfl rfl k) ?_
    show OwnG p.tables e below _ (T24.setTop (mkF m 42 #[.val (.long ex), .second, .val (.long nw), .second, .val (.long tt), .second, .val (.long ts), .second, .val (.int fl), .val (.int (1 : Int32)), .val (.ref b19), .unset, .unset, .unset, .unset, .unset, .unset, .unset, .unset] [(.ref b19), (.ref b24), (.ref b24)]))
    refine own_go (fun t k => XS.lload X24.here hx rfl (hb hby at_42) rfl  k) ?_
    show OwnG p.tables e below _ (T24.setTop (mkF m 44 #[.val (.long ex), .second, .val (.long nw), .second, .val (.long tt), .second, .val (.long ts), .second, .val (.int fl), .val (.int (1 : Int32)), .val (.ref b19), .unset, .unset, .unset, .unset, .unset, .unset, .unset, .unset] [(.long ts), (.ref b19), (.ref b24), (.ref b24)]))
    refine own_go (fun t k => XS.lloadN X24.here hx rfl (hb hby at_44) rfl  k) ?_
    show OwnG p.tables e below _ (T24.setTop (mkF m 45 #[.val (.long ex), .second, .val (.long nw), .second, .val (.long tt), .second, .val (.long ts), .second, .val (.int fl), .val (.int (1 : Int32)), .val (.ref b19), .unset, .unset, .unset, .unset, .unset, .unset, .unset, .unset] [(.long ex), (.long ts), (.ref b19), (.ref b24), (.ref b24)]))
    obtain ⟨_, _, ⟨T29, L29, k29, n29⟩, -, X29, ⟨Lc29, hQ29, l29, y29, z29⟩, st29⟩ := X24.specialBack hx (y := (⟨"com/example/keyspace/keyspace/engine/Cell", "<init>", "([BJJ)V"⟩ : MethodName)) rfl hown (mvT hZ (hw _ (List.mem_of_getElem? (i := 4) rfl))) (mvT hZ (hw _ (List.mem_of_getElem? (i := 5) rfl))) (mvT hZ (hw _ (List.mem_of_getElem? (i := 6) rfl))) (by decide) (backOf (W := 1) (own_init0 l Z a0 hw [] b24 b19 ts ex h24 n0 Z25 A24 F26 F27 F28 g_b24) hZ (hw _ (List.mem_of_getElem? (i := 6) rfl)) (hw _ (List.mem_of_getElem? (i := 3) rfl)) (by decide) (by decide)) (g := (mkF m 45 #[.val (.long ex), .second, .val (.long nw), .second, .val (.long tt), .second, .val (.long ts), .second, .val (.int fl), .val (.int (1 : Int32)), .val (.ref b19), .unset, .unset, .unset, .unset, .unset, .unset, .unset, .unset] [(.long ex), (.long ts), (.ref b19), (.ref b24), (.ref b24)])) rfl (by rw [hml]; rfl) (Steps.refl _) (a := b24) (argsL := [(.ref b19), (.long ts), (.long ex)]) (rest := [(.ref b24)]) (lenOf own_pd58 rfl) rfl (by show 2 * 0 + _ ≤ _; exact Nat.le_of_eq rfl) (hb hby at_45) (fun _ _ => ⟨rfl, e24, (by decide : 2 + 0 ≤ _), (by decide : 4 + 0 ≤ _)⟩)
    dsimp only [Pt.U, Pt.locs, Pt.cells, Pt.slots] at X29 l29 y29 z29 st29 hQ29
    subst l29 y29 z29
    obtain ⟨rfl, Nq29, Kq29, Fq29_0, Fq29_1, Fq29_2, Fq29_3⟩ := hQ29
    have N29 := Fr.app N23 Nq29
    have F30 : Exa Z T29.heap b24 "com/example/keyspace/keyspace/engine/Cell" := A24.keep Kq29
    have K29 : Keep h0 T29.heap [] := K25.trans Kq29 (allS (Or.inr sz_b24) all0)
    have Z29 : n0 ≤ T29.heap.size := Nat.le_trans Z25 Kq29.1
    refine own_go (fun t k => st29.trans k) ?_
    show OwnG p.tables e below _ (T29.setTop (mkF m 48 #[.val (.long ex), .second, .val (.long nw), .second, .val (.long tt), .second, .val (.long ts), .second, .val (.int fl), .val (.int (1 : Int32)), .val (.ref b19), .unset, .unset, .unset, .unset, .unset, .unset, .unset, .unset] [(.ref b24)]))
    refine own_go (fun t k => XS.astore X29.here hx rfl (hb hby at_48) rfl rfl (l' := #[.val (.long ex), .second, .val (.long nw), .second, .val (.long tt), .second, .val (.long ts), .second, .val (.int fl), .val (.int (1 : Int32)), .val (.ref b19), .val (.ref b24), .unset, .unset, .unset, .unset, .unset, .unset, .unset]) rfl k) ?_
    show OwnG p.tables e below _ (T29.setTop (mkF m 50 #[.val (.long ex), .second, .val (.long nw), .second, .val (.long tt), .second, .val (.long ts), .second, .val (.int fl), .val (.int (1 : Int32)), .val (.ref b19), .val (.ref b24), .unset, .unset, .unset, .unset, .unset, .unset, .unset] []))
    refine own_go (fun t k => XS.aload X29.here hx rfl (hb hby at_50) rfl rfl k) ?_
    show OwnG p.tables e below _ (T29.setTop (mkF m 52 #[.val (.long ex), .second, .val (.long nw), .second, .val (.long tt), .second, .val (.long ts), .second, .val (.int fl), .val (.int (1 : Int32)), .val (.ref b19), .val (.ref b24), .unset, .unset, .unset, .unset, .unset, .unset, .unset] [(.ref b24)]))
    refine own_go (fun t k => XS.lloadN X29.here hx rfl (hb hby at_52) rfl  k) ?_
    show OwnG p.tables e below _ (T29.setTop (mkF m 53 #[.val (.long ex), .second, .val (.long nw), .second, .val (.long tt), .second, .val (.long ts), .second, .val (.int fl), .val (.int (1 : Int32)), .val (.ref b19), .val (.ref b24), .unset, .unset, .unset, .unset, .unset, .unset, .unset] [(.long nw), (.ref b24)]))
    obtain ⟨cq31, kq31, q31a, q31b, q31c⟩ := isOf hZ rfl Fq29_0
    obtain ⟨_, _, ⟨T31, L31, k31, n31⟩, -, X31, ⟨Lc31, hQ31, l31, y31, z31⟩, st31⟩ := X29.virtualBack hx (y := (⟨"com/example/keyspace/keyspace/engine/Cell", "isLive", "(J)Z"⟩ : MethodName)) (z := (⟨"com/example/keyspace/keyspace/engine/Cell", "isLive", "(J)Z"⟩ : MethodName)) hown (mvT hZ (hw _ (List.mem_of_getElem? (i := 21) rfl))) (mvT hZ (hw _ (List.mem_of_getElem? (i := 22) rfl))) (notFace_of_selects (args := #[]) (mvT hZ (hw _ (List.mem_of_getElem? (i := 24) rfl)))) (mvT hZ (hw _ (List.mem_of_getElem? (i := 24) rfl))) (mvT hZ (hw _ (List.mem_of_getElem? (i := 23) rfl))) (by decide) (backOf (W := 0) (own_live0 l Z a0 hw [] b24 nw b19 ex T29.heap n0 Z29 Fq29_1 Fq29_3) hZ (hw _ (List.mem_of_getElem? (i := 25) rfl)) (hw _ (List.mem_of_getElem? (i := 3) rfl)) (by decide) (by decide)) q31a q31c (g := (mkF m 53 #[.val (.long ex), .second, .val (.long nw), .second, .val (.long tt), .second, .val (.long ts), .second, .val (.int fl), .val (.int (1 : Int32)), .val (.ref b19), .val (.ref b24), .unset, .unset, .unset, .unset, .unset, .unset, .unset] [(.long nw), (.ref b24)])) rfl (by rw [hml]; rfl) (Steps.refl _) (argsL := [(.long nw)]) (rest := []) (lenOf own_pd59 rfl) rfl (by show 2 * 0 + _ ≤ _; exact Nat.le_of_eq rfl) (hb hby at_53) (fun _ _ => ⟨rfl, rfl, (by decide : 2 + 0 ≤ _), (by decide : 4 + 0 ≤ _)⟩)
    dsimp only [Pt.U, Pt.locs, Pt.cells, Pt.slots] at X31 l31 y31 z31 st31 hQ31
    subst l31 y31 z31
    obtain ⟨rfl, Nq31, eq31⟩ := hQ31
    have N31 := Fr.app N29 Nq31
    have e31 : T31.heap = T29.heap := eq31
    refine own_go (fun t k => st31.trans k) ?_
    show OwnG p.tables e below _ (T31.setTop (mkF m 56 #[.val (.long ex), .second, .val (.long nw), .second, .val (.long tt), .second, .val (.long ts), .second, .val (.int fl), .val (.int (1 : Int32)), .val (.ref b19), .val (.ref b24), .unset, .unset, .unset, .unset, .unset, .unset, .unset] [(.int (own_lt nw ex))]))
    refine own_go (fun t k => XS.istore X31.here hx rfl (hb hby at_56) rfl (l' := #[.val (.long ex), .second, .val (.long nw), .second, .val (.long tt), .second, .val (.long ts), .second, .val (.int fl), .val (.int (1 : Int32)), .val (.ref b19), .val (.ref b24), .val (.int (own_lt nw ex)), .unset, .unset, .unset, .unset, .unset, .unset]) rfl k) ?_
    show OwnG p.tables e below _ (T31.setTop (mkF m 58 #[.val (.long ex), .second, .val (.long nw), .second, .val (.long tt), .second, .val (.long ts), .second, .val (.int fl), .val (.int (1 : Int32)), .val (.ref b19), .val (.ref b24), .val (.int (own_lt nw ex)), .unset, .unset, .unset, .unset, .unset, .unset] []))
    refine own_go (fun t k => XS.aload X31.here hx rfl (hb hby at_58) rfl rfl k) ?_
    show OwnG p.tables e below _ (T31.setTop (mkF m 60 #[.val (.long ex), .second, .val (.long nw), .second, .val (.long tt), .second, .val (.long ts), .second, .val (.int fl), .val (.int (1 : Int32)), .val (.ref b19), .val (.ref b24), .val (.int (own_lt nw ex)), .unset, .unset, .unset, .unset, .unset, .unset] [(.ref b24)]))
    refine own_go (fun t k => XS.lload X31.here hx rfl (hb hby at_60) rfl  k) ?_
    show OwnG p.tables e below _ (T31.setTop (mkF m 62 #[.val (.long ex), .second, .val (.long nw), .second, .val (.long tt), .second, .val (.long ts), .second, .val (.int fl), .val (.int (1 : Int32)), .val (.ref b19), .val (.ref b24), .val (.int (own_lt nw ex)), .unset, .unset, .unset, .unset, .unset, .unset] [(.long tt), (.ref b24)]))
    obtain ⟨cq32, kq32, q32a, q32b, q32c⟩ := isOf hZ e31 Fq29_0
    obtain ⟨_, _, ⟨T32, L32, k32, n32⟩, -, X32, ⟨Lc32, hQ32, l32, y32, z32⟩, st32⟩ := X31.virtualBack hx (y := (⟨"com/example/keyspace/keyspace/engine/Cell", "isLive", "(J)Z"⟩ : MethodName)) (z := (⟨"com/example/keyspace/keyspace/engine/Cell", "isLive", "(J)Z"⟩ : MethodName)) hown (mvT hZ (hw _ (List.mem_of_getElem? (i := 21) rfl))) (mvT hZ (hw _ (List.mem_of_getElem? (i := 22) rfl))) (notFace_of_selects (args := #[]) (mvT hZ (hw _ (List.mem_of_getElem? (i := 24) rfl)))) (mvT hZ (hw _ (List.mem_of_getElem? (i := 24) rfl))) (mvT hZ (hw _ (List.mem_of_getElem? (i := 23) rfl))) (by decide) (backOf (W := 0) (own_live0 l Z a0 hw [] b24 tt b19 ex T29.heap n0 Z29 Fq29_1 Fq29_3) hZ (hw _ (List.mem_of_getElem? (i := 25) rfl)) (hw _ (List.mem_of_getElem? (i := 3) rfl)) (by decide) (by decide)) q32a q32c (g := (mkF m 62 #[.val (.long ex), .second, .val (.long nw), .second, .val (.long tt), .second, .val (.long ts), .second, .val (.int fl), .val (.int (1 : Int32)), .val (.ref b19), .val (.ref b24), .val (.int (own_lt nw ex)), .unset, .unset, .unset, .unset, .unset, .unset] [(.long tt), (.ref b24)])) rfl (by rw [hml]; rfl) (Steps.refl _) (argsL := [(.long tt)]) (rest := []) (lenOf own_pd59 rfl) rfl (by show 2 * 0 + _ ≤ _; exact Nat.le_of_eq rfl) (hb hby at_62) (fun _ _ => ⟨rfl, e31, (by decide : 2 + 0 ≤ _), (by decide : 4 + 0 ≤ _)⟩)
    dsimp only [Pt.U, Pt.locs, Pt.cells, Pt.slots] at X32 l32 y32 z32 st32 hQ32
    subst l32 y32 z32
    obtain ⟨rfl, Nq32, eq32⟩ := hQ32
    have N32 := Fr.app N31 Nq32
    have e32 : T32.heap = T29.heap := eq32
    refine own_go (fun t k => st32.trans k) ?_
    show OwnG p.tables e below _ (T32.setTop (mkF m 65 #[.val (.long ex), .second, .val (.long nw), .second, .val (.long tt), .second, .val (.long ts), .second, .val (.int fl), .val (.int (1 : Int32)), .val (.ref b19), .val (.ref b24), .val (.int (own_lt nw ex)), .unset, .unset, .unset, .unset, .unset, .unset] [(.int (own_lt tt ex))]))
    refine own_go (fun t k => XS.istore X32.here hx rfl (hb hby at_65) rfl (l' := #[.val (.long ex), .second, .val (.long nw), .second, .val (.long tt), .second, .val (.long ts), .second, .val (.int fl), .val (.int (1 : Int32)), .val (.ref b19), .val (.ref b24), .val (.int (own_lt nw ex)), .val (.int (own_lt tt ex)), .unset, .unset, .unset, .unset, .unset]) rfl k) ?_
    show OwnG p.tables e below _ (T32.setTop (mkF m 67 #[.val (.long ex), .second, .val (.long nw), .second, .val (.long tt), .second, .val (.long ts), .second, .val (.int fl), .val (.int (1 : Int32)), .val (.ref b19), .val (.ref b24), .val (.int (own_lt nw ex)), .val (.int (own_lt tt ex)), .unset, .unset, .unset, .unset, .unset] []))
    refine own_go (fun t k => XS.aload X32.here hx rfl (hb hby at_67) rfl rfl k) ?_
    show OwnG p.tables e below _ (T32.setTop (mkF m 69 #[.val (.long ex), .second, .val (.long nw), .second, .val (.long tt), .second, .val (.long ts), .second, .val (.int fl), .val (.int (1 : Int32)), .val (.ref b19), .val (.ref b24), .val (.int (own_lt nw ex)), .val (.int (own_lt tt ex)), .unset, .unset, .unset, .unset, .unset] [(.ref b24)]))
    refine own_go (fun t k => XS.lloadN X32.here hx rfl (hb hby at_69) rfl  k) ?_
    show OwnG p.tables e below _ (T32.setTop (mkF m 70 #[.val (.long ex), .second, .val (.long nw), .second, .val (.long tt), .second, .val (.long ts), .second, .val (.int fl), .val (.int (1 : Int32)), .val (.ref b19), .val (.ref b24), .val (.int (own_lt nw ex)), .val (.int (own_lt tt ex)), .unset, .unset, .unset, .unset, .unset] [(.long ex), (.ref b24)]))
    obtain ⟨cq33, kq33, q33a, q33b, q33c⟩ := isOf hZ e32 Fq29_0
    obtain ⟨_, _, ⟨T33, L33, k33, n33⟩, -, X33, ⟨Lc33, hQ33, l33, y33, z33⟩, st33⟩ := X32.virtualBack hx (y := (⟨"com/example/keyspace/keyspace/engine/Cell", "isLive", "(J)Z"⟩ : MethodName)) (z := (⟨"com/example/keyspace/keyspace/engine/Cell", "isLive", "(J)Z"⟩ : MethodName)) hown (mvT hZ (hw _ (List.mem_of_getElem? (i := 21) rfl))) (mvT hZ (hw _ (List.mem_of_getElem? (i := 22) rfl))) (notFace_of_selects (args := #[]) (mvT hZ (hw _ (List.mem_of_getElem? (i := 24) rfl)))) (mvT hZ (hw _ (List.mem_of_getElem? (i := 24) rfl))) (mvT hZ (hw _ (List.mem_of_getElem? (i := 23) rfl))) (by decide) (backOf (W := 0) (own_live0 l Z a0 hw [] b24 ex b19 ex T29.heap n0 Z29 Fq29_1 Fq29_3) hZ (hw _ (List.mem_of_getElem? (i := 25) rfl)) (hw _ (List.mem_of_getElem? (i := 3) rfl)) (by decide) (by decide)) q33a q33c (g := (mkF m 70 #[.val (.long ex), .second, .val (.long nw), .second, .val (.long tt), .second, .val (.long ts), .second, .val (.int fl), .val (.int (1 : Int32)), .val (.ref b19), .val (.ref b24), .val (.int (own_lt nw ex)), .val (.int (own_lt tt ex)), .unset, .unset, .unset, .unset, .unset] [(.long ex), (.ref b24)])) rfl (by rw [hml]; rfl) (Steps.refl _) (argsL := [(.long ex)]) (rest := []) (lenOf own_pd59 rfl) rfl (by show 2 * 0 + _ ≤ _; exact Nat.le_of_eq rfl) (hb hby at_70) (fun _ _ => ⟨rfl, e32, (by decide : 2 + 0 ≤ _), (by decide : 4 + 0 ≤ _)⟩)
    dsimp only [Pt.U, Pt.locs, Pt.cells, Pt.slots] at X33 l33 y33 z33 st33 hQ33
    subst l33 y33 z33
    obtain ⟨rfl, Nq33, eq33⟩ := hQ33
    have N33 := Fr.app N32 Nq33
    have e33 : T33.heap = T29.heap := eq33
    refine own_go (fun t k => st33.trans k) ?_
    show OwnG p.tables e below _ (T33.setTop (mkF m 73 #[.val (.long ex), .second, .val (.long nw), .second, .val (.long tt), .second, .val (.long ts), .second, .val (.int fl), .val (.int (1 : Int32)), .val (.ref b19), .val (.ref b24), .val (.int (own_lt nw ex)), .val (.int (own_lt tt ex)), .unset, .unset, .unset, .unset, .unset] [(.int (own_lt ex ex))]))
    rw [own_lt_self ex]
    show OwnG p.tables e below _ (T33.setTop (mkF m 73 #[.val (.long ex), .second, .val (.long nw), .second, .val (.long tt), .second, .val (.long ts), .second, .val (.int fl), .val (.int (1 : Int32)), .val (.ref b19), .val (.ref b24), .val (.int (own_lt nw ex)), .val (.int (own_lt tt ex)), .unset, .unset, .unset, .unset, .unset] [(.int (0 : Int32))]))
    refine own_go (fun t k => XS.istore X33.here hx rfl (hb hby at_73) rfl (l' := #[.val (.long ex), .second, .val (.long nw), .second, .val (.long tt), .second, .val (.long ts), .second, .val (.int fl), .val (.int (1 : Int32)), .val (.ref b19), .val (.ref b24), .val (.int (own_lt nw ex)), .val (.int (own_lt tt ex)), .val (.int (0 : Int32)), .unset, .unset, .unset, .unset]) rfl k) ?_
    show OwnG p.tables e below _ (T33.setTop (mkF m 75 #[.val (.long ex), .second, .val (.long nw), .second, .val (.long tt), .second, .val (.long ts), .second, .val (.int fl), .val (.int (1 : Int32)), .val (.ref b19), .val (.ref b24), .val (.int (own_lt nw ex)), .val (.int (own_lt tt ex)), .val (.int (0 : Int32)), .unset, .unset, .unset, .unset] []))
    refine own_go (fun t k => XS.lloadN X33.here hx rfl (hb hby at_75) rfl  k) ?_
    show OwnG p.tables e below _ (T33.setTop (mkF m 76 #[.val (.long ex), .second, .val (.long nw), .second, .val (.long tt), .second, .val (.long ts), .second, .val (.int fl), .val (.int (1 : Int32)), .val (.ref b19), .val (.ref b24), .val (.int (own_lt nw ex)), .val (.int (own_lt tt ex)), .val (.int (0 : Int32)), .unset, .unset, .unset, .unset] [(.long ex)]))
    refine own_go (fun t k => (X33.ldc2Long hx hown (mvT hZ (hw _ (List.mem_of_getElem? (i := 26) rfl))) (g := (mkF m 76 #[.val (.long ex), .second, .val (.long nw), .second, .val (.long tt), .second, .val (.long ts), .second, .val (.int fl), .val (.int (1 : Int32)), .val (.ref b19), .val (.ref b24), .val (.int (own_lt nw ex)), .val (.int (own_lt tt ex)), .val (.int (0 : Int32)), .unset, .unset, .unset, .unset] [(.long ex)])) rfl (hb hby at_76)) t k) ?_
    show OwnG p.tables e below _ (T33.setTop (mkF m 79 #[.val (.long ex), .second, .val (.long nw), .second, .val (.long tt), .second, .val (.long ts), .second, .val (.int fl), .val (.int (1 : Int32)), .val (.ref b19), .val (.ref b24), .val (.int (own_lt nw ex)), .val (.int (own_lt tt ex)), .val (.int (0 : Int32)), .unset, .unset, .unset, .unset] [(.long (-9223372036854775808 : Int64)), (.long ex)]))
    refine own_go (fun t k => XS.lcmp X33.here hx rfl (hb hby at_79) rfl k) ?_
    show OwnG p.tables e below _ (T33.setTop (mkF m 80 #[.val (.long ex), .second, .val (.long nw), .second, .val (.long tt), .second, .val (.long ts), .second, .val (.int fl), .val (.int (1 : Int32)), .val (.ref b19), .val (.ref b24), .val (.int (own_lt nw ex)), .val (.int (own_lt tt ex)), .val (.int (0 : Int32)), .unset, .unset, .unset, .unset] [(.int (lcmpW ex (-9223372036854775808 : Int64)))]))
    by_cases hc34 : ex = (-9223372036854775808 : Int64)
    · refine own_go (fun t k => XS.ifYes X33.here hx rfl (pc0 := 80) (pc' := 87) rfl (hb hby at_80) rfl ((if0 _ _).trans (teq ((lw_eq _ _).mpr hc34)).1) (by decide) (by decide) k) ?_
      show OwnG p.tables e below _ (T33.setTop (mkF m 87 #[.val (.long ex), .second, .val (.long nw), .second, .val (.long tt), .second, .val (.long ts), .second, .val (.int fl), .val (.int (1 : Int32)), .val (.ref b19), .val (.ref b24), .val (.int (own_lt nw ex)), .val (.int (own_lt tt ex)), .val (.int (0 : Int32)), .unset, .unset, .unset, .unset] []))
      refine own_go (fun t k => XS.iconst X33.here hx rfl (hb hby at_87) k) ?_
      show OwnG p.tables e below _ (T33.setTop (mkF m 88 #[.val (.long ex), .second, .val (.long nw), .second, .val (.long tt), .second, .val (.long ts), .second, .val (.int fl), .val (.int (1 : Int32)), .val (.ref b19), .val (.ref b24), .val (.int (own_lt nw ex)), .val (.int (own_lt tt ex)), .val (.int (0 : Int32)), .unset, .unset, .unset, .unset] [(.int (0 : Int32))]))
      refine own_go (fun t k => XS.istore X33.here hx rfl (hb hby at_88) rfl (l' := #[.val (.long ex), .second, .val (.long nw), .second, .val (.long tt), .second, .val (.long ts), .second, .val (.int fl), .val (.int (1 : Int32)), .val (.ref b19), .val (.ref b24), .val (.int (own_lt nw ex)), .val (.int (own_lt tt ex)), .val (.int (0 : Int32)), .val (.int (0 : Int32)), .unset, .unset, .unset]) rfl k) ?_
      show OwnG p.tables e below _ (T33.setTop (mkF m 90 #[.val (.long ex), .second, .val (.long nw), .second, .val (.long tt), .second, .val (.long ts), .second, .val (.int fl), .val (.int (1 : Int32)), .val (.ref b19), .val (.ref b24), .val (.int (own_lt nw ex)), .val (.int (own_lt tt ex)), .val (.int (0 : Int32)), .val (.int (0 : Int32)), .unset, .unset, .unset] []))
      refine own_go (fun t k => XS.iload X33.here hx rfl (hb hby at_90) rfl  k) ?_
      show OwnG p.tables e below _ (T33.setTop (mkF m 92 #[.val (.long ex), .second, .val (.long nw), .second, .val (.long tt), .second, .val (.long ts), .second, .val (.int fl), .val (.int (1 : Int32)), .val (.ref b19), .val (.ref b24), .val (.int (own_lt nw ex)), .val (.int (own_lt tt ex)), .val (.int (0 : Int32)), .val (.int (0 : Int32)), .unset, .unset, .unset] [(.int (0 : Int32))]))
      refine own_go (fun t k => XS.ifYes X33.here hx rfl (pc0 := 92) (pc' := 101) rfl (hb hby at_92) rfl ((if0 _ _).trans (teq (by decide : (0 : Int32) = (0 : Int32))).1) (by decide) (by decide) k) ?_
      show OwnG p.tables e below _ (T33.setTop (mkF m 101 #[.val (.long ex), .second, .val (.long nw), .second, .val (.long tt), .second, .val (.long ts), .second, .val (.int fl), .val (.int (1 : Int32)), .val (.ref b19), .val (.ref b24), .val (.int (own_lt nw ex)), .val (.int (own_lt tt ex)), .val (.int (0 : Int32)), .val (.int (0 : Int32)), .unset, .unset, .unset] []))
      refine own_go (fun t k => XS.lloadN X33.here hx rfl (hb hby at_101) rfl  k) ?_
      show OwnG p.tables e below _ (T33.setTop (mkF m 102 #[.val (.long ex), .second, .val (.long nw), .second, .val (.long tt), .second, .val (.long ts), .second, .val (.int fl), .val (.int (1 : Int32)), .val (.ref b19), .val (.ref b24), .val (.int (own_lt nw ex)), .val (.int (own_lt tt ex)), .val (.int (0 : Int32)), .val (.int (0 : Int32)), .unset, .unset, .unset] [(.long ex)]))
      refine own_go (fun t k => XS.lstore X33.here hx rfl (hb hby at_102) rfl (l' := #[.val (.long ex), .second, .val (.long nw), .second, .val (.long tt), .second, .val (.long ts), .second, .val (.int fl), .val (.int (1 : Int32)), .val (.ref b19), .val (.ref b24), .val (.int (own_lt nw ex)), .val (.int (own_lt tt ex)), .val (.int (0 : Int32)), .val (.int (0 : Int32)), .val (.long ex), .second, .unset]) rfl k) ?_
      show OwnG p.tables e below _ (T33.setTop (mkF m 104 #[.val (.long ex), .second, .val (.long nw), .second, .val (.long tt), .second, .val (.long ts), .second, .val (.int fl), .val (.int (1 : Int32)), .val (.ref b19), .val (.ref b24), .val (.int (own_lt nw ex)), .val (.int (own_lt tt ex)), .val (.int (0 : Int32)), .val (.int (0 : Int32)), .val (.long ex), .second, .unset] []))
      refine own_go (fun t k => XS.iload X33.here hx rfl (hb hby at_104) rfl  k) ?_
      show OwnG p.tables e below _ (T33.setTop (mkF m 106 #[.val (.long ex), .second, .val (.long nw), .second, .val (.long tt), .second, .val (.long ts), .second, .val (.int fl), .val (.int (1 : Int32)), .val (.ref b19), .val (.ref b24), .val (.int (own_lt nw ex)), .val (.int (own_lt tt ex)), .val (.int (0 : Int32)), .val (.int (0 : Int32)), .val (.long ex), .second, .unset] [(.int (0 : Int32))]))
      refine own_go (fun t k => XS.ifYes X33.here hx rfl (pc0 := 106) (pc' := 119) rfl (hb hby at_106) rfl ((if0 _ _).trans (teq (by decide : (0 : Int32) = (0 : Int32))).1) (by decide) (by decide) k) ?_
      show OwnG p.tables e below _ (T33.setTop (mkF m 119 #[.val (.long ex), .second, .val (.long nw), .second, .val (.long tt), .second, .val (.long ts), .second, .val (.int fl), .val (.int (1 : Int32)), .val (.ref b19), .val (.ref b24), .val (.int (own_lt nw ex)), .val (.int (own_lt tt ex)), .val (.int (0 : Int32)), .val (.int (0 : Int32)), .val (.long ex), .second, .unset] []))
      refine own_go (fun t k => XS.iconst X33.here hx rfl (hb hby at_119) k) ?_
      show OwnG p.tables e below _ (T33.setTop (mkF m 120 #[.val (.long ex), .second, .val (.long nw), .second, .val (.long tt), .second, .val (.long ts), .second, .val (.int fl), .val (.int (1 : Int32)), .val (.ref b19), .val (.ref b24), .val (.int (own_lt nw ex)), .val (.int (own_lt tt ex)), .val (.int (0 : Int32)), .val (.int (0 : Int32)), .val (.long ex), .second, .unset] [(.int (0 : Int32))]))
      refine own_go (fun t k => XS.istore X33.here hx rfl (hb hby at_120) rfl (l' := #[.val (.long ex), .second, .val (.long nw), .second, .val (.long tt), .second, .val (.long ts), .second, .val (.int fl), .val (.int (1 : Int32)), .val (.ref b19), .val (.ref b24), .val (.int (own_lt nw ex)), .val (.int (own_lt tt ex)), .val (.int (0 : Int32)), .val (.int (0 : Int32)), .val (.long ex), .second, .val (.int (0 : Int32))]) rfl k) ?_
      show OwnG p.tables e below _ (T33.setTop (mkF m 122 #[.val (.long ex), .second, .val (.long nw), .second, .val (.long tt), .second, .val (.long ts), .second, .val (.int fl), .val (.int (1 : Int32)), .val (.ref b19), .val (.ref b24), .val (.int (own_lt nw ex)), .val (.int (own_lt tt ex)), .val (.int (0 : Int32)), .val (.int (0 : Int32)), .val (.long ex), .second, .val (.int (0 : Int32))] []))
      refine own_go (fun t k => XS.iload X33.here hx rfl (hb hby at_122) rfl  k) ?_
      show OwnG p.tables e below _ (T33.setTop (mkF m 124 #[.val (.long ex), .second, .val (.long nw), .second, .val (.long tt), .second, .val (.long ts), .second, .val (.int fl), .val (.int (1 : Int32)), .val (.ref b19), .val (.ref b24), .val (.int (own_lt nw ex)), .val (.int (own_lt tt ex)), .val (.int (0 : Int32)), .val (.int (0 : Int32)), .val (.long ex), .second, .val (.int (0 : Int32))] [(.int (1 : Int32))]))
      refine own_go (fun t k => XS.ifYes X33.here hx rfl (pc0 := 124) (pc' := 144) rfl (hb hby at_124) rfl ((if0 _ _).trans (feq (by decide : ¬ ((1 : Int32) = (0 : Int32)))).2) (by decide) (by decide) k) ?_
      show OwnG p.tables e below _ (T33.setTop (mkF m 144 #[.val (.long ex), .second, .val (.long nw), .second, .val (.long tt), .second, .val (.long ts), .second, .val (.int fl), .val (.int (1 : Int32)), .val (.ref b19), .val (.ref b24), .val (.int (own_lt nw ex)), .val (.int (own_lt tt ex)), .val (.int (0 : Int32)), .val (.int (0 : Int32)), .val (.long ex), .second, .val (.int (0 : Int32))] []))
      refine own_go (fun t k => XS.iload X33.here hx rfl (hb hby at_144) rfl  k) ?_
      show OwnG p.tables e below _ (T33.setTop (mkF m 146 #[.val (.long ex), .second, .val (.long nw), .second, .val (.long tt), .second, .val (.long ts), .second, .val (.int fl), .val (.int (1 : Int32)), .val (.ref b19), .val (.ref b24), .val (.int (own_lt nw ex)), .val (.int (own_lt tt ex)), .val (.int (0 : Int32)), .val (.int (0 : Int32)), .val (.long ex), .second, .val (.int (0 : Int32))] [(.int (0 : Int32))]))
      refine own_go (fun t k => XS.ifYes X33.here hx rfl (pc0 := 146) (pc' := 151) rfl (hb hby at_146) rfl ((if0 _ _).trans (teq (by decide : (0 : Int32) = (0 : Int32))).1) (by decide) (by decide) k) ?_
      show OwnG p.tables e below _ (T33.setTop (mkF m 151 #[.val (.long ex), .second, .val (.long nw), .second, .val (.long tt), .second, .val (.long ts), .second, .val (.int fl), .val (.int (1 : Int32)), .val (.ref b19), .val (.ref b24), .val (.int (own_lt nw ex)), .val (.int (own_lt tt ex)), .val (.int (0 : Int32)), .val (.int (0 : Int32)), .val (.long ex), .second, .val (.int (0 : Int32))] []))
      refine own_go (fun t k => XS.iload X33.here hx rfl (hb hby at_151) rfl  k) ?_
      show OwnG p.tables e below _ (T33.setTop (mkF m 153 #[.val (.long ex), .second, .val (.long nw), .second, .val (.long tt), .second, .val (.long ts), .second, .val (.int fl), .val (.int (1 : Int32)), .val (.ref b19), .val (.ref b24), .val (.int (own_lt nw ex)), .val (.int (own_lt tt ex)), .val (.int (0 : Int32)), .val (.int (0 : Int32)), .val (.long ex), .second, .val (.int (0 : Int32))] [(.int (0 : Int32))]))
      refine own_go (fun t k => XS.iload X33.here hx rfl (hb hby at_153) rfl  k) ?_
      show OwnG p.tables e below _ (T33.setTop (mkF m 155 #[.val (.long ex), .second, .val (.long nw), .second, .val (.long tt), .second, .val (.long ts), .second, .val (.int fl), .val (.int (1 : Int32)), .val (.ref b19), .val (.ref b24), .val (.int (own_lt nw ex)), .val (.int (own_lt tt ex)), .val (.int (0 : Int32)), .val (.int (0 : Int32)), .val (.long ex), .second, .val (.int (0 : Int32))] [(.int (1 : Int32)), (.int (0 : Int32))]))
      refine own_go (fun t k => XS.ifNo X33.here hx rfl (hb hby at_155) rfl ((if0 _ _).trans (feq (by decide : ¬ ((1 : Int32) = (0 : Int32)))).1) k) ?_
      show OwnG p.tables e below _ (T33.setTop (mkF m 158 #[.val (.long ex), .second, .val (.long nw), .second, .val (.long tt), .second, .val (.long ts), .second, .val (.int fl), .val (.int (1 : Int32)), .val (.ref b19), .val (.ref b24), .val (.int (own_lt nw ex)), .val (.int (own_lt tt ex)), .val (.int (0 : Int32)), .val (.int (0 : Int32)), .val (.long ex), .second, .val (.int (0 : Int32))] [(.int (0 : Int32))]))
      refine own_go (fun t k => XS.iload X33.here hx rfl (hb hby at_158) rfl  k) ?_
      show OwnG p.tables e below _ (T33.setTop (mkF m 160 #[.val (.long ex), .second, .val (.long nw), .second, .val (.long tt), .second, .val (.long ts), .second, .val (.int fl), .val (.int (1 : Int32)), .val (.ref b19), .val (.ref b24), .val (.int (own_lt nw ex)), .val (.int (own_lt tt ex)), .val (.int (0 : Int32)), .val (.int (0 : Int32)), .val (.long ex), .second, .val (.int (0 : Int32))] [(.int (0 : Int32)), (.int (0 : Int32))]))
      refine own_go (fun t k => XS.ifYes X33.here hx rfl (pc0 := 160) (pc' := 167) rfl (hb hby at_160) rfl ((if0 _ _).trans (teq (by decide : (0 : Int32) = (0 : Int32))).1) (by decide) (by decide) k) ?_
      show OwnG p.tables e below _ (T33.setTop (mkF m 167 #[.val (.long ex), .second, .val (.long nw), .second, .val (.long tt), .second, .val (.long ts), .second, .val (.int fl), .val (.int (1 : Int32)), .val (.ref b19), .val (.ref b24), .val (.int (own_lt nw ex)), .val (.int (own_lt tt ex)), .val (.int (0 : Int32)), .val (.int (0 : Int32)), .val (.long ex), .second, .val (.int (0 : Int32))] [(.int (0 : Int32))]))
      refine own_go (fun t k => XS.iconst X33.here hx rfl (hb hby at_167) k) ?_
      show OwnG p.tables e below _ (T33.setTop (mkF m 168 #[.val (.long ex), .second, .val (.long nw), .second, .val (.long tt), .second, .val (.long ts), .second, .val (.int fl), .val (.int (1 : Int32)), .val (.ref b19), .val (.ref b24), .val (.int (own_lt nw ex)), .val (.int (own_lt tt ex)), .val (.int (0 : Int32)), .val (.int (0 : Int32)), .val (.long ex), .second, .val (.int (0 : Int32))] [(.int (0 : Int32)), (.int (0 : Int32))]))
      refine own_go (fun t k => XS.icmpYes X33.here hx rfl (pc0 := 168) (pc' := 173) rfl (hb hby at_168) rfl (teq (by decide : (0 : Int32) = (0 : Int32))).1 (by decide) (by decide) k) ?_
      show OwnG p.tables e below _ (T33.setTop (mkF m 173 #[.val (.long ex), .second, .val (.long nw), .second, .val (.long tt), .second, .val (.long ts), .second, .val (.int fl), .val (.int (1 : Int32)), .val (.ref b19), .val (.ref b24), .val (.int (own_lt nw ex)), .val (.int (own_lt tt ex)), .val (.int (0 : Int32)), .val (.int (0 : Int32)), .val (.long ex), .second, .val (.int (0 : Int32))] []))
      refine own_go (fun t k => XS.lloadN X33.here hx rfl (hb hby at_173) rfl  k) ?_
      show OwnG p.tables e below _ (T33.setTop (mkF m 174 #[.val (.long ex), .second, .val (.long nw), .second, .val (.long tt), .second, .val (.long ts), .second, .val (.int fl), .val (.int (1 : Int32)), .val (.ref b19), .val (.ref b24), .val (.int (own_lt nw ex)), .val (.int (own_lt tt ex)), .val (.int (0 : Int32)), .val (.int (0 : Int32)), .val (.long ex), .second, .val (.int (0 : Int32))] [(.long nw)]))
      refine own_go (fun t k => XS.iload X33.here hx rfl (hb hby at_174) rfl  k) ?_
      show OwnG p.tables e below _ (T33.setTop (mkF m 176 #[.val (.long ex), .second, .val (.long nw), .second, .val (.long tt), .second, .val (.long ts), .second, .val (.int fl), .val (.int (1 : Int32)), .val (.ref b19), .val (.ref b24), .val (.int (own_lt nw ex)), .val (.int (own_lt tt ex)), .val (.int (0 : Int32)), .val (.int (0 : Int32)), .val (.long ex), .second, .val (.int (0 : Int32))] [(.int (own_lt nw ex)), (.long nw)]))
      refine own_go (fun t k => XS.lload X33.here hx rfl (hb hby at_176) rfl  k) ?_
      show OwnG p.tables e below _ (T33.setTop (mkF m 178 #[.val (.long ex), .second, .val (.long nw), .second, .val (.long tt), .second, .val (.long ts), .second, .val (.int fl), .val (.int (1 : Int32)), .val (.ref b19), .val (.ref b24), .val (.int (own_lt nw ex)), .val (.int (own_lt tt ex)), .val (.int (0 : Int32)), .val (.int (0 : Int32)), .val (.long ex), .second, .val (.int (0 : Int32))] [(.long tt), (.int (own_lt nw ex)), (.long nw)]))
      refine own_go (fun t k => XS.iload X33.here hx rfl (hb hby at_178) rfl  k) ?_
      show OwnG p.tables e below _ (T33.setTop (mkF m 180 #[.val (.long ex), .second, .val (.long nw), .second, .val (.long tt), .second, .val (.long ts), .second, .val (.int fl), .val (.int (1 : Int32)), .val (.ref b19), .val (.ref b24), .val (.int (own_lt nw ex)), .val (.int (own_lt tt ex)), .val (.int (0 : Int32)), .val (.int (0 : Int32)), .val (.long ex), .second, .val (.int (0 : Int32))] [(.int (own_lt tt ex)), (.long tt), (.int (own_lt nw ex)), (.long nw)]))
      obtain ⟨_, _, ⟨T35, L35, k35, n35⟩, -, X35, ⟨Lc35, hQ35, l35, y35, z35⟩, st35⟩ := Jvm.LawKit.callS X33 hx (y := (⟨"com/example/keyspace/keyspace/engine/CellIsLivePinLaw", "mono", "(JZJZ)Z"⟩ : MethodName)) hown (mvT hZ (hw _ (List.mem_of_getElem? (i := 27) rfl))) (mvT hZ (hw _ (List.mem_of_getElem? (i := 28) rfl))) (mvT hZ (hw _ (List.mem_of_getElem? (i := 29) rfl))) (mvT hZ (hw _ (List.mem_of_getElem? (i := 30) rfl))) (by decide) (backOf (W := 0) (own_monoC l Z a0 hw [] nw (own_lt nw ex) tt (own_lt tt ex) T29.heap n0 Z29) hZ (hw _ (List.mem_of_getElem? (i := 30) rfl)) (hw _ (List.mem_of_getElem? (i := 29) rfl)) (by decide) (by decide)) (g := (mkF m 180 #[.val (.long ex), .second, .val (.long nw), .second, .val (.long tt), .second, .val (.long ts), .second, .val (.int fl), .val (.int (1 : Int32)), .val (.ref b19), .val (.ref b24), .val (.int (own_lt nw ex)), .val (.int (own_lt tt ex)), .val (.int (0 : Int32)), .val (.int (0 : Int32)), .val (.long ex), .second, .val (.int (0 : Int32))] [(.int (own_lt tt ex)), (.long tt), (.int (own_lt nw ex)), (.long nw)])) rfl (by rw [hml]; rfl) (argsL := [(.long nw), (.int (own_lt nw ex)), (.long tt), (.int (own_lt tt ex))]) (rest := []) (lenOf own_pd60 rfl) rfl (by show 2 * 0 + _ ≤ _; exact Nat.le_of_eq rfl) (hb hby at_180) (fun _ _ => ⟨rfl, e33, (by decide : 2 + 0 ≤ _), (by decide : 4 + 0 ≤ _)⟩)
      dsimp only [Pt.U, Pt.locs, Pt.cells, Pt.slots] at X35 l35 y35 z35 st35 hQ35
      subst l35 y35 z35
      obtain ⟨rfl, Nq35, eq35⟩ := hQ35
      have N35 := Fr.app N33 Nq35
      have e35 : T35.heap = T29.heap := eq35
      refine own_go (fun t k => st35 t k) ?_
      show OwnG p.tables e below _ (T35.setTop (mkF m 183 #[.val (.long ex), .second, .val (.long nw), .second, .val (.long tt), .second, .val (.long ts), .second, .val (.int fl), .val (.int (1 : Int32)), .val (.ref b19), .val (.ref b24), .val (.int (own_lt nw ex)), .val (.int (own_lt tt ex)), .val (.int (0 : Int32)), .val (.int (0 : Int32)), .val (.long ex), .second, .val (.int (0 : Int32))] [(.int (own_mono nw (own_lt nw ex) tt (own_lt tt ex)))]))
      rw [own_mono_1 nw tt ex]
      show OwnG p.tables e below _ (T35.setTop (mkF m 183 #[.val (.long ex), .second, .val (.long nw), .second, .val (.long tt), .second, .val (.long ts), .second, .val (.int fl), .val (.int (1 : Int32)), .val (.ref b19), .val (.ref b24), .val (.int (own_lt nw ex)), .val (.int (own_lt tt ex)), .val (.int (0 : Int32)), .val (.int (0 : Int32)), .val (.long ex), .second, .val (.int (0 : Int32))] [(.int (1 : Int32))]))
      refine own_go (fun t k => XS.ifYes X35.here hx rfl (pc0 := 183) (pc' := 188) rfl (hb hby at_183) rfl ((if0 _ _).trans (feq (by decide : ¬ ((1 : Int32) = (0 : Int32)))).2) (by decide) (by decide) k) ?_
      show OwnG p.tables e below _ (T35.setTop (mkF m 188 #[.val (.long ex), .second, .val (.long nw), .second, .val (.long tt), .second, .val (.long ts), .second, .val (.int fl), .val (.int (1 : Int32)), .val (.ref b19), .val (.ref b24), .val (.int (own_lt nw ex)), .val (.int (own_lt tt ex)), .val (.int (0 : Int32)), .val (.int (0 : Int32)), .val (.long ex), .second, .val (.int (0 : Int32))] []))
      refine own_go (fun t k => XS.lloadN X35.here hx rfl (hb hby at_188) rfl  k) ?_
      show OwnG p.tables e below _ (T35.setTop (mkF m 189 #[.val (.long ex), .second, .val (.long nw), .second, .val (.long tt), .second, .val (.long ts), .second, .val (.int fl), .val (.int (1 : Int32)), .val (.ref b19), .val (.ref b24), .val (.int (own_lt nw ex)), .val (.int (own_lt tt ex)), .val (.int (0 : Int32)), .val (.int (0 : Int32)), .val (.long ex), .second, .val (.int (0 : Int32))] [(.long nw)]))
      refine own_go (fun t k => XS.iload X35.here hx rfl (hb hby at_189) rfl  k) ?_
      show OwnG p.tables e below _ (T35.setTop (mkF m 191 #[.val (.long ex), .second, .val (.long nw), .second, .val (.long tt), .second, .val (.long ts), .second, .val (.int fl), .val (.int (1 : Int32)), .val (.ref b19), .val (.ref b24), .val (.int (own_lt nw ex)), .val (.int (own_lt tt ex)), .val (.int (0 : Int32)), .val (.int (0 : Int32)), .val (.long ex), .second, .val (.int (0 : Int32))] [(.int (own_lt nw ex)), (.long nw)]))
      refine own_go (fun t k => XS.lloadN X35.here hx rfl (hb hby at_191) rfl  k) ?_
      show OwnG p.tables e below _ (T35.setTop (mkF m 192 #[.val (.long ex), .second, .val (.long nw), .second, .val (.long tt), .second, .val (.long ts), .second, .val (.int fl), .val (.int (1 : Int32)), .val (.ref b19), .val (.ref b24), .val (.int (own_lt nw ex)), .val (.int (own_lt tt ex)), .val (.int (0 : Int32)), .val (.int (0 : Int32)), .val (.long ex), .second, .val (.int (0 : Int32))] [(.long ex), (.int (own_lt nw ex)), (.long nw)]))
      refine own_go (fun t k => XS.iload X35.here hx rfl (hb hby at_192) rfl  k) ?_
      show OwnG p.tables e below _ (T35.setTop (mkF m 194 #[.val (.long ex), .second, .val (.long nw), .second, .val (.long tt), .second, .val (.long ts), .second, .val (.int fl), .val (.int (1 : Int32)), .val (.ref b19), .val (.ref b24), .val (.int (own_lt nw ex)), .val (.int (own_lt tt ex)), .val (.int (0 : Int32)), .val (.int (0 : Int32)), .val (.long ex), .second, .val (.int (0 : Int32))] [(.int (0 : Int32)), (.long ex), (.int (own_lt nw ex)), (.long nw)]))
      obtain ⟨_, _, ⟨T36, L36, k36, n36⟩, -, X36, ⟨Lc36, hQ36, l36, y36, z36⟩, st36⟩ := Jvm.LawKit.callS X35 hx (y := (⟨"com/example/keyspace/keyspace/engine/CellIsLivePinLaw", "mono", "(JZJZ)Z"⟩ : MethodName)) hown (mvT hZ (hw _ (List.mem_of_getElem? (i := 27) rfl))) (mvT hZ (hw _ (List.mem_of_getElem? (i := 28) rfl))) (mvT hZ (hw _ (List.mem_of_getElem? (i := 29) rfl))) (mvT hZ (hw _ (List.mem_of_getElem? (i := 30) rfl))) (by decide) (backOf (W := 0) (own_monoC l Z a0 hw [] nw (own_lt nw ex) ex (0 : Int32) T29.heap n0 Z29) hZ (hw _ (List.mem_of_getElem? (i := 30) rfl)) (hw _ (List.mem_of_getElem? (i := 29) rfl)) (by decide) (by decide)) (g := (mkF m 194 #[.val (.long ex), .second, .val (.long nw), .second, .val (.long tt), .second, .val (.long ts), .second, .val (.int fl), .val (.int (1 : Int32)), .val (.ref b19), .val (.ref b24), .val (.int (own_lt nw ex)), .val (.int (own_lt tt ex)), .val (.int (0 : Int32)), .val (.int (0 : Int32)), .val (.long ex), .second, .val (.int (0 : Int32))] [(.int (0 : Int32)), (.long ex), (.int (own_lt nw ex)), (.long nw)])) rfl (by rw [hml]; rfl) (argsL := [(.long nw), (.int (own_lt nw ex)), (.long ex), (.int (0 : Int32))]) (rest := []) (lenOf own_pd60 rfl) rfl (by show 2 * 0 + _ ≤ _; exact Nat.le_of_eq rfl) (hb hby at_194) (fun _ _ => ⟨rfl, e35, (by decide : 2 + 0 ≤ _), (by decide : 4 + 0 ≤ _)⟩)
      dsimp only [Pt.U, Pt.locs, Pt.cells, Pt.slots] at X36 l36 y36 z36 st36 hQ36
      subst l36 y36 z36
      obtain ⟨rfl, Nq36, eq36⟩ := hQ36
      have N36 := Fr.app N35 Nq36
      have e36 : T36.heap = T29.heap := eq36
      refine own_go (fun t k => st36 t k) ?_
      show OwnG p.tables e below _ (T36.setTop (mkF m 197 #[.val (.long ex), .second, .val (.long nw), .second, .val (.long tt), .second, .val (.long ts), .second, .val (.int fl), .val (.int (1 : Int32)), .val (.ref b19), .val (.ref b24), .val (.int (own_lt nw ex)), .val (.int (own_lt tt ex)), .val (.int (0 : Int32)), .val (.int (0 : Int32)), .val (.long ex), .second, .val (.int (0 : Int32))] [(.int (own_mono nw (own_lt nw ex) ex (0 : Int32)))]))
      rw [own_mono_2 nw ex]
      show OwnG p.tables e below _ (T36.setTop (mkF m 197 #[.val (.long ex), .second, .val (.long nw), .second, .val (.long tt), .second, .val (.long ts), .second, .val (.int fl), .val (.int (1 : Int32)), .val (.ref b19), .val (.ref b24), .val (.int (own_lt nw ex)), .val (.int (own_lt tt ex)), .val (.int (0 : Int32)), .val (.int (0 : Int32)), .val (.long ex), .second, .val (.int (0 : Int32))] [(.int (1 : Int32))]))
      refine own_go (fun t k => XS.ifYes X36.here hx rfl (pc0 := 197) (pc' := 202) rfl (hb hby at_197) rfl ((if0 _ _).trans (feq (by decide : ¬ ((1 : Int32) = (0 : Int32)))).2) (by decide) (by decide) k) ?_
      show OwnG p.tables e below _ (T36.setTop (mkF m 202 #[.val (.long ex), .second, .val (.long nw), .second, .val (.long tt), .second, .val (.long ts), .second, .val (.int fl), .val (.int (1 : Int32)), .val (.ref b19), .val (.ref b24), .val (.int (own_lt nw ex)), .val (.int (own_lt tt ex)), .val (.int (0 : Int32)), .val (.int (0 : Int32)), .val (.long ex), .second, .val (.int (0 : Int32))] []))
      refine own_go (fun t k => XS.iload X36.here hx rfl (hb hby at_202) rfl  k) ?_
      show OwnG p.tables e below _ (T36.setTop (mkF m 204 #[.val (.long ex), .second, .val (.long nw), .second, .val (.long tt), .second, .val (.long ts), .second, .val (.int fl), .val (.int (1 : Int32)), .val (.ref b19), .val (.ref b24), .val (.int (own_lt nw ex)), .val (.int (own_lt tt ex)), .val (.int (0 : Int32)), .val (.int (0 : Int32)), .val (.long ex), .second, .val (.int (0 : Int32))] [(.int (0 : Int32))]))
      refine own_go (fun t k => XS.ifYes X36.here hx rfl (pc0 := 204) (pc' := 222) rfl (hb hby at_204) rfl ((if0 _ _).trans (teq (by decide : (0 : Int32) = (0 : Int32))).1) (by decide) (by decide) k) ?_
      show OwnG p.tables e below _ (T36.setTop (mkF m 222 #[.val (.long ex), .second, .val (.long nw), .second, .val (.long tt), .second, .val (.long ts), .second, .val (.int fl), .val (.int (1 : Int32)), .val (.ref b19), .val (.ref b24), .val (.int (own_lt nw ex)), .val (.int (own_lt tt ex)), .val (.int (0 : Int32)), .val (.int (0 : Int32)), .val (.long ex), .second, .val (.int (0 : Int32))] []))
      refine own_go (fun t k => XS.iconst X36.here hx rfl (hb hby at_222) k) ?_
      show OwnG p.tables e below _ (T36.setTop (mkF m 223 #[.val (.long ex), .second, .val (.long nw), .second, .val (.long tt), .second, .val (.long ts), .second, .val (.int fl), .val (.int (1 : Int32)), .val (.ref b19), .val (.ref b24), .val (.int (own_lt nw ex)), .val (.int (own_lt tt ex)), .val (.int (0 : Int32)), .val (.int (0 : Int32)), .val (.long ex), .second, .val (.int (0 : Int32))] [(.int (1 : Int32))]))
      obtain ⟨fs, hr, hrun, hended, hW, hsame⟩ := X36.leave (v := some (.int (1 : Int32))) (fun h => by rw [Bd.returns] at h; cases h)
      refine ⟨_, _, retN X36 hx (t := .boolean) Bd.returns (by simp) (hb hby at_223) hr, hrun, hended, _, _, rfl, ?_, ⟨_, rfl⟩, hW, hsame.mono (by decide) (by decide)⟩
      show Q_own_law Z ex nw tt ts fl h0 n0 _ T36.heap _
      rw [e36]
      exact ⟨rfl, N36⟩
    · refine own_go (fun t k => XS.ifNo X33.here hx rfl (hb hby at_80) rfl ((if0 _ _).trans (feq (mt (lw_eq _ _).mp hc34)).1) k) ?_
      show OwnG p.tables e below _ (T33.setTop (mkF m 83 #[.val (.long ex), .second, .val (.long nw), .second, .val (.long tt), .second, .val (.long ts), .second, .val (.int fl), .val (.int (1 : Int32)), .val (.ref b19), .val (.ref b24), .val (.int (own_lt nw ex)), .val (.int (own_lt tt ex)), .val (.int (0 : Int32)), .unset, .unset, .unset, .unset] []))
      refine own_go (fun t k => XS.iconst X33.here hx rfl (hb hby at_83) k) ?_
      show OwnG p.tables e below _ (T33.setTop (mkF m 84 #[.val (.long ex), .second, .val (.long nw), .second, .val (.long tt), .second, .val (.long ts), .second, .val (.int fl), .val (.int (1 : Int32)), .val (.ref b19), .val (.ref b24), .val (.int (own_lt nw ex)), .val (.int (own_lt tt ex)), .val (.int (0 : Int32)), .unset, .unset, .unset, .unset] [(.int (1 : Int32))]))
      refine own_go (fun t k => XS.goto X33.here hx rfl (pc0 := 84) (pc' := 88) rfl (hb hby at_84) (by decide) (by decide) k) ?_
      show OwnG p.tables e below _ (T33.setTop (mkF m 88 #[.val (.long ex), .second, .val (.long nw), .second, .val (.long tt), .second, .val (.long ts), .second, .val (.int fl), .val (.int (1 : Int32)), .val (.ref b19), .val (.ref b24), .val (.int (own_lt nw ex)), .val (.int (own_lt tt ex)), .val (.int (0 : Int32)), .unset, .unset, .unset, .unset] [(.int (1 : Int32))]))
      refine own_go (fun t k => XS.istore X33.here hx rfl (hb hby at_88) rfl (l' := #[.val (.long ex), .second, .val (.long nw), .second, .val (.long tt), .second, .val (.long ts), .second, .val (.int fl), .val (.int (1 : Int32)), .val (.ref b19), .val (.ref b24), .val (.int (own_lt nw ex)), .val (.int (own_lt tt ex)), .val (.int (0 : Int32)), .val (.int (1 : Int32)), .unset, .unset, .unset]) rfl k) ?_
      show OwnG p.tables e below _ (T33.setTop (mkF m 90 #[.val (.long ex), .second, .val (.long nw), .second, .val (.long tt), .second, .val (.long ts), .second, .val (.int fl), .val (.int (1 : Int32)), .val (.ref b19), .val (.ref b24), .val (.int (own_lt nw ex)), .val (.int (own_lt tt ex)), .val (.int (0 : Int32)), .val (.int (1 : Int32)), .unset, .unset, .unset] []))
      refine own_go (fun t k => XS.iload X33.here hx rfl (hb hby at_90) rfl  k) ?_
      show OwnG p.tables e below _ (T33.setTop (mkF m 92 #[.val (.long ex), .second, .val (.long nw), .second, .val (.long tt), .second, .val (.long ts), .second, .val (.int fl), .val (.int (1 : Int32)), .val (.ref b19), .val (.ref b24), .val (.int (own_lt nw ex)), .val (.int (own_lt tt ex)), .val (.int (0 : Int32)), .val (.int (1 : Int32)), .unset, .unset, .unset] [(.int (1 : Int32))]))
      refine own_go (fun t k => XS.ifNo X33.here hx rfl (hb hby at_92) rfl ((if0 _ _).trans (feq (by decide : ¬ ((1 : Int32) = (0 : Int32)))).1) k) ?_
      show OwnG p.tables e below _ (T33.setTop (mkF m 95 #[.val (.long ex), .second, .val (.long nw), .second, .val (.long tt), .second, .val (.long ts), .second, .val (.int fl), .val (.int (1 : Int32)), .val (.ref b19), .val (.ref b24), .val (.int (own_lt nw ex)), .val (.int (own_lt tt ex)), .val (.int (0 : Int32)), .val (.int (1 : Int32)), .unset, .unset, .unset] []))
      refine own_go (fun t k => XS.lloadN X33.here hx rfl (hb hby at_95) rfl  k) ?_
      show OwnG p.tables e below _ (T33.setTop (mkF m 96 #[.val (.long ex), .second, .val (.long nw), .second, .val (.long tt), .second, .val (.long ts), .second, .val (.int fl), .val (.int (1 : Int32)), .val (.ref b19), .val (.ref b24), .val (.int (own_lt nw ex)), .val (.int (own_lt tt ex)), .val (.int (0 : Int32)), .val (.int (1 : Int32)), .unset, .unset, .unset] [(.long ex)]))
      refine own_go (fun t k => XS.lconst X33.here hx rfl (hb hby at_96) k) ?_
      show OwnG p.tables e below _ (T33.setTop (mkF m 97 #[.val (.long ex), .second, .val (.long nw), .second, .val (.long tt), .second, .val (.long ts), .second, .val (.int fl), .val (.int (1 : Int32)), .val (.ref b19), .val (.ref b24), .val (.int (own_lt nw ex)), .val (.int (own_lt tt ex)), .val (.int (0 : Int32)), .val (.int (1 : Int32)), .unset, .unset, .unset] [(.long (1 : Int64)), (.long ex)]))
      refine own_go (fun t k => XS.lsub X33.here hx rfl (hb hby at_97) rfl k) ?_
      show OwnG p.tables e below _ (T33.setTop (mkF m 98 #[.val (.long ex), .second, .val (.long nw), .second, .val (.long tt), .second, .val (.long ts), .second, .val (.int fl), .val (.int (1 : Int32)), .val (.ref b19), .val (.ref b24), .val (.int (own_lt nw ex)), .val (.int (own_lt tt ex)), .val (.int (0 : Int32)), .val (.int (1 : Int32)), .unset, .unset, .unset] [(.long (ex - (1 : Int64)))]))
      refine own_go (fun t k => XS.goto X33.here hx rfl (pc0 := 98) (pc' := 102) rfl (hb hby at_98) (by decide) (by decide) k) ?_
      show OwnG p.tables e below _ (T33.setTop (mkF m 102 #[.val (.long ex), .second, .val (.long nw), .second, .val (.long tt), .second, .val (.long ts), .second, .val (.int fl), .val (.int (1 : Int32)), .val (.ref b19), .val (.ref b24), .val (.int (own_lt nw ex)), .val (.int (own_lt tt ex)), .val (.int (0 : Int32)), .val (.int (1 : Int32)), .unset, .unset, .unset] [(.long (ex - (1 : Int64)))]))
      refine own_go (fun t k => XS.lstore X33.here hx rfl (hb hby at_102) rfl (l' := #[.val (.long ex), .second, .val (.long nw), .second, .val (.long tt), .second, .val (.long ts), .second, .val (.int fl), .val (.int (1 : Int32)), .val (.ref b19), .val (.ref b24), .val (.int (own_lt nw ex)), .val (.int (own_lt tt ex)), .val (.int (0 : Int32)), .val (.int (1 : Int32)), .val (.long (ex - (1 : Int64))), .second, .unset]) rfl k) ?_
      show OwnG p.tables e below _ (T33.setTop (mkF m 104 #[.val (.long ex), .second, .val (.long nw), .second, .val (.long tt), .second, .val (.long ts), .second, .val (.int fl), .val (.int (1 : Int32)), .val (.ref b19), .val (.ref b24), .val (.int (own_lt nw ex)), .val (.int (own_lt tt ex)), .val (.int (0 : Int32)), .val (.int (1 : Int32)), .val (.long (ex - (1 : Int64))), .second, .unset] []))
      refine own_go (fun t k => XS.iload X33.here hx rfl (hb hby at_104) rfl  k) ?_
      show OwnG p.tables e below _ (T33.setTop (mkF m 106 #[.val (.long ex), .second, .val (.long nw), .second, .val (.long tt), .second, .val (.long ts), .second, .val (.int fl), .val (.int (1 : Int32)), .val (.ref b19), .val (.ref b24), .val (.int (own_lt nw ex)), .val (.int (own_lt tt ex)), .val (.int (0 : Int32)), .val (.int (1 : Int32)), .val (.long (ex - (1 : Int64))), .second, .unset] [(.int (1 : Int32))]))
      refine own_go (fun t k => XS.ifNo X33.here hx rfl (hb hby at_106) rfl ((if0 _ _).trans (feq (by decide : ¬ ((1 : Int32) = (0 : Int32)))).1) k) ?_
      show OwnG p.tables e below _ (T33.setTop (mkF m 109 #[.val (.long ex), .second, .val (.long nw), .second, .val (.long tt), .second, .val (.long ts), .second, .val (.int fl), .val (.int (1 : Int32)), .val (.ref b19), .val (.ref b24), .val (.int (own_lt nw ex)), .val (.int (own_lt tt ex)), .val (.int (0 : Int32)), .val (.int (1 : Int32)), .val (.long (ex - (1 : Int64))), .second, .unset] []))
      refine own_go (fun t k => XS.aload X33.here hx rfl (hb hby at_109) rfl rfl k) ?_
      show OwnG p.tables e below _ (T33.setTop (mkF m 111 #[.val (.long ex), .second, .val (.long nw), .second, .val (.long tt), .second, .val (.long ts), .second, .val (.int fl), .val (.int (1 : Int32)), .val (.ref b19), .val (.ref b24), .val (.int (own_lt nw ex)), .val (.int (own_lt tt ex)), .val (.int (0 : Int32)), .val (.int (1 : Int32)), .val (.long (ex - (1 : Int64))), .second, .unset] [(.ref b24)]))
      refine own_go (fun t k => XS.lload X33.here hx rfl (hb hby at_111) rfl  k) ?_
      show OwnG p.tables e below _ (T33.setTop (mkF m 113 #[.val (.long ex), .second, .val (.long nw), .second, .val (.long tt), .second, .val (.long ts), .second, .val (.int fl), .val (.int (1 : Int32)), .val (.ref b19), .val (.ref b24), .val (.int (own_lt nw ex)), .val (.int (own_lt tt ex)), .val (.int (0 : Int32)), .val (.int (1 : Int32)), .val (.long (ex - (1 : Int64))), .second, .unset] [(.long (ex - (1 : Int64))), (.ref b24)]))
      obtain ⟨cq37, kq37, q37a, q37b, q37c⟩ := isOf hZ e33 Fq29_0
      obtain ⟨_, _, ⟨T37, L37, k37, n37⟩, -, X37, ⟨Lc37, hQ37, l37, y37, z37⟩, st37⟩ := X33.virtualBack hx (y := (⟨"com/example/keyspace/keyspace/engine/Cell", "isLive", "(J)Z"⟩ : MethodName)) (z := (⟨"com/example/keyspace/keyspace/engine/Cell", "isLive", "(J)Z"⟩ : MethodName)) hown (mvT hZ (hw _ (List.mem_of_getElem? (i := 21) rfl))) (mvT hZ (hw _ (List.mem_of_getElem? (i := 22) rfl))) (notFace_of_selects (args := #[]) (mvT hZ (hw _ (List.mem_of_getElem? (i := 24) rfl)))) (mvT hZ (hw _ (List.mem_of_getElem? (i := 24) rfl))) (mvT hZ (hw _ (List.mem_of_getElem? (i := 23) rfl))) (by decide) (backOf (W := 0) (own_live0 l Z a0 hw [] b24 (ex - (1 : Int64)) b19 ex T29.heap n0 Z29 Fq29_1 Fq29_3) hZ (hw _ (List.mem_of_getElem? (i := 25) rfl)) (hw _ (List.mem_of_getElem? (i := 3) rfl)) (by decide) (by decide)) q37a q37c (g := (mkF m 113 #[.val (.long ex), .second, .val (.long nw), .second, .val (.long tt), .second, .val (.long ts), .second, .val (.int fl), .val (.int (1 : Int32)), .val (.ref b19), .val (.ref b24), .val (.int (own_lt nw ex)), .val (.int (own_lt tt ex)), .val (.int (0 : Int32)), .val (.int (1 : Int32)), .val (.long (ex - (1 : Int64))), .second, .unset] [(.long (ex - (1 : Int64))), (.ref b24)])) rfl (by rw [hml]; rfl) (Steps.refl _) (argsL := [(.long (ex - (1 : Int64)))]) (rest := []) (lenOf own_pd59 rfl) rfl (by show 2 * 0 + _ ≤ _; exact Nat.le_of_eq rfl) (hb hby at_113) (fun _ _ => ⟨rfl, e33, (by decide : 2 + 0 ≤ _), (by decide : 4 + 0 ≤ _)⟩)
      dsimp only [Pt.U, Pt.locs, Pt.cells, Pt.slots] at X37 l37 y37 z37 st37 hQ37
      subst l37 y37 z37
      obtain ⟨rfl, Nq37, eq37⟩ := hQ37
      have N37 := Fr.app N33 Nq37
      have e37 : T37.heap = T29.heap := eq37
      refine own_go (fun t k => st37.trans k) ?_
      show OwnG p.tables e below _ (T37.setTop (mkF m 116 #[.val (.long ex), .second, .val (.long nw), .second, .val (.long tt), .second, .val (.long ts), .second, .val (.int fl), .val (.int (1 : Int32)), .val (.ref b19), .val (.ref b24), .val (.int (own_lt nw ex)), .val (.int (own_lt tt ex)), .val (.int (0 : Int32)), .val (.int (1 : Int32)), .val (.long (ex - (1 : Int64))), .second, .unset] [(.int (own_lt (ex - (1 : Int64)) ex))]))
      rw [own_before hc34]
      show OwnG p.tables e below _ (T37.setTop (mkF m 116 #[.val (.long ex), .second, .val (.long nw), .second, .val (.long tt), .second, .val (.long ts), .second, .val (.int fl), .val (.int (1 : Int32)), .val (.ref b19), .val (.ref b24), .val (.int (own_lt nw ex)), .val (.int (own_lt tt ex)), .val (.int (0 : Int32)), .val (.int (1 : Int32)), .val (.long (ex - (1 : Int64))), .second, .unset] [(.int (1 : Int32))]))
      refine own_go (fun t k => XS.goto X37.here hx rfl (pc0 := 116) (pc' := 120) rfl (hb hby at_116) (by decide) (by decide) k) ?_
      show OwnG p.tables e below _ (T37.setTop (mkF m 120 #[.val (.long ex), .second, .val (.long nw), .second, .val (.long tt), .second, .val (.long ts), .second, .val (.int fl), .val (.int (1 : Int32)), .val (.ref b19), .val (.ref b24), .val (.int (own_lt nw ex)), .val (.int (own_lt tt ex)), .val (.int (0 : Int32)), .val (.int (1 : Int32)), .val (.long (ex - (1 : Int64))), .second, .unset] [(.int (1 : Int32))]))
      refine own_go (fun t k => XS.istore X37.here hx rfl (hb hby at_120) rfl (l' := #[.val (.long ex), .second, .val (.long nw), .second, .val (.long tt), .second, .val (.long ts), .second, .val (.int fl), .val (.int (1 : Int32)), .val (.ref b19), .val (.ref b24), .val (.int (own_lt nw ex)), .val (.int (own_lt tt ex)), .val (.int (0 : Int32)), .val (.int (1 : Int32)), .val (.long (ex - (1 : Int64))), .second, .val (.int (1 : Int32))]) rfl k) ?_
      show OwnG p.tables e below _ (T37.setTop (mkF m 122 #[.val (.long ex), .second, .val (.long nw), .second, .val (.long tt), .second, .val (.long ts), .second, .val (.int fl), .val (.int (1 : Int32)), .val (.ref b19), .val (.ref b24), .val (.int (own_lt nw ex)), .val (.int (own_lt tt ex)), .val (.int (0 : Int32)), .val (.int (1 : Int32)), .val (.long (ex - (1 : Int64))), .second, .val (.int (1 : Int32))] []))
      refine own_go (fun t k => XS.iload X37.here hx rfl (hb hby at_122) rfl  k) ?_
      show OwnG p.tables e below _ (T37.setTop (mkF m 124 #[.val (.long ex), .second, .val (.long nw), .second, .val (.long tt), .second, .val (.long ts), .second, .val (.int fl), .val (.int (1 : Int32)), .val (.ref b19), .val (.ref b24), .val (.int (own_lt nw ex)), .val (.int (own_lt tt ex)), .val (.int (0 : Int32)), .val (.int (1 : Int32)), .val (.long (ex - (1 : Int64))), .second, .val (.int (1 : Int32))] [(.int (1 : Int32))]))
      refine own_go (fun t k => XS.ifYes X37.here hx rfl (pc0 := 124) (pc' := 144) rfl (hb hby at_124) rfl ((if0 _ _).trans (feq (by decide : ¬ ((1 : Int32) = (0 : Int32)))).2) (by decide) (by decide) k) ?_
      show OwnG p.tables e below _ (T37.setTop (mkF m 144 #[.val (.long ex), .second, .val (.long nw), .second, .val (.long tt), .second, .val (.long ts), .second, .val (.int fl), .val (.int (1 : Int32)), .val (.ref b19), .val (.ref b24), .val (.int (own_lt nw ex)), .val (.int (own_lt tt ex)), .val (.int (0 : Int32)), .val (.int (1 : Int32)), .val (.long (ex - (1 : Int64))), .second, .val (.int (1 : Int32))] []))
      refine own_go (fun t k => XS.iload X37.here hx rfl (hb hby at_144) rfl  k) ?_
      show OwnG p.tables e below _ (T37.setTop (mkF m 146 #[.val (.long ex), .second, .val (.long nw), .second, .val (.long tt), .second, .val (.long ts), .second, .val (.int fl), .val (.int (1 : Int32)), .val (.ref b19), .val (.ref b24), .val (.int (own_lt nw ex)), .val (.int (own_lt tt ex)), .val (.int (0 : Int32)), .val (.int (1 : Int32)), .val (.long (ex - (1 : Int64))), .second, .val (.int (1 : Int32))] [(.int (0 : Int32))]))
      refine own_go (fun t k => XS.ifYes X37.here hx rfl (pc0 := 146) (pc' := 151) rfl (hb hby at_146) rfl ((if0 _ _).trans (teq (by decide : (0 : Int32) = (0 : Int32))).1) (by decide) (by decide) k) ?_
      show OwnG p.tables e below _ (T37.setTop (mkF m 151 #[.val (.long ex), .second, .val (.long nw), .second, .val (.long tt), .second, .val (.long ts), .second, .val (.int fl), .val (.int (1 : Int32)), .val (.ref b19), .val (.ref b24), .val (.int (own_lt nw ex)), .val (.int (own_lt tt ex)), .val (.int (0 : Int32)), .val (.int (1 : Int32)), .val (.long (ex - (1 : Int64))), .second, .val (.int (1 : Int32))] []))
      refine own_go (fun t k => XS.iload X37.here hx rfl (hb hby at_151) rfl  k) ?_
      show OwnG p.tables e below _ (T37.setTop (mkF m 153 #[.val (.long ex), .second, .val (.long nw), .second, .val (.long tt), .second, .val (.long ts), .second, .val (.int fl), .val (.int (1 : Int32)), .val (.ref b19), .val (.ref b24), .val (.int (own_lt nw ex)), .val (.int (own_lt tt ex)), .val (.int (0 : Int32)), .val (.int (1 : Int32)), .val (.long (ex - (1 : Int64))), .second, .val (.int (1 : Int32))] [(.int (1 : Int32))]))
      refine own_go (fun t k => XS.iload X37.here hx rfl (hb hby at_153) rfl  k) ?_
      show OwnG p.tables e below _ (T37.setTop (mkF m 155 #[.val (.long ex), .second, .val (.long nw), .second, .val (.long tt), .second, .val (.long ts), .second, .val (.int fl), .val (.int (1 : Int32)), .val (.ref b19), .val (.ref b24), .val (.int (own_lt nw ex)), .val (.int (own_lt tt ex)), .val (.int (0 : Int32)), .val (.int (1 : Int32)), .val (.long (ex - (1 : Int64))), .second, .val (.int (1 : Int32))] [(.int (1 : Int32)), (.int (1 : Int32))]))
      refine own_go (fun t k => XS.ifNo X37.here hx rfl (hb hby at_155) rfl ((if0 _ _).trans (feq (by decide : ¬ ((1 : Int32) = (0 : Int32)))).1) k) ?_
      show OwnG p.tables e below _ (T37.setTop (mkF m 158 #[.val (.long ex), .second, .val (.long nw), .second, .val (.long tt), .second, .val (.long ts), .second, .val (.int fl), .val (.int (1 : Int32)), .val (.ref b19), .val (.ref b24), .val (.int (own_lt nw ex)), .val (.int (own_lt tt ex)), .val (.int (0 : Int32)), .val (.int (1 : Int32)), .val (.long (ex - (1 : Int64))), .second, .val (.int (1 : Int32))] [(.int (1 : Int32))]))
      refine own_go (fun t k => XS.iload X37.here hx rfl (hb hby at_158) rfl  k) ?_
      show OwnG p.tables e below _ (T37.setTop (mkF m 160 #[.val (.long ex), .second, .val (.long nw), .second, .val (.long tt), .second, .val (.long ts), .second, .val (.int fl), .val (.int (1 : Int32)), .val (.ref b19), .val (.ref b24), .val (.int (own_lt nw ex)), .val (.int (own_lt tt ex)), .val (.int (0 : Int32)), .val (.int (1 : Int32)), .val (.long (ex - (1 : Int64))), .second, .val (.int (1 : Int32))] [(.int (1 : Int32)), (.int (1 : Int32))]))
      refine own_go (fun t k => XS.ifNo X37.here hx rfl (hb hby at_160) rfl ((if0 _ _).trans (feq (by decide : ¬ ((1 : Int32) = (0 : Int32)))).1) k) ?_
      show OwnG p.tables e below _ (T37.setTop (mkF m 163 #[.val (.long ex), .second, .val (.long nw), .second, .val (.long tt), .second, .val (.long ts), .second, .val (.int fl), .val (.int (1 : Int32)), .val (.ref b19), .val (.ref b24), .val (.int (own_lt nw ex)), .val (.int (own_lt tt ex)), .val (.int (0 : Int32)), .val (.int (1 : Int32)), .val (.long (ex - (1 : Int64))), .second, .val (.int (1 : Int32))] [(.int (1 : Int32))]))
      refine own_go (fun t k => XS.iconst X37.here hx rfl (hb hby at_163) k) ?_
      show OwnG p.tables e below _ (T37.setTop (mkF m 164 #[.val (.long ex), .second, .val (.long nw), .second, .val (.long tt), .second, .val (.long ts), .second, .val (.int fl), .val (.int (1 : Int32)), .val (.ref b19), .val (.ref b24), .val (.int (own_lt nw ex)), .val (.int (own_lt tt ex)), .val (.int (0 : Int32)), .val (.int (1 : Int32)), .val (.long (ex - (1 : Int64))), .second, .val (.int (1 : Int32))] [(.int (1 : Int32)), (.int (1 : Int32))]))
      refine own_go (fun t k => XS.goto X37.here hx rfl (pc0 := 164) (pc' := 168) rfl (hb hby at_164) (by decide) (by decide) k) ?_
      show OwnG p.tables e below _ (T37.setTop (mkF m 168 #[.val (.long ex), .second, .val (.long nw), .second, .val (.long tt), .second, .val (.long ts), .second, .val (.int fl), .val (.int (1 : Int32)), .val (.ref b19), .val (.ref b24), .val (.int (own_lt nw ex)), .val (.int (own_lt tt ex)), .val (.int (0 : Int32)), .val (.int (1 : Int32)), .val (.long (ex - (1 : Int64))), .second, .val (.int (1 : Int32))] [(.int (1 : Int32)), (.int (1 : Int32))]))
      refine own_go (fun t k => XS.icmpYes X37.here hx rfl (pc0 := 168) (pc' := 173) rfl (hb hby at_168) rfl (teq (by decide : (1 : Int32) = (1 : Int32))).1 (by decide) (by decide) k) ?_
      show OwnG p.tables e below _ (T37.setTop (mkF m 173 #[.val (.long ex), .second, .val (.long nw), .second, .val (.long tt), .second, .val (.long ts), .second, .val (.int fl), .val (.int (1 : Int32)), .val (.ref b19), .val (.ref b24), .val (.int (own_lt nw ex)), .val (.int (own_lt tt ex)), .val (.int (0 : Int32)), .val (.int (1 : Int32)), .val (.long (ex - (1 : Int64))), .second, .val (.int (1 : Int32))] []))
      refine own_go (fun t k => XS.lloadN X37.here hx rfl (hb hby at_173) rfl  k) ?_
      show OwnG p.tables e below _ (T37.setTop (mkF m 174 #[.val (.long ex), .second, .val (.long nw), .second, .val (.long tt), .second, .val (.long ts), .second, .val (.int fl), .val (.int (1 : Int32)), .val (.ref b19), .val (.ref b24), .val (.int (own_lt nw ex)), .val (.int (own_lt tt ex)), .val (.int (0 : Int32)), .val (.int (1 : Int32)), .val (.long (ex - (1 : Int64))), .second, .val (.int (1 : Int32))] [(.long nw)]))
      refine own_go (fun t k => XS.iload X37.here hx rfl (hb hby at_174) rfl  k) ?_
      show OwnG p.tables e below _ (T37.setTop (mkF m 176 #[.val (.long ex), .second, .val (.long nw), .second, .val (.long tt), .second, .val (.long ts), .second, .val (.int fl), .val (.int (1 : Int32)), .val (.ref b19), .val (.ref b24), .val (.int (own_lt nw ex)), .val (.int (own_lt tt ex)), .val (.int (0 : Int32)), .val (.int (1 : Int32)), .val (.long (ex - (1 : Int64))), .second, .val (.int (1 : Int32))] [(.int (own_lt nw ex)), (.long nw)]))
      refine own_go (fun t k => XS.lload X37.here hx rfl (hb hby at_176) rfl  k) ?_
      show OwnG p.tables e below _ (T37.setTop (mkF m 178 #[.val (.long ex), .second, .val (.long nw), .second, .val (.long tt), .second, .val (.long ts), .second, .val (.int fl), .val (.int (1 : Int32)), .val (.ref b19), .val (.ref b24), .val (.int (own_lt nw ex)), .val (.int (own_lt tt ex)), .val (.int (0 : Int32)), .val (.int (1 : Int32)), .val (.long (ex - (1 : Int64))), .second, .val (.int (1 : Int32))] [(.long tt), (.int (own_lt nw ex)), (.long nw)]))
      refine own_go (fun t k => XS.iload X37.here hx rfl (hb hby at_178) rfl  k) ?_
      show OwnG p.tables e below _ (T37.setTop (mkF m 180 #[.val (.long ex), .second, .val (.long nw), .second, .val (.long tt), .second, .val (.long ts), .second, .val (.int fl), .val (.int (1 : Int32)), .val (.ref b19), .val (.ref b24), .val (.int (own_lt nw ex)), .val (.int (own_lt tt ex)), .val (.int (0 : Int32)), .val (.int (1 : Int32)), .val (.long (ex - (1 : Int64))), .second, .val (.int (1 : Int32))] [(.int (own_lt tt ex)), (.long tt), (.int (own_lt nw ex)), (.long nw)]))
      obtain ⟨_, _, ⟨T38, L38, k38, n38⟩, -, X38, ⟨Lc38, hQ38, l38, y38, z38⟩, st38⟩ := Jvm.LawKit.callS X37 hx (y := (⟨"com/example/keyspace/keyspace/engine/CellIsLivePinLaw", "mono", "(JZJZ)Z"⟩ : MethodName)) hown (mvT hZ (hw _ (List.mem_of_getElem? (i := 27) rfl))) (mvT hZ (hw _ (List.mem_of_getElem? (i := 28) rfl))) (mvT hZ (hw _ (List.mem_of_getElem? (i := 29) rfl))) (mvT hZ (hw _ (List.mem_of_getElem? (i := 30) rfl))) (by decide) (backOf (W := 0) (own_monoC l Z a0 hw [] nw (own_lt nw ex) tt (own_lt tt ex) T29.heap n0 Z29) hZ (hw _ (List.mem_of_getElem? (i := 30) rfl)) (hw _ (List.mem_of_getElem? (i := 29) rfl)) (by decide) (by decide)) (g := (mkF m 180 #[.val (.long ex), .second, .val (.long nw), .second, .val (.long tt), .second, .val (.long ts), .second, .val (.int fl), .val (.int (1 : Int32)), .val (.ref b19), .val (.ref b24), .val (.int (own_lt nw ex)), .val (.int (own_lt tt ex)), .val (.int (0 : Int32)), .val (.int (1 : Int32)), .val (.long (ex - (1 : Int64))), .second, .val (.int (1 : Int32))] [(.int (own_lt tt ex)), (.long tt), (.int (own_lt nw ex)), (.long nw)])) rfl (by rw [hml]; rfl) (argsL := [(.long nw), (.int (own_lt nw ex)), (.long tt), (.int (own_lt tt ex))]) (rest := []) (lenOf own_pd60 rfl) rfl (by show 2 * 0 + _ ≤ _; exact Nat.le_of_eq rfl) (hb hby at_180) (fun _ _ => ⟨rfl, e37, (by decide : 2 + 0 ≤ _), (by decide : 4 + 0 ≤ _)⟩)
      dsimp only [Pt.U, Pt.locs, Pt.cells, Pt.slots] at X38 l38 y38 z38 st38 hQ38
      subst l38 y38 z38
      obtain ⟨rfl, Nq38, eq38⟩ := hQ38
      have N38 := Fr.app N37 Nq38
      have e38 : T38.heap = T29.heap := eq38
      refine own_go (fun t k => st38 t k) ?_
      show OwnG p.tables e below _ (T38.setTop (mkF m 183 #[.val (.long ex), .second, .val (.long nw), .second, .val (.long tt), .second, .val (.long ts), .second, .val (.int fl), .val (.int (1 : Int32)), .val (.ref b19), .val (.ref b24), .val (.int (own_lt nw ex)), .val (.int (own_lt tt ex)), .val (.int (0 : Int32)), .val (.int (1 : Int32)), .val (.long (ex - (1 : Int64))), .second, .val (.int (1 : Int32))] [(.int (own_mono nw (own_lt nw ex) tt (own_lt tt ex)))]))
      rw [own_mono_1 nw tt ex]
      show OwnG p.tables e below _ (T38.setTop (mkF m 183 #[.val (.long ex), .second, .val (.long nw), .second, .val (.long tt), .second, .val (.long ts), .second, .val (.int fl), .val (.int (1 : Int32)), .val (.ref b19), .val (.ref b24), .val (.int (own_lt nw ex)), .val (.int (own_lt tt ex)), .val (.int (0 : Int32)), .val (.int (1 : Int32)), .val (.long (ex - (1 : Int64))), .second, .val (.int (1 : Int32))] [(.int (1 : Int32))]))
      refine own_go (fun t k => XS.ifYes X38.here hx rfl (pc0 := 183) (pc' := 188) rfl (hb hby at_183) rfl ((if0 _ _).trans (feq (by decide : ¬ ((1 : Int32) = (0 : Int32)))).2) (by decide) (by decide) k) ?_
      show OwnG p.tables e below _ (T38.setTop (mkF m 188 #[.val (.long ex), .second, .val (.long nw), .second, .val (.long tt), .second, .val (.long ts), .second, .val (.int fl), .val (.int (1 : Int32)), .val (.ref b19), .val (.ref b24), .val (.int (own_lt nw ex)), .val (.int (own_lt tt ex)), .val (.int (0 : Int32)), .val (.int (1 : Int32)), .val (.long (ex - (1 : Int64))), .second, .val (.int (1 : Int32))] []))
      refine own_go (fun t k => XS.lloadN X38.here hx rfl (hb hby at_188) rfl  k) ?_
      show OwnG p.tables e below _ (T38.setTop (mkF m 189 #[.val (.long ex), .second, .val (.long nw), .second, .val (.long tt), .second, .val (.long ts), .second, .val (.int fl), .val (.int (1 : Int32)), .val (.ref b19), .val (.ref b24), .val (.int (own_lt nw ex)), .val (.int (own_lt tt ex)), .val (.int (0 : Int32)), .val (.int (1 : Int32)), .val (.long (ex - (1 : Int64))), .second, .val (.int (1 : Int32))] [(.long nw)]))
      refine own_go (fun t k => XS.iload X38.here hx rfl (hb hby at_189) rfl  k) ?_
      show OwnG p.tables e below _ (T38.setTop (mkF m 191 #[.val (.long ex), .second, .val (.long nw), .second, .val (.long tt), .second, .val (.long ts), .second, .val (.int fl), .val (.int (1 : Int32)), .val (.ref b19), .val (.ref b24), .val (.int (own_lt nw ex)), .val (.int (own_lt tt ex)), .val (.int (0 : Int32)), .val (.int (1 : Int32)), .val (.long (ex - (1 : Int64))), .second, .val (.int (1 : Int32))] [(.int (own_lt nw ex)), (.long nw)]))
      refine own_go (fun t k => XS.lloadN X38.here hx rfl (hb hby at_191) rfl  k) ?_
      show OwnG p.tables e below _ (T38.setTop (mkF m 192 #[.val (.long ex), .second, .val (.long nw), .second, .val (.long tt), .second, .val (.long ts), .second, .val (.int fl), .val (.int (1 : Int32)), .val (.ref b19), .val (.ref b24), .val (.int (own_lt nw ex)), .val (.int (own_lt tt ex)), .val (.int (0 : Int32)), .val (.int (1 : Int32)), .val (.long (ex - (1 : Int64))), .second, .val (.int (1 : Int32))] [(.long ex), (.int (own_lt nw ex)), (.long nw)]))
      refine own_go (fun t k => XS.iload X38.here hx rfl (hb hby at_192) rfl  k) ?_
      show OwnG p.tables e below _ (T38.setTop (mkF m 194 #[.val (.long ex), .second, .val (.long nw), .second, .val (.long tt), .second, .val (.long ts), .second, .val (.int fl), .val (.int (1 : Int32)), .val (.ref b19), .val (.ref b24), .val (.int (own_lt nw ex)), .val (.int (own_lt tt ex)), .val (.int (0 : Int32)), .val (.int (1 : Int32)), .val (.long (ex - (1 : Int64))), .second, .val (.int (1 : Int32))] [(.int (0 : Int32)), (.long ex), (.int (own_lt nw ex)), (.long nw)]))
      obtain ⟨_, _, ⟨T39, L39, k39, n39⟩, -, X39, ⟨Lc39, hQ39, l39, y39, z39⟩, st39⟩ := Jvm.LawKit.callS X38 hx (y := (⟨"com/example/keyspace/keyspace/engine/CellIsLivePinLaw", "mono", "(JZJZ)Z"⟩ : MethodName)) hown (mvT hZ (hw _ (List.mem_of_getElem? (i := 27) rfl))) (mvT hZ (hw _ (List.mem_of_getElem? (i := 28) rfl))) (mvT hZ (hw _ (List.mem_of_getElem? (i := 29) rfl))) (mvT hZ (hw _ (List.mem_of_getElem? (i := 30) rfl))) (by decide) (backOf (W := 0) (own_monoC l Z a0 hw [] nw (own_lt nw ex) ex (0 : Int32) T29.heap n0 Z29) hZ (hw _ (List.mem_of_getElem? (i := 30) rfl)) (hw _ (List.mem_of_getElem? (i := 29) rfl)) (by decide) (by decide)) (g := (mkF m 194 #[.val (.long ex), .second, .val (.long nw), .second, .val (.long tt), .second, .val (.long ts), .second, .val (.int fl), .val (.int (1 : Int32)), .val (.ref b19), .val (.ref b24), .val (.int (own_lt nw ex)), .val (.int (own_lt tt ex)), .val (.int (0 : Int32)), .val (.int (1 : Int32)), .val (.long (ex - (1 : Int64))), .second, .val (.int (1 : Int32))] [(.int (0 : Int32)), (.long ex), (.int (own_lt nw ex)), (.long nw)])) rfl (by rw [hml]; rfl) (argsL := [(.long nw), (.int (own_lt nw ex)), (.long ex), (.int (0 : Int32))]) (rest := []) (lenOf own_pd60 rfl) rfl (by show 2 * 0 + _ ≤ _; exact Nat.le_of_eq rfl) (hb hby at_194) (fun _ _ => ⟨rfl, e38, (by decide : 2 + 0 ≤ _), (by decide : 4 + 0 ≤ _)⟩)
      dsimp only [Pt.U, Pt.locs, Pt.cells, Pt.slots] at X39 l39 y39 z39 st39 hQ39
      subst l39 y39 z39
      obtain ⟨rfl, Nq39, eq39⟩ := hQ39
      have N39 := Fr.app N38 Nq39
      have e39 : T39.heap = T29.heap := eq39
      refine own_go (fun t k => st39 t k) ?_
      show OwnG p.tables e below _ (T39.setTop (mkF m 197 #[.val (.long ex), .second, .val (.long nw), .second, .val (.long tt), .second, .val (.long ts), .second, .val (.int fl), .val (.int (1 : Int32)), .val (.ref b19), .val (.ref b24), .val (.int (own_lt nw ex)), .val (.int (own_lt tt ex)), .val (.int (0 : Int32)), .val (.int (1 : Int32)), .val (.long (ex - (1 : Int64))), .second, .val (.int (1 : Int32))] [(.int (own_mono nw (own_lt nw ex) ex (0 : Int32)))]))
      rw [own_mono_2 nw ex]
      show OwnG p.tables e below _ (T39.setTop (mkF m 197 #[.val (.long ex), .second, .val (.long nw), .second, .val (.long tt), .second, .val (.long ts), .second, .val (.int fl), .val (.int (1 : Int32)), .val (.ref b19), .val (.ref b24), .val (.int (own_lt nw ex)), .val (.int (own_lt tt ex)), .val (.int (0 : Int32)), .val (.int (1 : Int32)), .val (.long (ex - (1 : Int64))), .second, .val (.int (1 : Int32))] [(.int (1 : Int32))]))
      refine own_go (fun t k => XS.ifYes X39.here hx rfl (pc0 := 197) (pc' := 202) rfl (hb hby at_197) rfl ((if0 _ _).trans (feq (by decide : ¬ ((1 : Int32) = (0 : Int32)))).2) (by decide) (by decide) k) ?_
      show OwnG p.tables e below _ (T39.setTop (mkF m 202 #[.val (.long ex), .second, .val (.long nw), .second, .val (.long tt), .second, .val (.long ts), .second, .val (.int fl), .val (.int (1 : Int32)), .val (.ref b19), .val (.ref b24), .val (.int (own_lt nw ex)), .val (.int (own_lt tt ex)), .val (.int (0 : Int32)), .val (.int (1 : Int32)), .val (.long (ex - (1 : Int64))), .second, .val (.int (1 : Int32))] []))
      refine own_go (fun t k => XS.iload X39.here hx rfl (hb hby at_202) rfl  k) ?_
      show OwnG p.tables e below _ (T39.setTop (mkF m 204 #[.val (.long ex), .second, .val (.long nw), .second, .val (.long tt), .second, .val (.long ts), .second, .val (.int fl), .val (.int (1 : Int32)), .val (.ref b19), .val (.ref b24), .val (.int (own_lt nw ex)), .val (.int (own_lt tt ex)), .val (.int (0 : Int32)), .val (.int (1 : Int32)), .val (.long (ex - (1 : Int64))), .second, .val (.int (1 : Int32))] [(.int (1 : Int32))]))
      refine own_go (fun t k => XS.ifNo X39.here hx rfl (hb hby at_204) rfl ((if0 _ _).trans (feq (by decide : ¬ ((1 : Int32) = (0 : Int32)))).1) k) ?_
      show OwnG p.tables e below _ (T39.setTop (mkF m 207 #[.val (.long ex), .second, .val (.long nw), .second, .val (.long tt), .second, .val (.long ts), .second, .val (.int fl), .val (.int (1 : Int32)), .val (.ref b19), .val (.ref b24), .val (.int (own_lt nw ex)), .val (.int (own_lt tt ex)), .val (.int (0 : Int32)), .val (.int (1 : Int32)), .val (.long (ex - (1 : Int64))), .second, .val (.int (1 : Int32))] []))
      refine own_go (fun t k => XS.lloadN X39.here hx rfl (hb hby at_207) rfl  k) ?_
      show OwnG p.tables e below _ (T39.setTop (mkF m 208 #[.val (.long ex), .second, .val (.long nw), .second, .val (.long tt), .second, .val (.long ts), .second, .val (.int fl), .val (.int (1 : Int32)), .val (.ref b19), .val (.ref b24), .val (.int (own_lt nw ex)), .val (.int (own_lt tt ex)), .val (.int (0 : Int32)), .val (.int (1 : Int32)), .val (.long (ex - (1 : Int64))), .second, .val (.int (1 : Int32))] [(.long nw)]))
      refine own_go (fun t k => XS.iload X39.here hx rfl (hb hby at_208) rfl  k) ?_
      show OwnG p.tables e below _ (T39.setTop (mkF m 210 #[.val (.long ex), .second, .val (.long nw), .second, .val (.long tt), .second, .val (.long ts), .second, .val (.int fl), .val (.int (1 : Int32)), .val (.ref b19), .val (.ref b24), .val (.int (own_lt nw ex)), .val (.int (own_lt tt ex)), .val (.int (0 : Int32)), .val (.int (1 : Int32)), .val (.long (ex - (1 : Int64))), .second, .val (.int (1 : Int32))] [(.int (own_lt nw ex)), (.long nw)]))
      refine own_go (fun t k => XS.lload X39.here hx rfl (hb hby at_210) rfl  k) ?_
      show OwnG p.tables e below _ (T39.setTop (mkF m 212 #[.val (.long ex), .second, .val (.long nw), .second, .val (.long tt), .second, .val (.long ts), .second, .val (.int fl), .val (.int (1 : Int32)), .val (.ref b19), .val (.ref b24), .val (.int (own_lt nw ex)), .val (.int (own_lt tt ex)), .val (.int (0 : Int32)), .val (.int (1 : Int32)), .val (.long (ex - (1 : Int64))), .second, .val (.int (1 : Int32))] [(.long (ex - (1 : Int64))), (.int (own_lt nw ex)), (.long nw)]))
      refine own_go (fun t k => XS.iload X39.here hx rfl (hb hby at_212) rfl  k) ?_
      show OwnG p.tables e below _ (T39.setTop (mkF m 214 #[.val (.long ex), .second, .val (.long nw), .second, .val (.long tt), .second, .val (.long ts), .second, .val (.int fl), .val (.int (1 : Int32)), .val (.ref b19), .val (.ref b24), .val (.int (own_lt nw ex)), .val (.int (own_lt tt ex)), .val (.int (0 : Int32)), .val (.int (1 : Int32)), .val (.long (ex - (1 : Int64))), .second, .val (.int (1 : Int32))] [(.int (1 : Int32)), (.long (ex - (1 : Int64))), (.int (own_lt nw ex)), (.long nw)]))
      obtain ⟨_, _, ⟨T40, L40, k40, n40⟩, -, X40, ⟨Lc40, hQ40, l40, y40, z40⟩, st40⟩ := Jvm.LawKit.callS X39 hx (y := (⟨"com/example/keyspace/keyspace/engine/CellIsLivePinLaw", "mono", "(JZJZ)Z"⟩ : MethodName)) hown (mvT hZ (hw _ (List.mem_of_getElem? (i := 27) rfl))) (mvT hZ (hw _ (List.mem_of_getElem? (i := 28) rfl))) (mvT hZ (hw _ (List.mem_of_getElem? (i := 29) rfl))) (mvT hZ (hw _ (List.mem_of_getElem? (i := 30) rfl))) (by decide) (backOf (W := 0) (own_monoC l Z a0 hw [] nw (own_lt nw ex) (ex - (1 : Int64)) (1 : Int32) T29.heap n0 Z29) hZ (hw _ (List.mem_of_getElem? (i := 30) rfl)) (hw _ (List.mem_of_getElem? (i := 29) rfl)) (by decide) (by decide)) (g := (mkF m 214 #[.val (.long ex), .second, .val (.long nw), .second, .val (.long tt), .second, .val (.long ts), .second, .val (.int fl), .val (.int (1 : Int32)), .val (.ref b19), .val (.ref b24), .val (.int (own_lt nw ex)), .val (.int (own_lt tt ex)), .val (.int (0 : Int32)), .val (.int (1 : Int32)), .val (.long (ex - (1 : Int64))), .second, .val (.int (1 : Int32))] [(.int (1 : Int32)), (.long (ex - (1 : Int64))), (.int (own_lt nw ex)), (.long nw)])) rfl (by rw [hml]; rfl) (argsL := [(.long nw), (.int (own_lt nw ex)), (.long (ex - (1 : Int64))), (.int (1 : Int32))]) (rest := []) (lenOf own_pd60 rfl) rfl (by show 2 * 0 + _ ≤ _; exact Nat.le_of_eq rfl) (hb hby at_214) (fun _ _ => ⟨rfl, e39, (by decide : 2 + 0 ≤ _), (by decide : 4 + 0 ≤ _)⟩)
      dsimp only [Pt.U, Pt.locs, Pt.cells, Pt.slots] at X40 l40 y40 z40 st40 hQ40
      subst l40 y40 z40
      obtain ⟨rfl, Nq40, eq40⟩ := hQ40
      have N40 := Fr.app N39 Nq40
      have e40 : T40.heap = T29.heap := eq40
      refine own_go (fun t k => st40 t k) ?_
      show OwnG p.tables e below _ (T40.setTop (mkF m 217 #[.val (.long ex), .second, .val (.long nw), .second, .val (.long tt), .second, .val (.long ts), .second, .val (.int fl), .val (.int (1 : Int32)), .val (.ref b19), .val (.ref b24), .val (.int (own_lt nw ex)), .val (.int (own_lt tt ex)), .val (.int (0 : Int32)), .val (.int (1 : Int32)), .val (.long (ex - (1 : Int64))), .second, .val (.int (1 : Int32))] [(.int (own_mono nw (own_lt nw ex) (ex - (1 : Int64)) (1 : Int32)))]))
      rw [own_mono_3 nw hc34]
      show OwnG p.tables e below _ (T40.setTop (mkF m 217 #[.val (.long ex), .second, .val (.long nw), .second, .val (.long tt), .second, .val (.long ts), .second, .val (.int fl), .val (.int (1 : Int32)), .val (.ref b19), .val (.ref b24), .val (.int (own_lt nw ex)), .val (.int (own_lt tt ex)), .val (.int (0 : Int32)), .val (.int (1 : Int32)), .val (.long (ex - (1 : Int64))), .second, .val (.int (1 : Int32))] [(.int (1 : Int32))]))
      refine own_go (fun t k => XS.ifYes X40.here hx rfl (pc0 := 217) (pc' := 222) rfl (hb hby at_217) rfl ((if0 _ _).trans (feq (by decide : ¬ ((1 : Int32) = (0 : Int32)))).2) (by decide) (by decide) k) ?_
      show OwnG p.tables e below _ (T40.setTop (mkF m 222 #[.val (.long ex), .second, .val (.long nw), .second, .val (.long tt), .second, .val (.long ts), .second, .val (.int fl), .val (.int (1 : Int32)), .val (.ref b19), .val (.ref b24), .val (.int (own_lt nw ex)), .val (.int (own_lt tt ex)), .val (.int (0 : Int32)), .val (.int (1 : Int32)), .val (.long (ex - (1 : Int64))), .second, .val (.int (1 : Int32))] []))
      refine own_go (fun t k => XS.iconst X40.here hx rfl (hb hby at_222) k) ?_
      show OwnG p.tables e below _ (T40.setTop (mkF m 223 #[.val (.long ex), .second, .val (.long nw), .second, .val (.long tt), .second, .val (.long ts), .second, .val (.int fl), .val (.int (1 : Int32)), .val (.ref b19), .val (.ref b24), .val (.int (own_lt nw ex)), .val (.int (own_lt tt ex)), .val (.int (0 : Int32)), .val (.int (1 : Int32)), .val (.long (ex - (1 : Int64))), .second, .val (.int (1 : Int32))] [(.int (1 : Int32))]))
      obtain ⟨fs, hr, hrun, hended, hW, hsame⟩ := X40.leave (v := some (.int (1 : Int32))) (fun h => by rw [Bd.returns] at h; cases h)
      refine ⟨_, _, retN X40 hx (t := .boolean) Bd.returns (by simp) (hb hby at_223) hr, hrun, hended, _, _, rfl, ?_, ⟨_, rfl⟩, hW, hsame.mono (by decide) (by decide)⟩
      show Q_own_law Z ex nw tt ts fl h0 n0 _ T40.heap _
      rw [e40]
      exact ⟨rfl, N40⟩
set_option maxRecDepth 65536 in
set_option maxHeartbeats 40000000 in
theorem comes_1 {Post : Tables → Env → Array Value → State → Outcome → State → Prop} (hpost : ∀ tb e args s v u, (limb_1_1.after args s (.returned v) u = true ∧ limb_1_2.after args s (.returned v) u = true ∧ True) → FrameEnd s (.returned v) u (Jvm.fieldLocs frame_1_writes args s ++ Jvm.arrayLocs frame_1_arrays args s ++ Jvm.staticLocs frame_1_statics s) 16 128 → Post tb e args s (.returned v) u) :
    ArmFor flags0 classFile x code maxLocals ret World_1 tables_1 room_1 Calls_1 rest_1 Pre_1 Post := by
  intro l hfl _ _ p e ha hc hk s m args below hf hA hF happ hP
  obtain ⟨hcalls, hrest, hpre⟩ := hP
  obtain ⟨-, -, -, hnamed, -, -, -, hat⟩ := (Spec.applies_iff hf).mp happ
  obtain ⟨hg, hn⟩ := and_e (Cond.before_iff.mp (show (Jvm.Cond.and given_1 narrow_1).before args s = true from hpre))
  obtain ⟨hcount, hg⟩ := and_e hg
  obtain ⟨ga0, hg⟩ := and_e hg
  obtain ⟨ga1, hg⟩ := and_e hg
  obtain ⟨ga2, hg⟩ := and_e hg
  obtain ⟨ga3, hg⟩ := and_e hg
  have ga4 := hg
  obtain ⟨w0, w1, w2, w3, w4, rfl⟩ : ∃ w0 w1 w2 w3 w4 : Value, args = #[w0, w1, w2, w3, w4] := by
    have hs : args.size = 5 := by simpa [Cond.value, given_1] using hcount
    obtain ⟨L⟩ := args
    match L, hs with
    | [w0, w1, w2, w3, w4], _ => exact ⟨w0, w1, w2, w3, w4, rfl⟩
  have hw := fun d (hd : d ∈ tables_1) => atoms_spec (ws := Jvm.Cond.code x code maxLocals ret :: tables_1) hat d (List.mem_cons_of_mem _ hd)
  have hfit : Fit s := fun {y c} hc i hi => by
    obtain ⟨ha, rfl⟩ := Array.getElem?_eq_some_iff.mp hc
    have q := List.all_eq_true.mp ((Array.all_eq_true_iff_forall_mem.mp hF) _ (Array.getElem_mem ha)) i (List.mem_range.mpr hi)
    simpa [Array.getElem?_eq_getElem hi] using q
  obtain ⟨i0, ei0⟩ := isL_v ga0
  obtain rfl : w0 = (.long i0) := Option.some.inj ei0
  obtain ⟨i1, ei1⟩ := isL_v ga1
  obtain rfl : w1 = (.long i1) := Option.some.inj ei1
  obtain ⟨i2, ei2⟩ := isL_v ga2
  obtain rfl : w2 = (.long i2) := Option.some.inj ei2
  obtain ⟨i3, ei3⟩ := isL_v ga3
  obtain rfl : w3 = (.long i3) := Option.some.inj ei3
  obtain ⟨i4, ei4⟩ := is_v ga4
  obtain rfl : w4 = (.int i4) := Option.some.inj ei4
  obtain ⟨n, o, h1, h2, h3, _, L, rfl, ⟨rfl, N⟩, hq⟩ := own_law l s _ hw tables_1 i0 i1 i2 i3 i4  s.heap s.heap.size (Nat.le_refl _)  p e ha hc hk s m _ below hf ((Spec.applies_iff_loose hf).mp happ).1 ⟨rfl, State.Warmed39.refl s, rfl⟩ trivial
  refine ⟨n, _, h1, h2, h3, hpost _ _ _ _ _ _ ⟨Cond.after_iff.mpr rfl, Cond.after_iff.mpr (eq_i res_at (Term.int_eval (1)) rfl), trivial⟩ ⟨hq.1, hq.2.1, (hq.2.2.sift fun y hy => Or.inr (N y hy)).mono (by decide) (by decide)⟩⟩
theorem main_1_1 : Claimed_1_1 := comes_1 fun _ _ _ _ _ _ h hF => ⟨h.1, hF⟩
theorem main_1_2 : Claimed_1_2 := comes_1 fun _ _ _ _ _ _ h hF => ⟨h.2.1, hF⟩
end Jvm.Pilot.@@N@@
namespace Jvm.Pilot.@@N@@
open Jvm Jvm.ClassFile Sem Op Lib Jvm.Free Jvm.Stand Jvm.Pilot.@@N@@.Jvm.D
/-! MADE BY PROGRAM (witnessworld.py) out of the Statement's table words and the real class files: 10 classes; the members and pool entries that the words name. The judged class is class 1, her method 2. -/
namespace start1
open Jvm.ClassFile
def u (s : String) : CpInfo := .utf8 (stringToUtf16 s)
/-- a pool by its gaps: so many unusable entries, then the entry; so many at the end -/
def gap : Nat → List CpInfo → List CpInfo
  | 0, r => r
  | n + 1, r => .unusable :: gap n r
def poolList (es : List (Nat × CpInfo)) (last : Nat) : List CpInfo := es.foldr (fun e r => gap e.1 (e.2 :: r)) (gap last [])
def pool (es : List (Nat × CpInfo)) (last : Nat) : Array CpInfo := ⟨poolList es last⟩
def fileOf (pool : Array CpInfo) (this : Nat) (attrs : Array Attribute := #[]) (ms : Array MethodInfo := #[]) (fl : Nat := 33) (sup : Nat := 0) (ifs : Array Nat := #[]) (fds : Array FieldInfo := #[]) : ClassFile where
  minorVersion := 0
  majorVersion := 65
  constantPool := pool
  accessFlags := fl
  thisClass := this
  superClass := sup
  interfaces := ifs
  fields := fds
  methods := ms
  attributes := attrs
def plain (name : String) (sup : Option ClassId) : Class where
  name := name
  kind := .ordinary
  loader := none
  accessFlags := 33
  super := sup
  interfaces := #[]
  cf := none
  fields := #[]
  methods := #[]
  instanceTypes := #[]
  staticTypes := #[]
  resolved := #[]
  callSites := []
  init := .initialized
  statics := none
  mirror := none

def pool0 : Array CpInfo := pool [(5, u "<init>"), (0, u "()V"), (1, .class_ 10), (1, u "java/lang/Object")] 113

def k0c0 : Code := { maxStack := 0, maxLocals := 1, code := object_method_1_code, exceptionTable := #[], attributes := #[] }
def k0m0 : Method := { name := "<init>", desc := "()V", sig := { parameters := [], returnType := none }, accessFlags := 1, code := some k0c0 }
/-- java/lang/Object -/
def k0 : Class := { plain "java/lang/Object" none with
  accessFlags := 33
  interfaces := #[]
  cf := some (fileOf pool0 8 #[] #[{ accessFlags := 1, nameIndex := 5, descriptorIndex := 6, attributes := #[] }] 33 0 #[] #[])
  fields := #[]
  methods := #[k0m0]
  instanceTypes := #[]
  staticTypes := #[]
  resolved := Array.replicate 124 none
  statics := none }

def pool1 : Array CpInfo := pool [(2, .class_ 4), (1, u "java/lang/Object"), (0, u "<init>"), (0, u "()V"), (0, .class_ 8), (0, u "com/example/keyspace/keyspace/engine/Cell"), (0, .methodref 7 10), (0, .nameAndType 5 11), (0, u "([BJJ)V"), (0, .methodref 7 13), (0, .nameAndType 14 15), (0, u "isLive"), (0, u "(J)Z"), (2, .long 9223372036854775808), (1, .methodref 21 22), (0, .class_ 23), (0, .nameAndType 24 25), (0, u "com/example/keyspace/keyspace/engine/CellIsLivePinLaw"), (0, u "mono"), (0, u "(JZJZ)Z"), (3, u "law"), (0, u "(JJJJI)Z")] 4

def k1m0 : Method := { name := "<init>", desc := "()V", sig := { parameters := [], returnType := none }, accessFlags := 1, code := none }
def k1c1 : Code := { maxStack := 4, maxLocals := 6, code := method_2_code, exceptionTable := #[], attributes := #[] }
def k1m1 : Method := { name := "mono", desc := "(JZJZ)Z", sig := { parameters := [.long, .boolean, .long, .boolean], returnType := some .boolean }, accessFlags := 10, code := some k1c1 }
def k1c2 : Code := { maxStack := 7, maxLocals := 19, code := code, exceptionTable := #[], attributes := #[] }
def k1m2 : Method := { name := "law", desc := "(JJJJI)Z", sig := { parameters := [.long, .long, .long, .long, .int], returnType := some .boolean }, accessFlags := 9, code := some k1c2 }
/-- com/example/keyspace/keyspace/engine/CellIsLivePinLaw -/
def k1 : Class := { plain "com/example/keyspace/keyspace/engine/CellIsLivePinLaw" (some 0) with
  accessFlags := 49
  interfaces := #[]
  cf := some (fileOf pool1 21 #[] #[{ accessFlags := 1, nameIndex := 5, descriptorIndex := 6, attributes := #[] }, { accessFlags := 10, nameIndex := 24, descriptorIndex := 25, attributes := #[] }, { accessFlags := 9, nameIndex := 29, descriptorIndex := 30, attributes := #[] }] 49 2 #[] #[])
  fields := #[]
  methods := #[k1m0, k1m1, k1m2]
  instanceTypes := #[]
  staticTypes := #[]
  resolved := Array.replicate 35 none
  statics := none }

def pool2 : Array CpInfo := pool [(1, .methodref 2 3), (0, .class_ 4), (0, .nameAndType 5 6), (0, u "java/lang/Object"), (0, u "<init>"), (0, u "()V"), (0, .class_ 8), (0, u "java/lang/Record")] 13

def k2c0 : Code := { maxStack := 1, maxLocals := 1, code := jdk_30_method_1_code, exceptionTable := #[], attributes := #[] }
def k2m0 : Method := { name := "<init>", desc := "()V", sig := { parameters := [], returnType := none }, accessFlags := 4, code := some k2c0 }
/-- java/lang/Record -/
def k2 : Class := { plain "java/lang/Record" (some 0) with
  accessFlags := 1057
  interfaces := #[]
  cf := some (fileOf pool2 7 #[] #[{ accessFlags := 4, nameIndex := 5, descriptorIndex := 6, attributes := #[] }] 1057 2 #[] #[])
  fields := #[]
  methods := #[k2m0]
  instanceTypes := #[]
  staticTypes := #[]
  resolved := Array.replicate 22 none
  statics := none }

def pool3 : Array CpInfo := pool [(3, .methodref 4 5), (0, .class_ 6), (0, .nameAndType 7 8), (0, u "java/lang/Record"), (0, u "<init>"), (0, u "()V"), (0, .fieldref 10 11), (0, .class_ 12), (0, .nameAndType 13 14), (0, u "com/example/keyspace/keyspace/engine/Cell"), (0, u "value"), (0, u "[B"), (0, .fieldref 10 16), (0, .nameAndType 17 18), (0, u "timestamp"), (0, u "J"), (0, .fieldref 10 20), (0, .nameAndType 21 18), (0, u "expiry"), (21, u "NEVER"), (3, u "([BJJ)V"), (3, u "isLive"), (0, u "(J)Z")] 30

def k3c0 : Code := { maxStack := 3, maxLocals := 6, code := prog_92_method_1_code, exceptionTable := #[], attributes := #[] }
def k3m0 : Method := { name := "<init>", desc := "([BJJ)V", sig := { parameters := [(.array .byte), .long, .long], returnType := none }, accessFlags := 1, code := some k3c0 }
def k3c1 : Code := { maxStack := 4, maxLocals := 3, code := prog_92_method_2_code, exceptionTable := #[], attributes := #[] }
def k3m1 : Method := { name := "isLive", desc := "(J)Z", sig := { parameters := [.long], returnType := some .boolean }, accessFlags := 1, code := some k3c1 }
/-- com/example/keyspace/keyspace/engine/Cell -/
def k3 : Class := { plain "com/example/keyspace/keyspace/engine/Cell" (some 2) with
  accessFlags := 49
  interfaces := #[]
  cf := some (fileOf pool3 10 #[] #[{ accessFlags := 1, nameIndex := 7, descriptorIndex := 47, attributes := #[] }, { accessFlags := 1, nameIndex := 51, descriptorIndex := 52, attributes := #[] }] 49 4 #[] #[{ accessFlags := 18, nameIndex := 13, descriptorIndex := 14, attributes := #[] }, { accessFlags := 18, nameIndex := 17, descriptorIndex := 18, attributes := #[] }, { accessFlags := 18, nameIndex := 21, descriptorIndex := 18, attributes := #[] }, { accessFlags := 25, nameIndex := 43, descriptorIndex := 18, attributes := #[] }])
  fields := #[{ name := "value", type := (.array .byte), accessFlags := 18, slot := 0, constantValue := 0 }, { name := "timestamp", type := .long, accessFlags := 18, slot := 1, constantValue := 0 }, { name := "expiry", type := .long, accessFlags := 18, slot := 2, constantValue := 0 }, { name := "NEVER", type := .long, accessFlags := 25, slot := 0, constantValue := 0 }]
  methods := #[k3m0, k3m1]
  instanceTypes := #[(.array .byte), .long, .long]
  staticTypes := #[.long]
  resolved := Array.replicate 83 none
  statics := none }

def pool4 : Array CpInfo := pool [(1, u "java/lang/Cloneable"), (0, .class_ 1), (0, u "java/lang/Object"), (0, .class_ 3)] 3

/-- java/lang/Cloneable -/
def k4 : Class := { plain "java/lang/Cloneable" (some 0) with
  accessFlags := 1537
  interfaces := #[]
  cf := some (fileOf pool4 2 #[] #[] 1537 4 #[] #[])
  fields := #[]
  methods := #[]
  instanceTypes := #[]
  staticTypes := #[]
  resolved := Array.replicate 8 none
  statics := none }

def pool5 : Array CpInfo := pool [(1, u "java/io/Serializable"), (0, .class_ 1), (0, u "java/lang/Object"), (0, .class_ 3)] 3

/-- java/io/Serializable -/
def k5 : Class := { plain "java/io/Serializable" (some 0) with
  accessFlags := 1537
  interfaces := #[]
  cf := some (fileOf pool5 2 #[] #[] 1537 4 #[] #[])
  fields := #[]
  methods := #[]
  instanceTypes := #[]
  staticTypes := #[]
  resolved := Array.replicate 8 none
  statics := none }

/-- the primitive byte -/
def k6 : Class := { plain "byte" none with kind := .primitive 'B', accessFlags := 0x411 }
/-- [B -/
def k7 : Class := { plain "[B" (some 0) with kind := .array 6 .byte, interfaces := #[4, 5], accessFlags := 1041 }

/-- the primitive int -/
def k8 : Class := { plain "int" none with kind := .primitive 'I', accessFlags := 0x411 }
/-- [I -/
def k9 : Class := { plain "[I" (some 0) with kind := .array 8 .int, interfaces := #[4, 5], accessFlags := 1041 }

def heap : Heap := #[]
def classes : Array Class := #[k0, k1, k2, k3, k4, k5, k6, k7, k8, k9]
def interned : List (Array UInt16 × Addr) := []
def slotsUsed : Nat := 0
def theMethod : MethodId := ⟨1, 2⟩
def args0 : Array Value := #[.long 10, .long 3, .long 4, .long 3, .int 3]
def aboutOver (below : List Frame) : State where
  vm := { classes := classes, interned := interned.toArray }
  heap := heap
  slotsUsed := slotsUsed
  threads := #[{ frames := .invoking theMethod args0 :: below }]
def below0 : List Frame := [.native { method := ⟨0, 0⟩, args := #[] }]
def about1 : State := aboutOver below0
def p0 : Program := .bare "" "" ""
def e0 : Env := launch0.env 0 0 0
theorem w_frames : about1.frames = Frame.invoking theMethod args0 :: below0 := rfl
set_option maxRecDepth 65536 in
theorem w_args : argsFit about1.vm theMethod args0 = true := by decide +kernel
set_option maxRecDepth 65536 in
theorem w_heap : heapFits about1 = true := by decide +kernel
set_option maxRecDepth 65536 in
theorem w_runnable : about1.curStatus? = some .runnable := by decide +kernel
set_option maxRecDepth 65536 in
theorem w_alone : about1.alone = true := by decide +kernel
set_option maxRecDepth 65536 in
theorem w_named : about1.methodNamed? x = some theMethod := by decide +kernel
set_option maxRecDepth 65536 in
theorem w_hears : about1.hears theMethod below0 = true := by decide +kernel
set_option maxRecDepth 65536 in
theorem w_ripe : about1.ripe theMethod args0 below0 = true := by decide +kernel
theorem w_running : about1.status = .running := rfl
set_option maxRecDepth 65536 in
theorem w_room : about1.hasRoom e0.platform room_1 = true :=
  launch0.hasRoom_least _ room_1 (by decide +kernel) (by decide +kernel) (by decide +kernel) (by decide +kernel) (by decide +kernel) (by decide +kernel)
theorem allAtoms_all (ts : List Jvm.Cond) (a : Array Jvm.Value) (st : Jvm.State) : (allAtoms ts).before a st = ts.all (fun c => c.before a st) := by
  induction ts with
  | nil => rfl
  | cons c t ih =>
    show (Jvm.Cond.and c (allAtoms t)).before a st = _
    rw [Jvm.Cond.before_and, ih, List.all_cons]
def words1 : List Jvm.Cond := Jvm.Cond.code x code maxLocals ret :: tables_1
/-- a 'code' word, met by the world's own term for the bytes: nothing is compared byte by byte -/
theorem code_word {y : MethodName} {bytes : ByteArray} {mx : Nat} {rt : Option FieldType} {a : Array Value} {s : State} {m : MethodId} {meth : Method} {c : Code} (h1 : s.methodNamed? y = some m) (h2 : s.vm.method? m = some meth) (h3 : meth.code = some c) (h4 : c.code = bytes)
    (h5 : (c.maxLocals == mx && c.exceptionTable.isEmpty && decide (c.maxStack ≤ mostOperands) && decide (meth.sig.returnType = rt) && !meth.locks && decide (parseMethodDescriptor y.desc = some meth.sig)) = true) : (Jvm.Cond.code y bytes mx rt).before a s = true := by
  simp only [Bool.and_eq_true, beq_iff_eq, Bool.not_eq_true', decide_eq_true_eq] at h5
  obtain ⟨⟨⟨⟨⟨g1, g2⟩, g3⟩, g4⟩, g5⟩, g6⟩ := h5
  simp [Cond.before, Cond.holds, Cond.value, h1, h2, h3, h4, g1, g2, g3, g4, g5, g6]
def isCode : Jvm.Cond → Bool
  | .code _ _ _ _ => true
  | _ => false
theorem all_split {L : List Jvm.Cond} {P : Jvm.Cond → Bool} (h1 : L.all (fun c => isCode c || P c) = true) (h2 : ∀ c ∈ L.filter isCode, P c = true) : L.all P = true := by
  refine List.all_eq_true.mpr fun c hc => ?_
  have h := List.all_eq_true.mp h1 c hc
  rcases Bool.eq_false_or_eq_true (isCode c) with hi | hi
  · exact h2 c (List.mem_filter.mpr ⟨hc, hi⟩)
  · simpa [hi] using h
set_option maxRecDepth 65536 in
theorem w_c0 : (Jvm.Cond.code x code maxLocals ret).before args0 about1 = true := code_word (m := ⟨1, 2⟩) (meth := k1m2) (c := k1c2) (by decide +kernel) rfl rfl rfl (by decide +kernel)
set_option maxRecDepth 65536 in
theorem w_c1 : (Jvm.Cond.code ({ cls := "com/example/keyspace/keyspace/engine/Cell", name := "<init>", desc := "([BJJ)V" } : Jvm.MethodName) prog_92_method_1_code (6 : Nat) (Option.none : Option Jvm.ClassFile.FieldType)).before args0 about1 = true := code_word (m := ⟨3, 0⟩) (meth := k3m0) (c := k3c0) (by decide +kernel) rfl rfl rfl (by decide +kernel)
set_option maxRecDepth 65536 in
theorem w_c2 : (Jvm.Cond.code ({ cls := "java/lang/Record", name := "<init>", desc := "()V" } : Jvm.MethodName) jdk_30_method_1_code (1 : Nat) (Option.none : Option Jvm.ClassFile.FieldType)).before args0 about1 = true := code_word (m := ⟨2, 0⟩) (meth := k2m0) (c := k2c0) (by decide +kernel) rfl rfl rfl (by decide +kernel)
set_option maxRecDepth 65536 in
theorem w_c3 : (Jvm.Cond.code ({ cls := "java/lang/Object", name := "<init>", desc := "()V" } : Jvm.MethodName) object_method_1_code (1 : Nat) (Option.none : Option Jvm.ClassFile.FieldType)).before args0 about1 = true := code_word (m := ⟨0, 0⟩) (meth := k0m0) (c := k0c0) (by decide +kernel) rfl rfl rfl (by decide +kernel)
set_option maxRecDepth 65536 in
theorem w_c4 : (Jvm.Cond.code ({ cls := "com/example/keyspace/keyspace/engine/Cell", name := "isLive", desc := "(J)Z" } : Jvm.MethodName) prog_92_method_2_code (3 : Nat) (Option.some Jvm.ClassFile.FieldType.boolean)).before args0 about1 = true := code_word (m := ⟨3, 1⟩) (meth := k3m1) (c := k3c1) (by decide +kernel) rfl rfl rfl (by decide +kernel)
set_option maxRecDepth 65536 in
theorem w_c5 : (Jvm.Cond.code ({ cls := "com/example/keyspace/keyspace/engine/CellIsLivePinLaw", name := "mono", desc := "(JZJZ)Z" } : Jvm.MethodName) method_2_code (6 : Nat) (Option.some Jvm.ClassFile.FieldType.boolean)).before args0 about1 = true := code_word (m := ⟨1, 1⟩) (meth := k1m1) (c := k1c1) (by decide +kernel) rfl rfl rfl (by decide +kernel)
def codes1 : List Jvm.Cond := [Jvm.Cond.code x code maxLocals ret, Jvm.Cond.code ({ cls := "com/example/keyspace/keyspace/engine/Cell", name := "<init>", desc := "([BJJ)V" } : Jvm.MethodName) prog_92_method_1_code (6 : Nat) (Option.none : Option Jvm.ClassFile.FieldType), Jvm.Cond.code ({ cls := "java/lang/Record", name := "<init>", desc := "()V" } : Jvm.MethodName) jdk_30_method_1_code (1 : Nat) (Option.none : Option Jvm.ClassFile.FieldType), Jvm.Cond.code ({ cls := "java/lang/Object", name := "<init>", desc := "()V" } : Jvm.MethodName) object_method_1_code (1 : Nat) (Option.none : Option Jvm.ClassFile.FieldType), Jvm.Cond.code ({ cls := "com/example/keyspace/keyspace/engine/Cell", name := "isLive", desc := "(J)Z" } : Jvm.MethodName) prog_92_method_2_code (3 : Nat) (Option.some Jvm.ClassFile.FieldType.boolean), Jvm.Cond.code ({ cls := "com/example/keyspace/keyspace/engine/CellIsLivePinLaw", name := "mono", desc := "(JZJZ)Z" } : Jvm.MethodName) method_2_code (6 : Nat) (Option.some Jvm.ClassFile.FieldType.boolean)]
set_option maxRecDepth 65536 in
theorem codes_eq : words1.filter isCode = codes1 := rfl
theorem w_codes : ∀ c ∈ words1.filter isCode, c.before args0 about1 = true := by
  rw [codes_eq]
  intro c hc
  simp only [codes1, List.mem_cons, List.not_mem_nil, or_false] at hc
  rcases hc with rfl | rfl | rfl | rfl | rfl | rfl
  · exact w_c0
  · exact w_c1
  · exact w_c2
  · exact w_c3
  · exact w_c4
  · exact w_c5
set_option maxRecDepth 65536 in
theorem w_t1 : (words1.take 24).all (fun c => isCode c || c.before args0 about1) = true := by decide +kernel
set_option maxRecDepth 65536 in
theorem w_t2 : (words1.drop 24).all (fun c => isCode c || c.before args0 about1) = true := by decide +kernel
theorem w_tables : (allAtoms (Jvm.Cond.code x code maxLocals ret :: tables_1)).before args0 about1 = true := by
  rw [allAtoms_all]
  show words1.all (fun c => c.before args0 about1) = true
  refine all_split ?_ w_codes
  rw [← List.take_append_drop 24 words1, List.all_append, w_t1, w_t2]
  rfl
set_option maxRecDepth 65536 in
theorem w_case : (Jvm.Cond.and given_1 narrow_1).before args0 about1 = true := by decide +kernel
theorem w_applies : (headSpec (Jvm.Cond.code x code maxLocals ret :: tables_1) room_1).applies x e0.platform about1 = true :=
  (Spec.applies_iff w_frames).mpr ⟨w_running, w_runnable, w_alone, w_named, w_hears, w_ripe, w_room, w_tables⟩
theorem atStart : AtStart classFile x code maxLocals ret World_1 tables_1 room_1 Calls_1 rest_1 Pre_1 launch0 p0 e0 about1 theMethod args0 below0 :=
  ⟨lists_1, trivial, launch0.admits_env _ _ _, launch0.least_env, fairChoices_fair.cas, fairChoices_fair.clock, w_frames, w_args, w_heap, w_applies, trivial, trivial, w_case⟩
end start1
theorem witness_1 : WitnessClaimed_1 := ⟨start1.p0, start1.e0, start1.about1, start1.theMethod, start1.args0, start1.below0, start1.atStart⟩
end Jvm.Pilot.@@N@@
