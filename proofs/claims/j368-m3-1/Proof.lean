import JvmDerived
import JvmDerived.Pilot.@@N@@Statement
import JvmDerived.Pilot.@@N@@Code
set_option linter.unusedVariables false
set_option linter.unusedSimpArgs false
namespace Jvm.RoadKit
open Sem ClassFile Op Lib Jvm.Stand Jvm.Free Jvm.LawKit
section New
variable {p : Program} {l : Launch} {e : Env} {R : Room} {s : State} {m : MethodId} {args : Array Value} {below : List Frame} {meth : Method} {c : Code} {T : State} {locs : List Loc} {cells slots : Nat}
theorem retI (X : Stand p l e R s m args below meth c T locs cells slots) (hx : p.tables.exec = Jvm.exec) {pc : Nat} {Ls : Array Slot} {z : Int32} {rest : List Value} (hret : meth.sig.returnType = some .int) (hd : decode c.code pc = .ok (.ireturn, 1)) {fs : List Frame}
    (hl : ∀ (f : JFrame) (acts : List Action), f.method = m → f.locked = none → f.entered = [] → (doReturn e (T.setTop f) acts (some (.int z))).1 = T.setFrames fs) : Steps p.tables e below (T.setTop (mkF m pc Ls (.int z :: rest))) (T.setFrames fs) := by
  have hm' : T.vm.method? m = some meth := X.method'
  have hn : narrow .int (.int z) = .int z := rfl
  show Steps p.tables e below (T.setTop { method := m, pc := pc, locals := Ls, stack := _ :: rest, locked := none }) _
  jvm_step X.here [X.here.top, hx, hd, hm', hret, hn]
  first | (intro acts; rw [hl _ acts rfl rfl rfl]) | rw [hl _ _ rfl rfl rfl]
  exact Steps.refl _
end New
end Jvm.RoadKit
namespace Jvm.Pilot.@@N@@
open Jvm Jvm.ClassFile Sem Op Lib Jvm.Free Jvm.Stand Jvm.LawKit Jvm.RoadKit Bundle Jvm.Pilot.@@N@@.Jvm.D
abbrev OwnG (tb : Tables) (e : Env) (below : List Frame) (R : State → Outcome → Prop) (cur : State) : Prop := ∃ s₂ o, Steps tb e below cur s₂ ∧ R s₂ o
theorem own_go {tb : Tables} {e : Env} {below : List Frame} {R : State → Outcome → Prop} {cur nxt : State} (h : ∀ t, Steps tb e below nxt t → Steps tb e below cur t) (k : OwnG tb e below R nxt) : OwnG tb e below R cur := by
  obtain ⟨s₂, o, h1, h2⟩ := k
  exact ⟨s₂, o, h _ h1, h2⟩
theorem own_pick {α : Type} (c : Prop) (a b : α) : ∃ z : α, (c → z = a) ∧ (¬ c → z = b) := by
  by_cases h : c
  · exact ⟨a, fun _ => rfl, fun q => absurd h q⟩
  · exact ⟨b, fun q => absurd q h, fun _ => rfl⟩
theorem own_ne_or {a d x n : Nat} (h : x = d ∨ n ≤ x) (h1 : a ≠ d) (h2 : a < n) : a ≠ x := by
  rcases h with h | h <;> omega
theorem own_ge_or {d x n k : Nat} (h : x = d ∨ n ≤ x) (h1 : k ≤ d) (h2 : k ≤ n) : k ≤ x := by
  rcases h with h | h <;> omega
theorem own_in_or {d x n k : Nat} {ws : List Nat} (h : x = d ∨ n ≤ x) (h1 : d ∈ ws) (h2 : k ≤ n) : x ∈ ws ∨ k ≤ x := by
  rcases h with rfl | h
  · exact Or.inl h1
  · exact Or.inr (Nat.le_trans h2 h)
theorem own_iw_or {d x n k : Nat} {ws : List Nat} (h : x = d ∨ n ≤ x) (h1 : d ∈ ws ∨ k ≤ d) (h2 : k ≤ n) : x ∈ ws ∨ k ≤ x := by
  rcases h with rfl | h
  · exact h1
  · exact Or.inr (Nat.le_trans h2 h)
theorem own_lsw {tb : Tables} [Ours tb] {e : Env} {below : List Frame} {T target : State} {m : MethodId} {c : Code} {g : JFrame} (h : At T m c below) (hx : tb.exec = Jvm.exec) (hg : g.method = m) {dflt : Int} {pairs : Array (Int × Int)} {len : Nat} {o : Int} {pc0 pc' : Nat} (hpc : g.pc = pc0) (hd : decode c.code g.pc = .ok (.lookupswitch dflt pairs, len)) {i : Int32} {rest : List Value} (hs : g.stack = .int i :: rest)
    (hso : (pairs.toList.zip (pairs.toList.drop 1)).all (fun (a, next) => a.1 < next.1) = true) (hoff : lookupswitch.offset pairs.toList dflt i.toInt = o) (ho : 0 ≤ (pc0 : Int) + o) (hp : ((pc0 : Int) + o).toNat = pc')
    (hr : Steps tb e below (T.setTop { g with pc := pc', stack := rest }) target) : Steps tb e below (T.setTop g) target := by
  subst hg hpc hp hoff
  jvm_step h [h.top, hx, hd, hs, ho, lookupswitch.wp_chain]
  exact ⟨by simpa using hso, hr⟩

def own_cmp (a b : Int64) : Int32 := if a < b then (-1) else if a = b then 0 else 1
theorem own_cmp_lt (a b : Int64) : own_cmp a b < 0 ↔ a < b := by
  unfold own_cmp; by_cases h : a < b
  · simp [h]
  · by_cases h2 : a = b
    · simp [h, h2]
    · simp [h, h2]
theorem own_cmp_eq (a b : Int64) : own_cmp a b = 0 ↔ a = b := by
  unfold own_cmp; by_cases h : a < b
  · have h2 : ¬ a = b := fun e => by subst e; rw [Int64.lt_iff_toInt_lt] at h; omega
    simp [h, h2]
  · by_cases h2 : a = b
    · simp [h2]
    · simp [h, h2]
theorem own_cmp_gt (a b : Int64) : 0 < own_cmp a b ↔ b < a := by
  unfold own_cmp; by_cases h : a < b
  · have h2 : ¬ b < a := fun g => by rw [Int64.lt_iff_toInt_lt] at h g; omega
    simp [h, h2]
  · by_cases h2 : a = b
    · subst h2; simp [h]
    · have h3 : b < a := by
        rw [Int64.lt_iff_toInt_lt] at h ⊢
        have : a.toInt ≠ b.toInt := fun q => h2 (Int64.toInt_inj.mp q)
        omega
      simp [h, h2, h3]
theorem own_same {P Q : Prop} {z w : Int32} {a b : Int32} (e : P ↔ Q) (h1 : P → z = a) (h0 : ¬ P → z = b) (g1 : Q → w = a) (g0 : ¬ Q → w = b) : z = w := by
  by_cases h : P
  · rw [h1 h, g1 (e.mp h)]
  · rw [h0 h, g0 (fun q => h (e.mpr q))]
theorem own_ef0 (m : MethodId) (a1 : Addr) (a2 : Addr) (q1 : Int64) : entryFrame m #[(.ref a1), (.ref a2), (.long q1)] 4 = mkF m 0 #[.val (.ref a1), .val (.ref a2), .val (.long q1), .second] [] := by first | (simp [entryFrame, mkF, argsToLocals, Value.category]; done) | rfl
theorem own_pn1 : plainName "com/example/keyspace/keyspace/engine/PartitionKey" = true := by first | (simp [plainName, overriddenIn]; done) | decide +kernel
theorem own_d2 : decode prog_122_method_1_code 0 = .ok (.aload_n 0, 1) := by decide +kernel
theorem own_d3 : decode prog_122_method_1_code 1 = .ok (.invokespecial 1, 3) := by decide +kernel
theorem own_d4 : decode prog_122_method_1_code 4 = .ok (.aload_n 0, 1) := by decide +kernel
theorem own_d5 : decode prog_122_method_1_code 5 = .ok (.aload_n 1, 1) := by decide +kernel
theorem own_d6 : decode prog_122_method_1_code 6 = .ok (.putfield 7, 3) := by decide +kernel
theorem own_d7 : decode prog_122_method_1_code 9 = .ok (.aload_n 0, 1) := by decide +kernel
theorem own_d8 : decode prog_122_method_1_code 10 = .ok (.lload_n 2, 1) := by decide +kernel
theorem own_d9 : decode prog_122_method_1_code 11 = .ok (.putfield 13, 3) := by decide +kernel
theorem own_d10 : decode prog_122_method_1_code 14 = .ok (.return_, 1) := by decide +kernel
def Q_own_init (Z : State) (a1 : Addr) (a2 : Addr) (q1 : Int64) (h0 : Heap) (n0 : Nat) (v : Option Value) (h : Heap) (L : List Loc) : Prop := v = none ∧ Fr n0 L ∧ Keep h0 h [a1] ∧ Exa Z h a1 "com/example/keyspace/keyspace/engine/PartitionKey" ∧ Fld Z h a1 "com/example/keyspace/keyspace/engine/PartitionKey" "bytes" "[B" (.ref a2) ∧ Fld Z h a1 "com/example/keyspace/keyspace/engine/PartitionKey" "token" "J" (.long q1)
set_option maxRecDepth 65536 in
set_option maxHeartbeats 40000000 in
theorem own_init (l : Launch) (Z : State) (a0 : Array Value) (hw : ∀ d ∈ tables_1, d.before a0 Z = true) (ws : List Jvm.Cond) (a1 : Addr) (a2 : Addr) (q1 : Int64) (h0 : Heap) (n0 : Nat) (Z0 : n0 ≤ h0.size) (f0_0 : Exa Z h0 a1 "com/example/keyspace/keyspace/engine/PartitionKey") (f0_1 : Fld Z h0 a1 "com/example/keyspace/keyspace/engine/PartitionKey" "bytes" "[B" .null) (f0_2 : Fld Z h0 a1 "com/example/keyspace/keyspace/engine/PartitionKey" "token" "J" (.long (0 : Int64))) (g_a1 : n0 ≤ a1) :
    MetFree l (⟨"com/example/keyspace/keyspace/engine/PartitionKey", "<init>", "([BJ)V"⟩ : MethodName) (head1 (Jvm.Cond.code (⟨"com/example/keyspace/keyspace/engine/PartitionKey", "<init>", "([BJ)V"⟩ : MethodName) prog_122_method_1_code 4 none :: ws) ({ frames := 1, cells := 0, slots := 0, locals := 12 } : Room)) (fun a U => a = #[(.ref a1), (.ref a2), (.long q1)] ∧ Z.Warmed39 U.vm ∧ U.heap = h0) (fun _ _ _ _ _ => True) (fun _ U o U' => ∃ v L, o = .returned v ∧ Q_own_init Z a1 a2 q1 h0 n0 v U'.heap L ∧ FrameEnd U o U' L ({ frames := 1, cells := 0, slots := 0, locals := 12 } : Room).cells ({ frames := 1, cells := 0, slots := 0, locals := 12 } : Room).slots) := by
  refine MetFree.of_bodySF (plainFor_of_name own_pn1) hisR ?_
  intro p e s m args below meth c s₁ Bd hml0 hP hK
  obtain ⟨rfl, hZ, hh⟩ := hP
  have hx := Bd.exec
  have hby := Bd.bytes
  have hml : c.maxLocals = 4 := hml0
  have hown : s.vm.findClass "com/example/keyspace/keyspace/engine/PartitionKey" = some m.cls := findClass_of_methodNamed Bd.named
  have hnm := (name_of_methodNamed Bd.named Bd.method).1
  have X0 : Stand p l e ({ frames := 1, cells := 0, slots := 0, locals := 12 } : Room) s m #[(.ref a1), (.ref a2), (.long q1)] below meth c s₁ [] 0 0 := Stand.of_body Bd
  have e0 : s₁.heap = h0 := by rw [← hh, Bd.state]; rfl
  have N0 := Fr.nil n0
  have K0 := Keep.refl h0 [a1]
  refine own_go (fun t k => castTop (own_ef0 m a1 a2 q1) k) ?_
  show OwnG p.tables e below _ (s₁.setTop (mkF m 0 #[.val (.ref a1), .val (.ref a2), .val (.long q1), .second] []))
  refine own_go (fun t k => XS.aloadN X0.here hx rfl (hb hby own_d2) rfl rfl k) ?_
  show OwnG p.tables e below _ (s₁.setTop (mkF m 1 #[.val (.ref a1), .val (.ref a2), .val (.long q1), .second] [(.ref a1)]))
  obtain ⟨T1, X1, e1, st1⟩ := initO X0 hx hZ hown (hw _ (List.mem_of_getElem? (i := 10) rfl)) (hw _ (List.mem_of_getElem? (i := 11) rfl)) (hw _ (List.mem_of_getElem? (i := 12) rfl)) e0 (g := (mkF m 1 #[.val (.ref a1), .val (.ref a2), .val (.long q1), .second] [(.ref a1)])) rfl (by rw [hml]; rfl) rfl (hb hby own_d3) (by decide) (W := 0) (by show 2 * 0 + _ ≤ _; exact Nat.le_of_eq rfl) (by decide)
  refine own_go (fun t k => st1 t k) ?_
  show OwnG p.tables e below _ (T1.setTop (mkF m 4 #[.val (.ref a1), .val (.ref a2), .val (.long q1), .second] []))
  refine own_go (fun t k => XS.aloadN X1.here hx rfl (hb hby own_d4) rfl rfl k) ?_
  show OwnG p.tables e below _ (T1.setTop (mkF m 5 #[.val (.ref a1), .val (.ref a2), .val (.long q1), .second] [(.ref a1)]))
  refine own_go (fun t k => XS.aloadN X1.here hx rfl (hb hby own_d5) rfl rfl k) ?_
  show OwnG p.tables e below _ (T1.setTop (mkF m 6 #[.val (.ref a1), .val (.ref a2), .val (.long q1), .second] [(.ref a2), (.ref a1)]))
  obtain ⟨T2, h2, X2, e2, W2, st2⟩ := putF X1 hx hZ hown (host := "") (Or.inl (hw _ (List.mem_of_getElem? (i := 13) rfl))) Via.refl e1 f0_1 f0_0 (Or.inr ⟨(hw _ (List.mem_of_getElem? (i := 14) rfl)), rfl, hnm⟩) (hw _ (List.mem_of_getElem? (i := 5) rfl)) (ty := (.array .byte)) (by decide) rfl rfl (g := (mkF m 6 #[.val (.ref a1), .val (.ref a2), .val (.long q1), .second] [(.ref a2), (.ref a1)])) rfl rfl (hb hby own_d6)
  have F3 : Exa Z h2 a1 "com/example/keyspace/keyspace/engine/PartitionKey" := f0_0.wr W2
  have F4 : Fld Z h2 a1 "com/example/keyspace/keyspace/engine/PartitionKey" "bytes" "[B" (.ref a2) := f0_1.same W2
  have F5 : Fld Z h2 a1 "com/example/keyspace/keyspace/engine/PartitionKey" "token" "J" (.long (0 : Int64)) := f0_2.other W2 (Or.inr (slot_ne (Or.inr (hw _ (List.mem_of_getElem? (i := 16) rfl))) (Or.inr (hw _ (List.mem_of_getElem? (i := 14) rfl))) (by decide) (t := .long) (t' := (.array .byte)) (by decide) (by decide)))
  have N6 := Fr.snoc X2 N0 g_a1
  have K6 : Keep h0 h2 [a1] := K0.wr W2 (Or.inl (List.mem_of_getElem? (i := 0) rfl))
  have Z6 : n0 ≤ h2.size := Nat.le_trans Z0 (Keep.of_wr W2).1
  refine own_go (fun t k => st2 t k) ?_
  show OwnG p.tables e below _ (T2.setTop (mkF m 9 #[.val (.ref a1), .val (.ref a2), .val (.long q1), .second] []))
  refine own_go (fun t k => XS.aloadN X2.here hx rfl (hb hby own_d7) rfl rfl k) ?_
  show OwnG p.tables e below _ (T2.setTop (mkF m 10 #[.val (.ref a1), .val (.ref a2), .val (.long q1), .second] [(.ref a1)]))
  refine own_go (fun t k => XS.lloadN X2.here hx rfl (hb hby own_d8) rfl  k) ?_
  show OwnG p.tables e below _ (T2.setTop (mkF m 11 #[.val (.ref a1), .val (.ref a2), .val (.long q1), .second] [(.long q1), (.ref a1)]))
  obtain ⟨T7, h7, X7, e7, W7, st7⟩ := putF X2 hx hZ hown (host := "") (Or.inl (hw _ (List.mem_of_getElem? (i := 15) rfl))) Via.refl e2 F5 F3 (Or.inr ⟨(hw _ (List.mem_of_getElem? (i := 16) rfl)), rfl, hnm⟩) (hw _ (List.mem_of_getElem? (i := 5) rfl)) (ty := .long) (by decide) rfl rfl (g := (mkF m 11 #[.val (.ref a1), .val (.ref a2), .val (.long q1), .second] [(.long q1), (.ref a1)])) rfl rfl (hb hby own_d9)
  have F8 : Exa Z h7 a1 "com/example/keyspace/keyspace/engine/PartitionKey" := F3.wr W7
  have F9 : Fld Z h7 a1 "com/example/keyspace/keyspace/engine/PartitionKey" "bytes" "[B" (.ref a2) := F4.other W7 (Or.inr (slot_ne (Or.inr (hw _ (List.mem_of_getElem? (i := 14) rfl))) (Or.inr (hw _ (List.mem_of_getElem? (i := 16) rfl))) (by decide) (t := (.array .byte)) (t' := .long) (by decide) (by decide)))
  have F10 : Fld Z h7 a1 "com/example/keyspace/keyspace/engine/PartitionKey" "token" "J" (.long q1) := F5.same W7
  have N11 := Fr.snoc X7 N6 g_a1
  have K11 : Keep h0 h7 [a1] := K6.wr W7 (Or.inl (List.mem_of_getElem? (i := 0) rfl))
  have Z11 : n0 ≤ h7.size := Nat.le_trans Z6 (Keep.of_wr W7).1
  refine own_go (fun t k => st7 t k) ?_
  show OwnG p.tables e below _ (T7.setTop (mkF m 14 #[.val (.ref a1), .val (.ref a2), .val (.long q1), .second] []))
  obtain ⟨fs, hr, hrun, hended, hW, hsame⟩ := X7.leave (v := none) (fun _ => rfl)
  refine ⟨_, _, X7.returnOut hx Bd.returns (hb hby own_d10) hr, hrun, hended, _, _, rfl, ?_, ⟨_, rfl⟩, hW, hsame.mono (by decide) (by decide)⟩
  show Q_own_init Z a1 a2 q1 h0 n0 _ T7.heap _
  rw [e7]
  exact ⟨rfl, N11, K11, F8, F9, F10⟩
theorem own_ef11 (m : MethodId) (q1 : Int64) : entryFrame m #[(.long q1)] 2 = mkF m 0 #[.val (.long q1), .second] [] := by first | (simp [entryFrame, mkF, argsToLocals, Value.category]; done) | rfl
theorem own_d12 : decode prog_122_method_5_code 0 = .ok (.new 8, 3) := by decide +kernel
theorem own_d13 : decode prog_122_method_5_code 3 = .ok (.dup, 1) := by decide +kernel
theorem own_d14 : decode prog_122_method_5_code 4 = .ok (.iconst 0, 1) := by decide +kernel
theorem own_d15 : decode prog_122_method_5_code 5 = .ok (.newarray .byte, 2) := by decide +kernel
theorem own_d16 : decode prog_122_method_5_code 7 = .ok (.lload_n 0, 1) := by decide +kernel
theorem own_d17 : decode prog_122_method_5_code 8 = .ok (.invokespecial 113, 3) := by decide +kernel
theorem own_pd18 : parseMethodDescriptor "([BJ)V" = some ⟨[(.array .byte), .long], none⟩ := by decide +kernel
theorem own_d19 : decode prog_122_method_5_code 11 = .ok (.areturn, 1) := by decide +kernel
def Q_own_first (Z : State) (q1 : Int64) (h0 : Heap) (n0 : Nat) (v : Option Value) (h : Heap) (L : List Loc) : Prop := ∃ xo : Addr, ∃ xb : Addr, ∃ xk : ClassId, v = some (.ref xo) ∧ Fr n0 L ∧ Keep h0 h [] ∧ Exa Z h xo "com/example/keyspace/keyspace/engine/PartitionKey" ∧ Fld Z h xo "com/example/keyspace/keyspace/engine/PartitionKey" "bytes" "[B" (.ref xb) ∧ Fld Z h xo "com/example/keyspace/keyspace/engine/PartitionKey" "token" "J" (.long q1) ∧ Arv Z h xb xk .byte (0 : Int32) [] (.int (0 : Int32)) ∧ h0.size ≤ xo ∧ h0.size ≤ xb
set_option maxRecDepth 65536 in
set_option maxHeartbeats 40000000 in
theorem own_first (l : Launch) (Z : State) (a0 : Array Value) (hw : ∀ d ∈ tables_1, d.before a0 Z = true) (ws : List Jvm.Cond) (q1 : Int64) (h0 : Heap) (n0 : Nat) (Z0 : n0 ≤ h0.size) :
    MetFree l (⟨"com/example/keyspace/keyspace/engine/PartitionKey", "first", "(J)Lcom/example/keyspace/keyspace/engine/PartitionKey;"⟩ : MethodName) (head1 (Jvm.Cond.code (⟨"com/example/keyspace/keyspace/engine/PartitionKey", "first", "(J)Lcom/example/keyspace/keyspace/engine/PartitionKey;"⟩ : MethodName) prog_122_method_5_code 2 (some (.object "com/example/keyspace/keyspace/engine/PartitionKey")) :: ws) ({ frames := 2, cells := 2, slots := 2, locals := 28 } : Room)) (fun a U => a = #[(.long q1)] ∧ Z.Warmed39 U.vm ∧ U.heap = h0) (fun _ _ _ _ _ => True) (fun _ U o U' => ∃ v L, o = .returned v ∧ Q_own_first Z q1 h0 n0 v U'.heap L ∧ FrameEnd U o U' L ({ frames := 2, cells := 2, slots := 2, locals := 28 } : Room).cells ({ frames := 2, cells := 2, slots := 2, locals := 28 } : Room).slots) := by
  refine MetFree.of_bodySF (plainFor_of_name own_pn1) hisR ?_
  intro p e s m args below meth c s₁ Bd hml0 hP hK
  obtain ⟨rfl, hZ, hh⟩ := hP
  have hx := Bd.exec
  have hby := Bd.bytes
  have hml : c.maxLocals = 2 := hml0
  have hown : s.vm.findClass "com/example/keyspace/keyspace/engine/PartitionKey" = some m.cls := findClass_of_methodNamed Bd.named
  have hnm := (name_of_methodNamed Bd.named Bd.method).1
  have X0 : Stand p l e ({ frames := 2, cells := 2, slots := 2, locals := 28 } : Room) s m #[(.long q1)] below meth c s₁ [] 0 0 := Stand.of_body Bd
  have e0 : s₁.heap = h0 := by rw [← hh, Bd.state]; rfl
  have N0 := Fr.nil n0
  have K0 := Keep.refl h0 []
  refine own_go (fun t k => castTop (own_ef11 m q1) k) ?_
  show OwnG p.tables e below _ (s₁.setTop (mkF m 0 #[.val (.long q1), .second] []))
  obtain ⟨T1, h1, X1, e1, E1, A1, D1, -, st1⟩ := newO X0 hx hZ hown (hw _ (List.mem_of_getElem? (i := 4) rfl)) (hw _ (List.mem_of_getElem? (i := 5) rfl)) (hw _ (List.mem_of_getElem? (i := 2) rfl)) e0 (g := (mkF m 0 #[.val (.long q1), .second] [])) rfl (hb hby own_d12) (by decide) (by decide)
  obtain ⟨b1, g1⟩ : ∃ z, z = h0.size := ⟨_, rfl⟩
  rw [← g1] at A1 D1 st1
  have g_b1 : n0 ≤ b1 := Nat.le_trans Z0 (Nat.le_of_eq g1.symm)
  have sz_b1 : h0.size ≤ b1 := Nat.le_trans K0.1 (Nat.le_of_eq g1.symm)
  have K2 : Keep h0 h1 [] := K0.ext E1
  have Z2 : n0 ≤ h1.size := Nat.le_trans Z0 E1.1
  have F3 : Fld Z h1 b1 "com/example/keyspace/keyspace/engine/PartitionKey" "bytes" "[B" .null := D1 (Or.inr (hw _ (List.mem_of_getElem? (i := 14) rfl))) (ty := (.array .byte)) (by decide)
  have F4 : Fld Z h1 b1 "com/example/keyspace/keyspace/engine/PartitionKey" "token" "J" (.long (0 : Int64)) := D1 (Or.inr (hw _ (List.mem_of_getElem? (i := 16) rfl))) (ty := .long) (by decide)
  refine own_go (fun t k => st1 t k) ?_
  show OwnG p.tables e below _ (T1.setTop (mkF m 3 #[.val (.long q1), .second] [(.ref b1)]))
  refine own_go (fun t k => XS.dup X1.here hx rfl (hb hby own_d13) rfl rfl k) ?_
  show OwnG p.tables e below _ (T1.setTop (mkF m 4 #[.val (.long q1), .second] [(.ref b1), (.ref b1)]))
  refine own_go (fun t k => XS.iconst X1.here hx rfl (hb hby own_d14) k) ?_
  show OwnG p.tables e below _ (T1.setTop (mkF m 5 #[.val (.long q1), .second] [(.int (0 : Int32)), (.ref b1), (.ref b1)]))
  obtain ⟨T5, h5, k5, X5, e5, E5, A5, st5⟩ := newP X1 hx hZ (hw _ (List.mem_of_getElem? (i := 6) rfl)) e1 (g := (mkF m 5 #[.val (.long q1), .second] [(.int (0 : Int32)), (.ref b1), (.ref b1)])) rfl (hb hby own_d15) rfl (by decide) (cap := 0) (by decide) (by decide) (by decide) (by decide)
  obtain ⟨b5, g5⟩ : ∃ z, z = h1.size := ⟨_, rfl⟩
  rw [← g5] at A5 st5
  have ne6 : b1 ≠ b5 := Nat.ne_of_lt (Nat.lt_of_lt_of_le A1.lt (Nat.le_of_eq g5.symm))
  have g_b5 : n0 ≤ b5 := Nat.le_trans Z2 (Nat.le_of_eq g5.symm)
  have sz_b5 : h0.size ≤ b5 := Nat.le_trans K2.1 (Nat.le_of_eq g5.symm)
  have F7 : Exa Z h5 b1 "com/example/keyspace/keyspace/engine/PartitionKey" := A1.ext E5
  have F8 : Fld Z h5 b1 "com/example/keyspace/keyspace/engine/PartitionKey" "bytes" "[B" .null := F3.ext E5
  have F9 : Fld Z h5 b1 "com/example/keyspace/keyspace/engine/PartitionKey" "token" "J" (.long (0 : Int64)) := F4.ext E5
  have K10 : Keep h0 h5 [] := K2.ext E5
  have Z10 : n0 ≤ h5.size := Nat.le_trans Z2 E5.1
  have F11 : Arv Z h5 b5 k5 .byte (0 : Int32) [] (.int (0 : Int32)) := Arv.new A5 (by decide)
  refine own_go (fun t k => st5 t k) ?_
  show OwnG p.tables e below _ (T5.setTop (mkF m 7 #[.val (.long q1), .second] [(.ref b5), (.ref b1), (.ref b1)]))
  refine own_go (fun t k => XS.lloadN X5.here hx rfl (hb hby own_d16) rfl  k) ?_
  show OwnG p.tables e below _ (T5.setTop (mkF m 8 #[.val (.long q1), .second] [(.long q1), (.ref b5), (.ref b1), (.ref b1)]))
  obtain ⟨_, _, ⟨T12, L12, k12, n12⟩, -, X12, ⟨Lc12, hQ12, l12, y12, z12⟩, st12⟩ := X5.specialBack hx (y := (⟨"com/example/keyspace/keyspace/engine/PartitionKey", "<init>", "([BJ)V"⟩ : MethodName)) rfl hown (mvT hZ (hw _ (List.mem_of_getElem? (i := 7) rfl))) (mvT hZ (hw _ (List.mem_of_getElem? (i := 8) rfl))) (mvT hZ (hw _ (List.mem_of_getElem? (i := 9) rfl))) (by decide) (backOf (W := 1) (own_init l Z a0 hw [] b1 b5 q1 h5 n0 Z10 F7 F8 F9 g_b1) hZ (hw _ (List.mem_of_getElem? (i := 9) rfl)) (hw _ (List.mem_of_getElem? (i := 2) rfl)) (by decide) (by decide)) (g := (mkF m 8 #[.val (.long q1), .second] [(.long q1), (.ref b5), (.ref b1), (.ref b1)])) rfl (by rw [hml]; rfl) (Steps.refl _) (a := b1) (argsL := [(.ref b5), (.long q1)]) (rest := [(.ref b1)]) (lenOf own_pd18 rfl) rfl (by show 2 * 0 + _ ≤ _; exact Nat.le_of_eq rfl) (hb hby own_d17) (fun _ _ => ⟨rfl, e5, (by decide : 2 + 0 ≤ _), (by decide : 2 + 0 ≤ _)⟩)
  dsimp only [Pt.U, Pt.locs, Pt.cells, Pt.slots] at X12 l12 y12 z12 st12 hQ12
  subst l12 y12 z12
  obtain ⟨rfl, Nq12, Kq12, Fq12_0, Fq12_1, Fq12_2⟩ := hQ12
  have N12 := Fr.app N0 Nq12
  have F13 : Exa Z T12.heap b1 "com/example/keyspace/keyspace/engine/PartitionKey" := F7.keep Kq12
  have F14 : Arv Z T12.heap b5 k5 .byte (0 : Int32) [] (.int (0 : Int32)) := F11.keep Kq12 (ninS (Ne.symm ne6) nin0)
  have K12 : Keep h0 T12.heap [] := K10.trans Kq12 (allS (Or.inr sz_b1) all0)
  have Z12 : n0 ≤ T12.heap.size := Nat.le_trans Z10 Kq12.1
  refine own_go (fun t k => st12.trans k) ?_
  show OwnG p.tables e below _ (T12.setTop (mkF m 11 #[.val (.long q1), .second] [(.ref b1)]))
  obtain ⟨fs, hr, hrun, hended, hW, hsame⟩ := X12.leave (v := some (.ref b1)) (fun h => by rw [Bd.returns] at h; cases h)
  have hlast : Steps p.tables e below (T12.setTop (mkF m 11 #[.val (.long q1), .second] [(.ref b1)])) (T12.setFrames fs) := by
    exact retOut X12 hx (t := (.object "com/example/keyspace/keyspace/engine/PartitionKey")) Bd.returns rfl (Or.inr (Or.inr (Or.inr (Or.inr ⟨rfl, rfl, rfl⟩)))) (hb hby own_d19) hr
  refine ⟨_, _, hlast, hrun, hended, _, _, rfl, ?_, ⟨_, rfl⟩, hW, hsame.mono (by decide) (by decide)⟩
  show Q_own_first Z q1 h0 n0 _ T12.heap _
  exact ⟨b1, b5, k5, rfl, N12, K12, Fq12_0, Fq12_1, Fq12_2, F14, sz_b1, sz_b5⟩
theorem own_ef20 (m : MethodId) (a1 : Addr) : entryFrame m #[(.ref a1)] 1 = mkF m 0 #[.val (.ref a1)] [] := by first | (simp [entryFrame, mkF, argsToLocals, Value.category]; done) | rfl
theorem own_d21 : decode prog_122_method_7_code 0 = .ok (.aload_n 0, 1) := by decide +kernel
theorem own_d22 : decode prog_122_method_7_code 1 = .ok (.getfield 13, 3) := by decide +kernel
theorem own_d23 : decode prog_122_method_7_code 4 = .ok (.lreturn, 1) := by decide +kernel
def Q_own_token (Z : State) (a1 : Addr) (q1 : Int64) (h0 : Heap) (n0 : Nat) (v : Option Value) (h : Heap) (L : List Loc) : Prop := v = some (.long q1) ∧ Fr n0 L ∧ h = h0
set_option maxRecDepth 65536 in
set_option maxHeartbeats 40000000 in
theorem own_token (l : Launch) (Z : State) (a0 : Array Value) (hw : ∀ d ∈ tables_1, d.before a0 Z = true) (ws : List Jvm.Cond) (a1 : Addr) (q1 : Int64) (h0 : Heap) (n0 : Nat) (Z0 : n0 ≤ h0.size) (f0_0 : Fld Z h0 a1 "com/example/keyspace/keyspace/engine/PartitionKey" "token" "J" (.long q1)) :
    MetFree l (⟨"com/example/keyspace/keyspace/engine/PartitionKey", "token", "()J"⟩ : MethodName) (head1 (Jvm.Cond.code (⟨"com/example/keyspace/keyspace/engine/PartitionKey", "token", "()J"⟩ : MethodName) prog_122_method_7_code 1 (some .long) :: ws) ({ frames := 0, cells := 0, slots := 0, locals := 0 } : Room)) (fun a U => a = #[(.ref a1)] ∧ Z.Warmed39 U.vm ∧ U.heap = h0) (fun _ _ _ _ _ => True) (fun _ U o U' => ∃ v L, o = .returned v ∧ Q_own_token Z a1 q1 h0 n0 v U'.heap L ∧ FrameEnd U o U' L ({ frames := 0, cells := 0, slots := 0, locals := 0 } : Room).cells ({ frames := 0, cells := 0, slots := 0, locals := 0 } : Room).slots) := by
  refine MetFree.of_bodySF (plainFor_of_name own_pn1) hisR ?_
  intro p e s m args below meth c s₁ Bd hml0 hP hK
  obtain ⟨rfl, hZ, hh⟩ := hP
  have hx := Bd.exec
  have hby := Bd.bytes
  have hml : c.maxLocals = 1 := hml0
  have hown : s.vm.findClass "com/example/keyspace/keyspace/engine/PartitionKey" = some m.cls := findClass_of_methodNamed Bd.named
  have hnm := (name_of_methodNamed Bd.named Bd.method).1
  have X0 : Stand p l e ({ frames := 0, cells := 0, slots := 0, locals := 0 } : Room) s m #[(.ref a1)] below meth c s₁ [] 0 0 := Stand.of_body Bd
  have e0 : s₁.heap = h0 := by rw [← hh, Bd.state]; rfl
  have N0 := Fr.nil n0
  have K0 := Keep.refl h0 []
  refine own_go (fun t k => castTop (own_ef20 m a1) k) ?_
  show OwnG p.tables e below _ (s₁.setTop (mkF m 0 #[.val (.ref a1)] []))
  refine own_go (fun t k => XS.aloadN X0.here hx rfl (hb hby own_d21) rfl rfl k) ?_
  show OwnG p.tables e below _ (s₁.setTop (mkF m 1 #[.val (.ref a1)] [(.ref a1)]))
  obtain ⟨T1, X1, e1, st1⟩ := getF X0 hx hZ hown (host := "") (Or.inl (hw _ (List.mem_of_getElem? (i := 15) rfl))) Via.refl e0 f0_0 (g := (mkF m 1 #[.val (.ref a1)] [(.ref a1)])) rfl rfl (hb hby own_d22)
  refine own_go (fun t k => st1 t k) ?_
  show OwnG p.tables e below _ (T1.setTop (mkF m 4 #[.val (.ref a1)] [(.long q1)]))
  obtain ⟨fs, hr, hrun, hended, hW, hsame⟩ := X1.leave (v := some (.long q1)) (fun h => by rw [Bd.returns] at h; cases h)
  have hlast : Steps p.tables e below (T1.setTop (mkF m 4 #[.val (.ref a1)] [(.long q1)])) (T1.setFrames fs) := by
    exact retOut X1 hx (t := .long) Bd.returns rfl (Or.inr (Or.inl ⟨rfl, rfl, _, rfl⟩)) (hb hby own_d23) hr
  refine ⟨_, _, hlast, hrun, hended, _, _, rfl, ?_, ⟨_, rfl⟩, hW, hsame.mono (by decide) (by decide)⟩
  show Q_own_token Z a1 q1 h0 n0 _ T1.heap _
  rw [e1]
  exact ⟨rfl, N0, rfl⟩
theorem own_ef24 (m : MethodId) (a1 : Addr) : entryFrame m #[(.ref a1)] 1 = mkF m 0 #[.val (.ref a1)] [] := by first | (simp [entryFrame, mkF, argsToLocals, Value.category]; done) | rfl
theorem own_d25 : decode prog_122_method_6_code 0 = .ok (.aload_n 0, 1) := by decide +kernel
theorem own_d26 : decode prog_122_method_6_code 1 = .ok (.getfield 7, 3) := by decide +kernel
theorem own_d27 : decode prog_122_method_6_code 4 = .ok (.areturn, 1) := by decide +kernel
def Q_own_bytes (Z : State) (a1 : Addr) (a2 : Addr) (h0 : Heap) (n0 : Nat) (v : Option Value) (h : Heap) (L : List Loc) : Prop := v = some (.ref a2) ∧ Fr n0 L ∧ h = h0
set_option maxRecDepth 65536 in
set_option maxHeartbeats 40000000 in
theorem own_bytes (l : Launch) (Z : State) (a0 : Array Value) (hw : ∀ d ∈ tables_1, d.before a0 Z = true) (ws : List Jvm.Cond) (a1 : Addr) (a2 : Addr) (h0 : Heap) (n0 : Nat) (Z0 : n0 ≤ h0.size) (f0_0 : Fld Z h0 a1 "com/example/keyspace/keyspace/engine/PartitionKey" "bytes" "[B" (.ref a2)) :
    MetFree l (⟨"com/example/keyspace/keyspace/engine/PartitionKey", "bytes", "()[B"⟩ : MethodName) (head1 (Jvm.Cond.code (⟨"com/example/keyspace/keyspace/engine/PartitionKey", "bytes", "()[B"⟩ : MethodName) prog_122_method_6_code 1 (some (.array .byte)) :: ws) ({ frames := 0, cells := 0, slots := 0, locals := 0 } : Room)) (fun a U => a = #[(.ref a1)] ∧ Z.Warmed39 U.vm ∧ U.heap = h0) (fun _ _ _ _ _ => True) (fun _ U o U' => ∃ v L, o = .returned v ∧ Q_own_bytes Z a1 a2 h0 n0 v U'.heap L ∧ FrameEnd U o U' L ({ frames := 0, cells := 0, slots := 0, locals := 0 } : Room).cells ({ frames := 0, cells := 0, slots := 0, locals := 0 } : Room).slots) := by
  refine MetFree.of_bodySF (plainFor_of_name own_pn1) hisR ?_
  intro p e s m args below meth c s₁ Bd hml0 hP hK
  obtain ⟨rfl, hZ, hh⟩ := hP
  have hx := Bd.exec
  have hby := Bd.bytes
  have hml : c.maxLocals = 1 := hml0
  have hown : s.vm.findClass "com/example/keyspace/keyspace/engine/PartitionKey" = some m.cls := findClass_of_methodNamed Bd.named
  have hnm := (name_of_methodNamed Bd.named Bd.method).1
  have X0 : Stand p l e ({ frames := 0, cells := 0, slots := 0, locals := 0 } : Room) s m #[(.ref a1)] below meth c s₁ [] 0 0 := Stand.of_body Bd
  have e0 : s₁.heap = h0 := by rw [← hh, Bd.state]; rfl
  have N0 := Fr.nil n0
  have K0 := Keep.refl h0 []
  refine own_go (fun t k => castTop (own_ef24 m a1) k) ?_
  show OwnG p.tables e below _ (s₁.setTop (mkF m 0 #[.val (.ref a1)] []))
  refine own_go (fun t k => XS.aloadN X0.here hx rfl (hb hby own_d25) rfl rfl k) ?_
  show OwnG p.tables e below _ (s₁.setTop (mkF m 1 #[.val (.ref a1)] [(.ref a1)]))
  obtain ⟨T1, X1, e1, st1⟩ := getF X0 hx hZ hown (host := "") (Or.inl (hw _ (List.mem_of_getElem? (i := 13) rfl))) Via.refl e0 f0_0 (g := (mkF m 1 #[.val (.ref a1)] [(.ref a1)])) rfl rfl (hb hby own_d26)
  refine own_go (fun t k => st1 t k) ?_
  show OwnG p.tables e below _ (T1.setTop (mkF m 4 #[.val (.ref a1)] [(.ref a2)]))
  obtain ⟨fs, hr, hrun, hended, hW, hsame⟩ := X1.leave (v := some (.ref a2)) (fun h => by rw [Bd.returns] at h; cases h)
  have hlast : Steps p.tables e below (T1.setTop (mkF m 4 #[.val (.ref a1)] [(.ref a2)])) (T1.setFrames fs) := by
    exact retOut X1 hx (t := (.array .byte)) Bd.returns rfl (Or.inr (Or.inr (Or.inr (Or.inr ⟨rfl, rfl, rfl⟩)))) (hb hby own_d27) hr
  refine ⟨_, _, hlast, hrun, hended, _, _, rfl, ?_, ⟨_, rfl⟩, hW, hsame.mono (by decide) (by decide)⟩
  show Q_own_bytes Z a1 a2 h0 n0 _ T1.heap _
  rw [e1]
  exact ⟨rfl, N0, rfl⟩
theorem own_ef28 (m : MethodId) (q1 : Int64) (q2 : Int64) : entryFrame m #[(.long q1), (.long q2)] 4 = mkF m 0 #[.val (.long q1), .second, .val (.long q2), .second] [] := by first | (simp [entryFrame, mkF, argsToLocals, Value.category]; done) | rfl
theorem own_pn29 : plainName "java/lang/Long" = true := by first | (simp [plainName, overriddenIn]; done) | decide +kernel
theorem own_d30 : decode jdk_35_method_42_code 0 = .ok (.lload_n 0, 1) := by decide +kernel
theorem own_d31 : decode jdk_35_method_42_code 1 = .ok (.lload_n 2, 1) := by decide +kernel
theorem own_d32 : decode jdk_35_method_42_code 2 = .ok (.lcmp, 1) := by decide +kernel
theorem own_d33 : decode jdk_35_method_42_code 3 = .ok (.ifCond .ge 7, 3) := by decide +kernel
theorem own_d34 : decode jdk_35_method_42_code 6 = .ok (.iconst (-1), 1) := by decide +kernel
theorem own_d35 : decode jdk_35_method_42_code 7 = .ok (.goto 14, 3) := by decide +kernel
theorem own_d36 : decode jdk_35_method_42_code 21 = .ok (.ireturn, 1) := by decide +kernel
theorem own_d37 : decode jdk_35_method_42_code 10 = .ok (.lload_n 0, 1) := by decide +kernel
theorem own_d38 : decode jdk_35_method_42_code 11 = .ok (.lload_n 2, 1) := by decide +kernel
theorem own_d39 : decode jdk_35_method_42_code 12 = .ok (.lcmp, 1) := by decide +kernel
theorem own_d40 : decode jdk_35_method_42_code 13 = .ok (.ifCond .ne 7, 3) := by decide +kernel
theorem own_d41 : decode jdk_35_method_42_code 16 = .ok (.iconst 0, 1) := by decide +kernel
theorem own_d42 : decode jdk_35_method_42_code 17 = .ok (.goto 4, 3) := by decide +kernel
theorem own_d43 : decode jdk_35_method_42_code 20 = .ok (.iconst 1, 1) := by decide +kernel
def Q_own_lcmp (Z : State) (q1 : Int64) (q2 : Int64) (h0 : Heap) (n0 : Nat) (v : Option Value) (h : Heap) (L : List Loc) : Prop := v = some (.int (own_cmp q1 q2)) ∧ Fr n0 L ∧ h = h0
set_option maxRecDepth 65536 in
set_option maxHeartbeats 40000000 in
theorem own_lcmp (l : Launch) (Z : State) (a0 : Array Value) (hw : ∀ d ∈ tables_1, d.before a0 Z = true) (ws : List Jvm.Cond) (q1 : Int64) (q2 : Int64) (h0 : Heap) (n0 : Nat) (Z0 : n0 ≤ h0.size) :
    MetFree l (⟨"java/lang/Long", "compare", "(JJ)I"⟩ : MethodName) (head1 (Jvm.Cond.code (⟨"java/lang/Long", "compare", "(JJ)I"⟩ : MethodName) jdk_35_method_42_code 4 (some .int) :: ws) ({ frames := 0, cells := 0, slots := 0, locals := 0 } : Room)) (fun a U => a = #[(.long q1), (.long q2)] ∧ Z.Warmed39 U.vm ∧ U.heap = h0) (fun _ _ _ _ _ => True) (fun _ U o U' => ∃ v L, o = .returned v ∧ Q_own_lcmp Z q1 q2 h0 n0 v U'.heap L ∧ FrameEnd U o U' L ({ frames := 0, cells := 0, slots := 0, locals := 0 } : Room).cells ({ frames := 0, cells := 0, slots := 0, locals := 0 } : Room).slots) := by
  refine MetFree.of_bodySF (plainFor_of_name own_pn29) hisR ?_
  intro p e s m args below meth c s₁ Bd hml0 hP hK
  obtain ⟨rfl, hZ, hh⟩ := hP
  have hx := Bd.exec
  have hby := Bd.bytes
  have hml : c.maxLocals = 4 := hml0
  have hown : s.vm.findClass "java/lang/Long" = some m.cls := findClass_of_methodNamed Bd.named
  have hnm := (name_of_methodNamed Bd.named Bd.method).1
  have X0 : Stand p l e ({ frames := 0, cells := 0, slots := 0, locals := 0 } : Room) s m #[(.long q1), (.long q2)] below meth c s₁ [] 0 0 := Stand.of_body Bd
  have e0 : s₁.heap = h0 := by rw [← hh, Bd.state]; rfl
  have N0 := Fr.nil n0
  have K0 := Keep.refl h0 []
  refine own_go (fun t k => castTop (own_ef28 m q1 q2) k) ?_
  show OwnG p.tables e below _ (s₁.setTop (mkF m 0 #[.val (.long q1), .second, .val (.long q2), .second] []))
  refine own_go (fun t k => XS.lloadN X0.here hx rfl (hb hby own_d30) rfl  k) ?_
  show OwnG p.tables e below _ (s₁.setTop (mkF m 1 #[.val (.long q1), .second, .val (.long q2), .second] [(.long q1)]))
  refine own_go (fun t k => XS.lloadN X0.here hx rfl (hb hby own_d31) rfl  k) ?_
  show OwnG p.tables e below _ (s₁.setTop (mkF m 2 #[.val (.long q1), .second, .val (.long q2), .second] [(.long q2), (.long q1)]))
  refine own_go (fun t k => XS.lcmp X0.here hx rfl (hb hby own_d32) rfl k) ?_
  show OwnG p.tables e below _ (s₁.setTop (mkF m 3 #[.val (.long q1), .second, .val (.long q2), .second] [(.int (lcmpW q1 q2))]))
  by_cases hc1 : q1 < q2
  · refine own_go (fun t k => XS.ifNo X0.here hx rfl (hb hby own_d33) rfl ((if0 _ _).trans (tlt ((lw_lt _ _).mpr hc1)).2.1) k) ?_
    show OwnG p.tables e below _ (s₁.setTop (mkF m 6 #[.val (.long q1), .second, .val (.long q2), .second] []))
    refine own_go (fun t k => XS.iconst X0.here hx rfl (hb hby own_d34) k) ?_
    show OwnG p.tables e below _ (s₁.setTop (mkF m 7 #[.val (.long q1), .second, .val (.long q2), .second] [(.int (-1 : Int32))]))
    refine own_go (fun t k => XS.goto X0.here hx rfl (pc0 := 7) (pc' := 21) rfl (hb hby own_d35) (by decide) (by decide) k) ?_
    show OwnG p.tables e below _ (s₁.setTop (mkF m 21 #[.val (.long q1), .second, .val (.long q2), .second] [(.int (-1 : Int32))]))
    obtain ⟨fs, hr, hrun, hended, hW, hsame⟩ := X0.leave (v := some (.int (-1 : Int32))) (fun h => by rw [Bd.returns] at h; cases h)
    refine ⟨_, _, retI X0 hx Bd.returns (hb hby own_d36) hr, hrun, hended, _, _, rfl, ?_, ⟨_, rfl⟩, hW, hsame.mono (by decide) (by decide)⟩
    show Q_own_lcmp Z q1 q2 h0 n0 _ s₁.heap _
    rw [e0]
    exact ⟨by rw [own_cmp, if_pos hc1], N0, rfl⟩
  · refine own_go (fun t k => XS.ifYes X0.here hx rfl (pc0 := 3) (pc' := 10) rfl (hb hby own_d33) rfl ((if0 _ _).trans (flt (mt (lw_lt _ _).mp hc1)).2.1) (by decide) (by decide) k) ?_
    show OwnG p.tables e below _ (s₁.setTop (mkF m 10 #[.val (.long q1), .second, .val (.long q2), .second] []))
    refine own_go (fun t k => XS.lloadN X0.here hx rfl (hb hby own_d37) rfl  k) ?_
    show OwnG p.tables e below _ (s₁.setTop (mkF m 11 #[.val (.long q1), .second, .val (.long q2), .second] [(.long q1)]))
    refine own_go (fun t k => XS.lloadN X0.here hx rfl (hb hby own_d38) rfl  k) ?_
    show OwnG p.tables e below _ (s₁.setTop (mkF m 12 #[.val (.long q1), .second, .val (.long q2), .second] [(.long q2), (.long q1)]))
    refine own_go (fun t k => XS.lcmp X0.here hx rfl (hb hby own_d39) rfl k) ?_
    show OwnG p.tables e below _ (s₁.setTop (mkF m 13 #[.val (.long q1), .second, .val (.long q2), .second] [(.int (lcmpW q1 q2))]))
    by_cases hc2 : q1 = q2
    · refine own_go (fun t k => XS.ifNo X0.here hx rfl (hb hby own_d40) rfl ((if0 _ _).trans (teq ((lw_eq _ _).mpr hc2)).2) k) ?_
      show OwnG p.tables e below _ (s₁.setTop (mkF m 16 #[.val (.long q1), .second, .val (.long q2), .second] []))
      refine own_go (fun t k => XS.iconst X0.here hx rfl (hb hby own_d41) k) ?_
      show OwnG p.tables e below _ (s₁.setTop (mkF m 17 #[.val (.long q1), .second, .val (.long q2), .second] [(.int (0 : Int32))]))
      refine own_go (fun t k => XS.goto X0.here hx rfl (pc0 := 17) (pc' := 21) rfl (hb hby own_d42) (by decide) (by decide) k) ?_
      show OwnG p.tables e below _ (s₁.setTop (mkF m 21 #[.val (.long q1), .second, .val (.long q2), .second] [(.int (0 : Int32))]))
      obtain ⟨fs, hr, hrun, hended, hW, hsame⟩ := X0.leave (v := some (.int (0 : Int32))) (fun h => by rw [Bd.returns] at h; cases h)
      refine ⟨_, _, retI X0 hx Bd.returns (hb hby own_d36) hr, hrun, hended, _, _, rfl, ?_, ⟨_, rfl⟩, hW, hsame.mono (by decide) (by decide)⟩
      show Q_own_lcmp Z q1 q2 h0 n0 _ s₁.heap _
      rw [e0]
      exact ⟨by rw [own_cmp, if_neg hc1, if_pos hc2], N0, rfl⟩
    · refine own_go (fun t k => XS.ifYes X0.here hx rfl (pc0 := 13) (pc' := 20) rfl (hb hby own_d40) rfl ((if0 _ _).trans (feq (mt (lw_eq _ _).mp hc2)).2) (by decide) (by decide) k) ?_
      show OwnG p.tables e below _ (s₁.setTop (mkF m 20 #[.val (.long q1), .second, .val (.long q2), .second] []))
      refine own_go (fun t k => XS.iconst X0.here hx rfl (hb hby own_d43) k) ?_
      show OwnG p.tables e below _ (s₁.setTop (mkF m 21 #[.val (.long q1), .second, .val (.long q2), .second] [(.int (1 : Int32))]))
      obtain ⟨fs, hr, hrun, hended, hW, hsame⟩ := X0.leave (v := some (.int (1 : Int32))) (fun h => by rw [Bd.returns] at h; cases h)
      refine ⟨_, _, retI X0 hx Bd.returns (hb hby own_d36) hr, hrun, hended, _, _, rfl, ?_, ⟨_, rfl⟩, hW, hsame.mono (by decide) (by decide)⟩
      show Q_own_lcmp Z q1 q2 h0 n0 _ s₁.heap _
      rw [e0]
      exact ⟨by rw [own_cmp, if_neg hc1, if_neg hc2], N0, rfl⟩
theorem own_ef44 (m : MethodId)  : entryFrame m #[(.int (0 : Int32)), (.int (0 : Int32))] 2 = mkF m 0 #[.val (.int (0 : Int32)), .val (.int (0 : Int32))] [] := by first | (simp [entryFrame, mkF, argsToLocals, Value.category]; done) | rfl
theorem own_d45 : decode jdk_29_method_69_code 0 = .ok (.iload_n 0, 1) := by decide +kernel
theorem own_d46 : decode jdk_29_method_69_code 1 = .ok (.iload_n 1, 1) := by decide +kernel
theorem own_d47 : decode jdk_29_method_69_code 2 = .ok (.if_icmp .gt 7, 3) := by decide +kernel
theorem own_d48 : decode jdk_29_method_69_code 5 = .ok (.iload_n 0, 1) := by decide +kernel
theorem own_d49 : decode jdk_29_method_69_code 6 = .ok (.goto 4, 3) := by decide +kernel
theorem own_d50 : decode jdk_29_method_69_code 10 = .ok (.ireturn, 1) := by decide +kernel
def Q_own_min (Z : State)  (h0 : Heap) (n0 : Nat) (v : Option Value) (h : Heap) (L : List Loc) : Prop := v = some (.int (0 : Int32)) ∧ Fr n0 L ∧ h = h0
set_option maxRecDepth 65536 in
set_option maxHeartbeats 40000000 in
theorem own_min (l : Launch) (Z : State) (a0 : Array Value) (hw : ∀ d ∈ tables_1, d.before a0 Z = true) (ws : List Jvm.Cond)  (h0 : Heap) (n0 : Nat) (Z0 : n0 ≤ h0.size) :
    MetFree l (⟨"java/lang/Math", "min", "(II)I"⟩ : MethodName) (head1 (Jvm.Cond.code (⟨"java/lang/Math", "min", "(II)I"⟩ : MethodName) jdk_29_method_69_code 2 (some .int) :: ws) ({ frames := 0, cells := 0, slots := 0, locals := 0 } : Room)) (fun a U => a = #[(.int (0 : Int32)), (.int (0 : Int32))] ∧ Z.Warmed39 U.vm ∧ U.heap = h0) (fun _ _ _ _ _ => True) (fun _ U o U' => ∃ v L, o = .returned v ∧ Q_own_min Z  h0 n0 v U'.heap L ∧ FrameEnd U o U' L ({ frames := 0, cells := 0, slots := 0, locals := 0 } : Room).cells ({ frames := 0, cells := 0, slots := 0, locals := 0 } : Room).slots) := by
  refine MetFree.of_bodySF (Jvm.Free.JP.mathPlain rfl (by decide +kernel)) hisR ?_
  intro p e s m args below meth c s₁ Bd hml0 hP hK
  obtain ⟨rfl, hZ, hh⟩ := hP
  have hx := Bd.exec
  have hby := Bd.bytes
  have hml : c.maxLocals = 2 := hml0
  have hown : s.vm.findClass "java/lang/Math" = some m.cls := findClass_of_methodNamed Bd.named
  have hnm := (name_of_methodNamed Bd.named Bd.method).1
  have X0 : Stand p l e ({ frames := 0, cells := 0, slots := 0, locals := 0 } : Room) s m #[(.int (0 : Int32)), (.int (0 : Int32))] below meth c s₁ [] 0 0 := Stand.of_body Bd
  have e0 : s₁.heap = h0 := by rw [← hh, Bd.state]; rfl
  have N0 := Fr.nil n0
  have K0 := Keep.refl h0 []
  refine own_go (fun t k => castTop (own_ef44 m ) k) ?_
  show OwnG p.tables e below _ (s₁.setTop (mkF m 0 #[.val (.int (0 : Int32)), .val (.int (0 : Int32))] []))
  refine own_go (fun t k => XS.iloadN X0.here hx rfl (hb hby own_d45) rfl  k) ?_
  show OwnG p.tables e below _ (s₁.setTop (mkF m 1 #[.val (.int (0 : Int32)), .val (.int (0 : Int32))] [(.int (0 : Int32))]))
  refine own_go (fun t k => XS.iloadN X0.here hx rfl (hb hby own_d46) rfl  k) ?_
  show OwnG p.tables e below _ (s₁.setTop (mkF m 2 #[.val (.int (0 : Int32)), .val (.int (0 : Int32))] [(.int (0 : Int32)), (.int (0 : Int32))]))
  refine own_go (fun t k => XS.icmpNo X0.here hx rfl (hb hby own_d47) rfl (flt (by decide : ¬ ((0 : Int32) < (0 : Int32)))).2.2.1 k) ?_
  show OwnG p.tables e below _ (s₁.setTop (mkF m 5 #[.val (.int (0 : Int32)), .val (.int (0 : Int32))] []))
  refine own_go (fun t k => XS.iloadN X0.here hx rfl (hb hby own_d48) rfl  k) ?_
  show OwnG p.tables e below _ (s₁.setTop (mkF m 6 #[.val (.int (0 : Int32)), .val (.int (0 : Int32))] [(.int (0 : Int32))]))
  refine own_go (fun t k => XS.goto X0.here hx rfl (pc0 := 6) (pc' := 10) rfl (hb hby own_d49) (by decide) (by decide) k) ?_
  show OwnG p.tables e below _ (s₁.setTop (mkF m 10 #[.val (.int (0 : Int32)), .val (.int (0 : Int32))] [(.int (0 : Int32))]))
  obtain ⟨fs, hr, hrun, hended, hW, hsame⟩ := X0.leave (v := some (.int (0 : Int32))) (fun h => by rw [Bd.returns] at h; cases h)
  refine ⟨_, _, retI X0 hx Bd.returns (hb hby own_d50) hr, hrun, hended, _, _, rfl, ?_, ⟨_, rfl⟩, hW, hsame.mono (by decide) (by decide)⟩
  show Q_own_min Z  h0 n0 _ s₁.heap _
  rw [e0]
  exact ⟨rfl, N0, rfl⟩
theorem own_ef51 (m : MethodId) (a1 : Addr) (a2 : Addr) : entryFrame m #[(.ref a1), (.ref a2), (.int (0 : Int32))] 4 = mkF m 0 #[.val (.ref a1), .val (.ref a2), .val (.int (0 : Int32)), .unset] [] := by first | (simp [entryFrame, mkF, argsToLocals, Value.category]; done) | rfl
theorem own_pn52 : plainName "jdk/internal/util/ArraysSupport" = true := by first | (simp [plainName, overriddenIn]; done) | decide +kernel
theorem own_d53 : decode jdk_48_method_13_code 0 = .ok (.iconst 0, 1) := by decide +kernel
theorem own_d54 : decode jdk_48_method_13_code 1 = .ok (.istore_n 3, 1) := by decide +kernel
theorem own_d55 : decode jdk_48_method_13_code 2 = .ok (.iload_n 2, 1) := by decide +kernel
theorem own_d56 : decode jdk_48_method_13_code 3 = .ok (.bipush 7, 2) := by decide +kernel
theorem own_d57 : decode jdk_48_method_13_code 5 = .ok (.if_icmp .le 44, 3) := by decide +kernel
theorem own_d58 : decode jdk_48_method_13_code 49 = .ok (.iload_n 3, 1) := by decide +kernel
theorem own_d59 : decode jdk_48_method_13_code 50 = .ok (.iload_n 2, 1) := by decide +kernel
theorem own_d60 : decode jdk_48_method_13_code 51 = .ok (.if_icmp .ge 20, 3) := by decide +kernel
theorem own_d61 : decode jdk_48_method_13_code 71 = .ok (.iconst (-1), 1) := by decide +kernel
theorem own_d62 : decode jdk_48_method_13_code 72 = .ok (.ireturn, 1) := by decide +kernel
def Q_own_mism (Z : State) (a1 : Addr) (a2 : Addr) (h0 : Heap) (n0 : Nat) (v : Option Value) (h : Heap) (L : List Loc) : Prop := v = some (.int (-1 : Int32)) ∧ Fr n0 L ∧ h = h0
set_option maxRecDepth 65536 in
set_option maxHeartbeats 40000000 in
theorem own_mism (l : Launch) (Z : State) (a0 : Array Value) (hw : ∀ d ∈ tables_1, d.before a0 Z = true) (ws : List Jvm.Cond) (a1 : Addr) (a2 : Addr) (h0 : Heap) (n0 : Nat) (Z0 : n0 ≤ h0.size) :
    MetFree l (⟨"jdk/internal/util/ArraysSupport", "mismatch", "([B[BI)I"⟩ : MethodName) (head1 (Jvm.Cond.code (⟨"jdk/internal/util/ArraysSupport", "mismatch", "([B[BI)I"⟩ : MethodName) jdk_48_method_13_code 4 (some .int) :: ws) ({ frames := 0, cells := 0, slots := 0, locals := 0 } : Room)) (fun a U => a = #[(.ref a1), (.ref a2), (.int (0 : Int32))] ∧ Z.Warmed39 U.vm ∧ U.heap = h0) (fun _ _ _ _ _ => True) (fun _ U o U' => ∃ v L, o = .returned v ∧ Q_own_mism Z a1 a2 h0 n0 v U'.heap L ∧ FrameEnd U o U' L ({ frames := 0, cells := 0, slots := 0, locals := 0 } : Room).cells ({ frames := 0, cells := 0, slots := 0, locals := 0 } : Room).slots) := by
  refine MetFree.of_bodySF (plainFor_of_name own_pn52) hisR ?_
  intro p e s m args below meth c s₁ Bd hml0 hP hK
  obtain ⟨rfl, hZ, hh⟩ := hP
  have hx := Bd.exec
  have hby := Bd.bytes
  have hml : c.maxLocals = 4 := hml0
  have hown : s.vm.findClass "jdk/internal/util/ArraysSupport" = some m.cls := findClass_of_methodNamed Bd.named
  have hnm := (name_of_methodNamed Bd.named Bd.method).1
  have X0 : Stand p l e ({ frames := 0, cells := 0, slots := 0, locals := 0 } : Room) s m #[(.ref a1), (.ref a2), (.int (0 : Int32))] below meth c s₁ [] 0 0 := Stand.of_body Bd
  have e0 : s₁.heap = h0 := by rw [← hh, Bd.state]; rfl
  have N0 := Fr.nil n0
  have K0 := Keep.refl h0 []
  refine own_go (fun t k => castTop (own_ef51 m a1 a2) k) ?_
  show OwnG p.tables e below _ (s₁.setTop (mkF m 0 #[.val (.ref a1), .val (.ref a2), .val (.int (0 : Int32)), .unset] []))
  refine own_go (fun t k => XS.iconst X0.here hx rfl (hb hby own_d53) k) ?_
  show OwnG p.tables e below _ (s₁.setTop (mkF m 1 #[.val (.ref a1), .val (.ref a2), .val (.int (0 : Int32)), .unset] [(.int (0 : Int32))]))
  refine own_go (fun t k => XS.istoreN X0.here hx rfl (hb hby own_d54) rfl (l' := #[.val (.ref a1), .val (.ref a2), .val (.int (0 : Int32)), .val (.int (0 : Int32))]) rfl k) ?_
  show OwnG p.tables e below _ (s₁.setTop (mkF m 2 #[.val (.ref a1), .val (.ref a2), .val (.int (0 : Int32)), .val (.int (0 : Int32))] []))
  refine own_go (fun t k => XS.iloadN X0.here hx rfl (hb hby own_d55) rfl  k) ?_
  show OwnG p.tables e below _ (s₁.setTop (mkF m 3 #[.val (.ref a1), .val (.ref a2), .val (.int (0 : Int32)), .val (.int (0 : Int32))] [(.int (0 : Int32))]))
  refine own_go (fun t k => XS.bipush X0.here hx rfl (hb hby own_d56) k) ?_
  show OwnG p.tables e below _ (s₁.setTop (mkF m 5 #[.val (.ref a1), .val (.ref a2), .val (.int (0 : Int32)), .val (.int (0 : Int32))] [(.int (7 : Int32)), (.int (0 : Int32))]))
  refine own_go (fun t k => XS.icmpYes X0.here hx rfl (pc0 := 5) (pc' := 49) rfl (hb hby own_d57) rfl (flt (by decide : ¬ ((7 : Int32) < (0 : Int32)))).2.2.2 (by decide) (by decide) k) ?_
  show OwnG p.tables e below _ (s₁.setTop (mkF m 49 #[.val (.ref a1), .val (.ref a2), .val (.int (0 : Int32)), .val (.int (0 : Int32))] []))
  refine own_go (fun t k => XS.iloadN X0.here hx rfl (hb hby own_d58) rfl  k) ?_
  show OwnG p.tables e below _ (s₁.setTop (mkF m 50 #[.val (.ref a1), .val (.ref a2), .val (.int (0 : Int32)), .val (.int (0 : Int32))] [(.int (0 : Int32))]))
  refine own_go (fun t k => XS.iloadN X0.here hx rfl (hb hby own_d59) rfl  k) ?_
  show OwnG p.tables e below _ (s₁.setTop (mkF m 51 #[.val (.ref a1), .val (.ref a2), .val (.int (0 : Int32)), .val (.int (0 : Int32))] [(.int (0 : Int32)), (.int (0 : Int32))]))
  refine own_go (fun t k => XS.icmpYes X0.here hx rfl (pc0 := 51) (pc' := 71) rfl (hb hby own_d60) rfl (flt (by decide : ¬ ((0 : Int32) < (0 : Int32)))).2.1 (by decide) (by decide) k) ?_
  show OwnG p.tables e below _ (s₁.setTop (mkF m 71 #[.val (.ref a1), .val (.ref a2), .val (.int (0 : Int32)), .val (.int (0 : Int32))] []))
  refine own_go (fun t k => XS.iconst X0.here hx rfl (hb hby own_d61) k) ?_
  show OwnG p.tables e below _ (s₁.setTop (mkF m 72 #[.val (.ref a1), .val (.ref a2), .val (.int (0 : Int32)), .val (.int (0 : Int32))] [(.int (-1 : Int32))]))
  obtain ⟨fs, hr, hrun, hended, hW, hsame⟩ := X0.leave (v := some (.int (-1 : Int32))) (fun h => by rw [Bd.returns] at h; cases h)
  refine ⟨_, _, retI X0 hx Bd.returns (hb hby own_d62) hr, hrun, hended, _, _, rfl, ?_, ⟨_, rfl⟩, hW, hsame.mono (by decide) (by decide)⟩
  show Q_own_mism Z a1 a2 h0 n0 _ s₁.heap _
  rw [e0]
  exact ⟨rfl, N0, rfl⟩
theorem own_ef63 (m : MethodId) (a1 : Addr) (a2 : Addr) : entryFrame m #[(.ref a1), (.ref a2)] 3 = mkF m 0 #[.val (.ref a1), .val (.ref a2), .unset] [] := by first | (simp [entryFrame, mkF, argsToLocals, Value.category]; done) | rfl
theorem own_pn64 : plainName "java/util/Arrays" = true := by first | (simp [plainName, overriddenIn]; done) | decide +kernel
theorem own_d65 : decode jdk_65_method_201_code 0 = .ok (.aload_n 0, 1) := by decide +kernel
theorem own_d66 : decode jdk_65_method_201_code 1 = .ok (.aload_n 1, 1) := by decide +kernel
theorem own_d67 : decode jdk_65_method_201_code 2 = .ok (.if_acmp .ne 5, 3) := by decide +kernel
theorem own_d68 : decode jdk_65_method_201_code 7 = .ok (.aload_n 0, 1) := by decide +kernel
theorem own_d69 : decode jdk_65_method_201_code 8 = .ok (.ifnull 7, 3) := by decide +kernel
theorem own_d70 : decode jdk_65_method_201_code 11 = .ok (.aload_n 1, 1) := by decide +kernel
theorem own_d71 : decode jdk_65_method_201_code 12 = .ok (.ifnonnull 13, 3) := by decide +kernel
theorem own_d72 : decode jdk_65_method_201_code 25 = .ok (.aload_n 0, 1) := by decide +kernel
theorem own_d73 : decode jdk_65_method_201_code 26 = .ok (.aload_n 1, 1) := by decide +kernel
theorem own_d74 : decode jdk_65_method_201_code 27 = .ok (.aload_n 0, 1) := by decide +kernel
theorem own_d75 : decode jdk_65_method_201_code 28 = .ok (.arraylength, 1) := by decide +kernel
theorem own_d76 : decode jdk_65_method_201_code 29 = .ok (.aload_n 1, 1) := by decide +kernel
theorem own_d77 : decode jdk_65_method_201_code 30 = .ok (.arraylength, 1) := by decide +kernel
theorem own_d78 : decode jdk_65_method_201_code 31 = .ok (.invokestatic 304, 3) := by decide +kernel
theorem own_pd79 : parseMethodDescriptor "(II)I" = some ⟨[.int, .int], some .int⟩ := by decide +kernel
theorem own_d80 : decode jdk_65_method_201_code 34 = .ok (.invokestatic 272, 3) := by decide +kernel
theorem own_pd81 : parseMethodDescriptor "([B[BI)I" = some ⟨[(.array .byte), (.array .byte), .int], some .int⟩ := by decide +kernel
theorem own_d82 : decode jdk_65_method_201_code 37 = .ok (.istore_n 2, 1) := by decide +kernel
theorem own_d83 : decode jdk_65_method_201_code 38 = .ok (.iload_n 2, 1) := by decide +kernel
theorem own_d84 : decode jdk_65_method_201_code 39 = .ok (.ifCond .lt 13, 3) := by decide +kernel
theorem own_d85 : decode jdk_65_method_201_code 52 = .ok (.aload_n 0, 1) := by decide +kernel
theorem own_d86 : decode jdk_65_method_201_code 53 = .ok (.arraylength, 1) := by decide +kernel
theorem own_d87 : decode jdk_65_method_201_code 54 = .ok (.aload_n 1, 1) := by decide +kernel
theorem own_d88 : decode jdk_65_method_201_code 55 = .ok (.arraylength, 1) := by decide +kernel
theorem own_d89 : decode jdk_65_method_201_code 56 = .ok (.isub, 1) := by decide +kernel
theorem own_d90 : decode jdk_65_method_201_code 57 = .ok (.ireturn, 1) := by decide +kernel
def Q_own_cu (Z : State) (a1 : Addr) (a2 : Addr) (k1 : ClassId) (k2 : ClassId) (h0 : Heap) (n0 : Nat) (v : Option Value) (h : Heap) (L : List Loc) : Prop := v = some (.int (0 : Int32)) ∧ Fr n0 L ∧ h = h0
set_option maxRecDepth 65536 in
set_option maxHeartbeats 40000000 in
theorem own_cu (l : Launch) (Z : State) (a0 : Array Value) (hw : ∀ d ∈ tables_1, d.before a0 Z = true) (ws : List Jvm.Cond) (a1 : Addr) (a2 : Addr) (k1 : ClassId) (k2 : ClassId) (h0 : Heap) (n0 : Nat) (Z0 : n0 ≤ h0.size) (f0_0 : Arv Z h0 a1 k1 .byte (0 : Int32) [] (.int (0 : Int32))) (f0_1 : Arv Z h0 a2 k2 .byte (0 : Int32) [] (.int (0 : Int32))) (hne : a1 ≠ a2) :
    MetFree l (⟨"java/util/Arrays", "compareUnsigned", "([B[B)I"⟩ : MethodName) (head1 (Jvm.Cond.code (⟨"java/util/Arrays", "compareUnsigned", "([B[B)I"⟩ : MethodName) jdk_65_method_201_code 3 (some .int) :: ws) ({ frames := 1, cells := 0, slots := 0, locals := 15 } : Room)) (fun a U => a = #[(.ref a1), (.ref a2)] ∧ Z.Warmed39 U.vm ∧ U.heap = h0) (fun _ _ _ _ _ => True) (fun _ U o U' => ∃ v L, o = .returned v ∧ Q_own_cu Z a1 a2 k1 k2 h0 n0 v U'.heap L ∧ FrameEnd U o U' L ({ frames := 1, cells := 0, slots := 0, locals := 15 } : Room).cells ({ frames := 1, cells := 0, slots := 0, locals := 15 } : Room).slots) := by
  refine MetFree.of_bodySF (plainFor_of_name own_pn64) hisR ?_
  intro p e s m args below meth c s₁ Bd hml0 hP hK
  obtain ⟨rfl, hZ, hh⟩ := hP
  have hx := Bd.exec
  have hby := Bd.bytes
  have hml : c.maxLocals = 3 := hml0
  have hown : s.vm.findClass "java/util/Arrays" = some m.cls := findClass_of_methodNamed Bd.named
  have hnm := (name_of_methodNamed Bd.named Bd.method).1
  have X0 : Stand p l e ({ frames := 1, cells := 0, slots := 0, locals := 15 } : Room) s m #[(.ref a1), (.ref a2)] below meth c s₁ [] 0 0 := Stand.of_body Bd
  have e0 : s₁.heap = h0 := by rw [← hh, Bd.state]; rfl
  have N0 := Fr.nil n0
  have K0 := Keep.refl h0 []
  refine own_go (fun t k => castTop (own_ef63 m a1 a2) k) ?_
  show OwnG p.tables e below _ (s₁.setTop (mkF m 0 #[.val (.ref a1), .val (.ref a2), .unset] []))
  refine own_go (fun t k => XS.aloadN X0.here hx rfl (hb hby own_d65) rfl rfl k) ?_
  show OwnG p.tables e below _ (s₁.setTop (mkF m 1 #[.val (.ref a1), .val (.ref a2), .unset] [(.ref a1)]))
  refine own_go (fun t k => XS.aloadN X0.here hx rfl (hb hby own_d66) rfl rfl k) ?_
  show OwnG p.tables e below _ (s₁.setTop (mkF m 2 #[.val (.ref a1), .val (.ref a2), .unset] [(.ref a2), (.ref a1)]))
  refine own_go (fun t k => Jvm.RoadKit.acmp (g := (mkF m 2 #[.val (.ref a1), .val (.ref a2), .unset] [(.ref a2), (.ref a1)])) X0 hx rfl rfl rfl (pc0 := 2) (pc' := 7) (same := false) rfl (hb hby own_d67) rfl (decide_eq_false fun q => hne (Value.ref.inj q)) (by decide) (by decide) k) ?_
  show OwnG p.tables e below _ (s₁.setTop (mkF m 7 #[.val (.ref a1), .val (.ref a2), .unset] []))
  refine own_go (fun t k => XS.aloadN X0.here hx rfl (hb hby own_d68) rfl rfl k) ?_
  show OwnG p.tables e below _ (s₁.setTop (mkF m 8 #[.val (.ref a1), .val (.ref a2), .unset] [(.ref a1)]))
  refine own_go (fun t k => XS.ifnullNo X0.here hx rfl (hb hby own_d69) rfl k) ?_
  show OwnG p.tables e below _ (s₁.setTop (mkF m 11 #[.val (.ref a1), .val (.ref a2), .unset] []))
  refine own_go (fun t k => XS.aloadN X0.here hx rfl (hb hby own_d70) rfl rfl k) ?_
  show OwnG p.tables e below _ (s₁.setTop (mkF m 12 #[.val (.ref a1), .val (.ref a2), .unset] [(.ref a2)]))
  refine own_go (fun t k => XS.ifnonnullYes X0.here hx rfl (pc0 := 12) (pc' := 25) rfl (hb hby own_d71) rfl (by decide) (by decide) k) ?_
  show OwnG p.tables e below _ (s₁.setTop (mkF m 25 #[.val (.ref a1), .val (.ref a2), .unset] []))
  refine own_go (fun t k => XS.aloadN X0.here hx rfl (hb hby own_d72) rfl rfl k) ?_
  show OwnG p.tables e below _ (s₁.setTop (mkF m 26 #[.val (.ref a1), .val (.ref a2), .unset] [(.ref a1)]))
  refine own_go (fun t k => XS.aloadN X0.here hx rfl (hb hby own_d73) rfl rfl k) ?_
  show OwnG p.tables e below _ (s₁.setTop (mkF m 27 #[.val (.ref a1), .val (.ref a2), .unset] [(.ref a2), (.ref a1)]))
  refine own_go (fun t k => XS.aloadN X0.here hx rfl (hb hby own_d74) rfl rfl k) ?_
  show OwnG p.tables e below _ (s₁.setTop (mkF m 28 #[.val (.ref a1), .val (.ref a2), .unset] [(.ref a1), (.ref a2), (.ref a1)]))
  have vv1 := f0_0
  obtain ⟨cl1, Ar1, qk1, Sz1, Nn1, Hs1, Gs1⟩ := vv1
  have st1 : ∀ t, Steps p.tables e below (s₁.setTop (mkF m 29 #[.val (.ref a1), .val (.ref a2), .unset] [(.int (0 : Int32)), (.ref a2), (.ref a1)])) t → Steps p.tables e below (s₁.setTop (mkF m 28 #[.val (.ref a1), .val (.ref a2), .unset] [(.ref a1), (.ref a2), (.ref a1)])) t := fun t k => by
    refine X0.arraylength hx (by rw [e0]; exact Ar1.1) (State.isArrayOf_alike hZ.alike Ar1.2.1) (g := (mkF m 28 #[.val (.ref a1), .val (.ref a2), .unset] [(.ref a1), (.ref a2), (.ref a1)])) rfl rfl (hb hby own_d75) _ ?_
    rw [len_of Sz1 Nn1]
    exact k
  refine own_go (fun t k => st1 t k) ?_
  show OwnG p.tables e below _ (s₁.setTop (mkF m 29 #[.val (.ref a1), .val (.ref a2), .unset] [(.int (0 : Int32)), (.ref a2), (.ref a1)]))
  refine own_go (fun t k => XS.aloadN X0.here hx rfl (hb hby own_d76) rfl rfl k) ?_
  show OwnG p.tables e below _ (s₁.setTop (mkF m 30 #[.val (.ref a1), .val (.ref a2), .unset] [(.ref a2), (.int (0 : Int32)), (.ref a2), (.ref a1)]))
  have vv2 := f0_1
  obtain ⟨cl2, Ar2, qk2, Sz2, Nn2, Hs2, Gs2⟩ := vv2
  have st2 : ∀ t, Steps p.tables e below (s₁.setTop (mkF m 31 #[.val (.ref a1), .val (.ref a2), .unset] [(.int (0 : Int32)), (.int (0 : Int32)), (.ref a2), (.ref a1)])) t → Steps p.tables e below (s₁.setTop (mkF m 30 #[.val (.ref a1), .val (.ref a2), .unset] [(.ref a2), (.int (0 : Int32)), (.ref a2), (.ref a1)])) t := fun t k => by
    refine X0.arraylength hx (by rw [e0]; exact Ar2.1) (State.isArrayOf_alike hZ.alike Ar2.2.1) (g := (mkF m 30 #[.val (.ref a1), .val (.ref a2), .unset] [(.ref a2), (.int (0 : Int32)), (.ref a2), (.ref a1)])) rfl rfl (hb hby own_d77) _ ?_
    rw [len_of Sz2 Nn2]
    exact k
  refine own_go (fun t k => st2 t k) ?_
  show OwnG p.tables e below _ (s₁.setTop (mkF m 31 #[.val (.ref a1), .val (.ref a2), .unset] [(.int (0 : Int32)), (.int (0 : Int32)), (.ref a2), (.ref a1)]))
  obtain ⟨_, _, ⟨T3, L3, k3, n3⟩, -, X3, ⟨Lc3, hQ3, l3, y3, z3⟩, st3⟩ := Jvm.LawKit.callS X0 hx (y := (⟨"java/lang/Math", "min", "(II)I"⟩ : MethodName)) hown (mvT hZ (hw _ (List.mem_of_getElem? (i := 61) rfl))) (mvT hZ (hw _ (List.mem_of_getElem? (i := 62) rfl))) (mvT hZ (hw _ (List.mem_of_getElem? (i := 63) rfl))) (mvT hZ (hw _ (List.mem_of_getElem? (i := 64) rfl))) (by decide) (backOf (W := 2) (own_min l Z a0 hw []  h0 n0 Z0) hZ (hw _ (List.mem_of_getElem? (i := 64) rfl)) (hw _ (List.mem_of_getElem? (i := 63) rfl)) (by decide) (by decide)) (g := (mkF m 31 #[.val (.ref a1), .val (.ref a2), .unset] [(.int (0 : Int32)), (.int (0 : Int32)), (.ref a2), (.ref a1)])) rfl (by rw [hml]; rfl) (argsL := [(.int (0 : Int32)), (.int (0 : Int32))]) (rest := [(.ref a2), (.ref a1)]) (lenOf own_pd79 rfl) rfl (by show 2 * 0 + _ ≤ _; exact Nat.le_of_eq rfl) (hb hby own_d78) (fun _ _ => ⟨rfl, e0, (by decide : 0 + 0 ≤ _), (by decide : 0 + 0 ≤ _)⟩)
  dsimp only [Pt.U, Pt.locs, Pt.cells, Pt.slots] at X3 l3 y3 z3 st3 hQ3
  subst l3 y3 z3
  obtain ⟨rfl, Nq3, eq3⟩ := hQ3
  have N3 := Fr.app N0 Nq3
  have e3 : T3.heap = h0 := eq3
  refine own_go (fun t k => st3 t k) ?_
  show OwnG p.tables e below _ (T3.setTop (mkF m 34 #[.val (.ref a1), .val (.ref a2), .unset] [(.int (0 : Int32)), (.ref a2), (.ref a1)]))
  obtain ⟨_, _, ⟨T4, L4, k4, n4⟩, -, X4, ⟨Lc4, hQ4, l4, y4, z4⟩, st4⟩ := Jvm.LawKit.callS X3 hx (y := (⟨"jdk/internal/util/ArraysSupport", "mismatch", "([B[BI)I"⟩ : MethodName)) hown (mvT hZ (hw _ (List.mem_of_getElem? (i := 46) rfl))) (mvT hZ (hw _ (List.mem_of_getElem? (i := 47) rfl))) (mvT hZ (hw _ (List.mem_of_getElem? (i := 48) rfl))) (mvT hZ (hw _ (List.mem_of_getElem? (i := 49) rfl))) (by decide) (backOf (W := 0) (own_mism l Z a0 hw [] a1 a2 h0 n0 Z0) hZ (hw _ (List.mem_of_getElem? (i := 49) rfl)) (hw _ (List.mem_of_getElem? (i := 48) rfl)) (by decide) (by decide)) (g := (mkF m 34 #[.val (.ref a1), .val (.ref a2), .unset] [(.int (0 : Int32)), (.ref a2), (.ref a1)])) rfl (by rw [hml]; rfl) (argsL := [(.ref a1), (.ref a2), (.int (0 : Int32))]) (rest := []) (lenOf own_pd81 rfl) rfl (by show 2 * 0 + _ ≤ _; exact Nat.le_of_eq rfl) (hb hby own_d80) (fun _ _ => ⟨rfl, e3, (by decide : 0 + 0 ≤ _), (by decide : 0 + 0 ≤ _)⟩)
  dsimp only [Pt.U, Pt.locs, Pt.cells, Pt.slots] at X4 l4 y4 z4 st4 hQ4
  subst l4 y4 z4
  obtain ⟨rfl, Nq4, eq4⟩ := hQ4
  have N4 := Fr.app N3 Nq4
  have e4 : T4.heap = h0 := eq4
  refine own_go (fun t k => st4 t k) ?_
  show OwnG p.tables e below _ (T4.setTop (mkF m 37 #[.val (.ref a1), .val (.ref a2), .unset] [(.int (-1 : Int32))]))
  refine own_go (fun t k => XS.istoreN X4.here hx rfl (hb hby own_d82) rfl (l' := #[.val (.ref a1), .val (.ref a2), .val (.int (-1 : Int32))]) rfl k) ?_
  show OwnG p.tables e below _ (T4.setTop (mkF m 38 #[.val (.ref a1), .val (.ref a2), .val (.int (-1 : Int32))] []))
  refine own_go (fun t k => XS.iloadN X4.here hx rfl (hb hby own_d83) rfl  k) ?_
  show OwnG p.tables e below _ (T4.setTop (mkF m 39 #[.val (.ref a1), .val (.ref a2), .val (.int (-1 : Int32))] [(.int (-1 : Int32))]))
  refine own_go (fun t k => XS.ifYes X4.here hx rfl (pc0 := 39) (pc' := 52) rfl (hb hby own_d84) rfl ((if0 _ _).trans (tlt (by decide : (-1 : Int32) < (0 : Int32))).1) (by decide) (by decide) k) ?_
  show OwnG p.tables e below _ (T4.setTop (mkF m 52 #[.val (.ref a1), .val (.ref a2), .val (.int (-1 : Int32))] []))
  refine own_go (fun t k => XS.aloadN X4.here hx rfl (hb hby own_d85) rfl rfl k) ?_
  show OwnG p.tables e below _ (T4.setTop (mkF m 53 #[.val (.ref a1), .val (.ref a2), .val (.int (-1 : Int32))] [(.ref a1)]))
  have vv5 := f0_0
  obtain ⟨cl5, Ar5, qk5, Sz5, Nn5, Hs5, Gs5⟩ := vv5
  have st5 : ∀ t, Steps p.tables e below (T4.setTop (mkF m 54 #[.val (.ref a1), .val (.ref a2), .val (.int (-1 : Int32))] [(.int (0 : Int32))])) t → Steps p.tables e below (T4.setTop (mkF m 53 #[.val (.ref a1), .val (.ref a2), .val (.int (-1 : Int32))] [(.ref a1)])) t := fun t k => by
    refine X4.arraylength hx (by rw [e4]; exact Ar5.1) (State.isArrayOf_alike hZ.alike Ar5.2.1) (g := (mkF m 53 #[.val (.ref a1), .val (.ref a2), .val (.int (-1 : Int32))] [(.ref a1)])) rfl rfl (hb hby own_d86) _ ?_
    rw [len_of Sz5 Nn5]
    exact k
  refine own_go (fun t k => st5 t k) ?_
  show OwnG p.tables e below _ (T4.setTop (mkF m 54 #[.val (.ref a1), .val (.ref a2), .val (.int (-1 : Int32))] [(.int (0 : Int32))]))
  refine own_go (fun t k => XS.aloadN X4.here hx rfl (hb hby own_d87) rfl rfl k) ?_
  show OwnG p.tables e below _ (T4.setTop (mkF m 55 #[.val (.ref a1), .val (.ref a2), .val (.int (-1 : Int32))] [(.ref a2), (.int (0 : Int32))]))
  have vv6 := f0_1
  obtain ⟨cl6, Ar6, qk6, Sz6, Nn6, Hs6, Gs6⟩ := vv6
  have st6 : ∀ t, Steps p.tables e below (T4.setTop (mkF m 56 #[.val (.ref a1), .val (.ref a2), .val (.int (-1 : Int32))] [(.int (0 : Int32)), (.int (0 : Int32))])) t → Steps p.tables e below (T4.setTop (mkF m 55 #[.val (.ref a1), .val (.ref a2), .val (.int (-1 : Int32))] [(.ref a2), (.int (0 : Int32))])) t := fun t k => by
    refine X4.arraylength hx (by rw [e4]; exact Ar6.1) (State.isArrayOf_alike hZ.alike Ar6.2.1) (g := (mkF m 55 #[.val (.ref a1), .val (.ref a2), .val (.int (-1 : Int32))] [(.ref a2), (.int (0 : Int32))])) rfl rfl (hb hby own_d88) _ ?_
    rw [len_of Sz6 Nn6]
    exact k
  refine own_go (fun t k => st6 t k) ?_
  show OwnG p.tables e below _ (T4.setTop (mkF m 56 #[.val (.ref a1), .val (.ref a2), .val (.int (-1 : Int32))] [(.int (0 : Int32)), (.int (0 : Int32))]))
  refine own_go (fun t k => XS.isub X4.here hx rfl (hb hby own_d89) rfl k) ?_
  show OwnG p.tables e below _ (T4.setTop (mkF m 57 #[.val (.ref a1), .val (.ref a2), .val (.int (-1 : Int32))] [(.int ((0 : Int32) - (0 : Int32)))]))
  obtain ⟨fs, hr, hrun, hended, hW, hsame⟩ := X4.leave (v := some (.int ((0 : Int32) - (0 : Int32)))) (fun h => by rw [Bd.returns] at h; cases h)
  refine ⟨_, _, retI X4 hx Bd.returns (hb hby own_d90) hr, hrun, hended, _, _, rfl, ?_, ⟨_, rfl⟩, hW, hsame.mono (by decide) (by decide)⟩
  show Q_own_cu Z a1 a2 k1 k2 h0 n0 _ T4.heap _
  rw [e4]
  exact ⟨rfl, N4, rfl⟩
theorem own_ef91 (m : MethodId) (a1 : Addr) (a2 : Addr) : entryFrame m #[(.ref a1), (.ref a2)] 3 = mkF m 0 #[.val (.ref a1), .val (.ref a2), .unset] [] := by first | (simp [entryFrame, mkF, argsToLocals, Value.category]; done) | rfl
theorem own_d92 : decode jdk_65_method_89_code 0 = .ok (.aload_n 0, 1) := by decide +kernel
theorem own_d93 : decode jdk_65_method_89_code 1 = .ok (.aload_n 1, 1) := by decide +kernel
theorem own_d94 : decode jdk_65_method_89_code 2 = .ok (.if_acmp .ne 5, 3) := by decide +kernel
theorem own_d95 : decode jdk_65_method_89_code 7 = .ok (.aload_n 0, 1) := by decide +kernel
theorem own_d96 : decode jdk_65_method_89_code 8 = .ok (.ifnull 7, 3) := by decide +kernel
theorem own_d97 : decode jdk_65_method_89_code 11 = .ok (.aload_n 1, 1) := by decide +kernel
theorem own_d98 : decode jdk_65_method_89_code 12 = .ok (.ifnonnull 5, 3) := by decide +kernel
theorem own_d99 : decode jdk_65_method_89_code 17 = .ok (.aload_n 0, 1) := by decide +kernel
theorem own_d100 : decode jdk_65_method_89_code 18 = .ok (.arraylength, 1) := by decide +kernel
theorem own_d101 : decode jdk_65_method_89_code 19 = .ok (.istore_n 2, 1) := by decide +kernel
theorem own_d102 : decode jdk_65_method_89_code 20 = .ok (.aload_n 1, 1) := by decide +kernel
theorem own_d103 : decode jdk_65_method_89_code 21 = .ok (.arraylength, 1) := by decide +kernel
theorem own_d104 : decode jdk_65_method_89_code 22 = .ok (.iload_n 2, 1) := by decide +kernel
theorem own_d105 : decode jdk_65_method_89_code 23 = .ok (.if_icmp .eq 5, 3) := by decide +kernel
theorem own_d106 : decode jdk_65_method_89_code 28 = .ok (.aload_n 0, 1) := by decide +kernel
theorem own_d107 : decode jdk_65_method_89_code 29 = .ok (.aload_n 1, 1) := by decide +kernel
theorem own_d108 : decode jdk_65_method_89_code 30 = .ok (.iload_n 2, 1) := by decide +kernel
theorem own_d109 : decode jdk_65_method_89_code 31 = .ok (.invokestatic 272, 3) := by decide +kernel
theorem own_d110 : decode jdk_65_method_89_code 34 = .ok (.ifCond .ge 7, 3) := by decide +kernel
theorem own_d111 : decode jdk_65_method_89_code 37 = .ok (.iconst 1, 1) := by decide +kernel
theorem own_d112 : decode jdk_65_method_89_code 38 = .ok (.goto 4, 3) := by decide +kernel
theorem own_d113 : decode jdk_65_method_89_code 42 = .ok (.ireturn, 1) := by decide +kernel
def Q_own_aeq (Z : State) (a1 : Addr) (a2 : Addr) (k1 : ClassId) (k2 : ClassId) (h0 : Heap) (n0 : Nat) (v : Option Value) (h : Heap) (L : List Loc) : Prop := v = some (.int (1 : Int32)) ∧ Fr n0 L ∧ h = h0
set_option maxRecDepth 65536 in
set_option maxHeartbeats 40000000 in
theorem own_aeq (l : Launch) (Z : State) (a0 : Array Value) (hw : ∀ d ∈ tables_1, d.before a0 Z = true) (ws : List Jvm.Cond) (a1 : Addr) (a2 : Addr) (k1 : ClassId) (k2 : ClassId) (h0 : Heap) (n0 : Nat) (Z0 : n0 ≤ h0.size) (f0_0 : Arv Z h0 a1 k1 .byte (0 : Int32) [] (.int (0 : Int32))) (f0_1 : Arv Z h0 a2 k2 .byte (0 : Int32) [] (.int (0 : Int32))) (hne : a1 ≠ a2) :
    MetFree l (⟨"java/util/Arrays", "equals", "([B[B)Z"⟩ : MethodName) (head1 (Jvm.Cond.code (⟨"java/util/Arrays", "equals", "([B[B)Z"⟩ : MethodName) jdk_65_method_89_code 3 (some .boolean) :: ws) ({ frames := 1, cells := 0, slots := 0, locals := 15 } : Room)) (fun a U => a = #[(.ref a1), (.ref a2)] ∧ Z.Warmed39 U.vm ∧ U.heap = h0) (fun _ _ _ _ _ => True) (fun _ U o U' => ∃ v L, o = .returned v ∧ Q_own_aeq Z a1 a2 k1 k2 h0 n0 v U'.heap L ∧ FrameEnd U o U' L ({ frames := 1, cells := 0, slots := 0, locals := 15 } : Room).cells ({ frames := 1, cells := 0, slots := 0, locals := 15 } : Room).slots) := by
  refine MetFree.of_bodySF (plainFor_of_name own_pn64) hisR ?_
  intro p e s m args below meth c s₁ Bd hml0 hP hK
  obtain ⟨rfl, hZ, hh⟩ := hP
  have hx := Bd.exec
  have hby := Bd.bytes
  have hml : c.maxLocals = 3 := hml0
  have hown : s.vm.findClass "java/util/Arrays" = some m.cls := findClass_of_methodNamed Bd.named
  have hnm := (name_of_methodNamed Bd.named Bd.method).1
  have X0 : Stand p l e ({ frames := 1, cells := 0, slots := 0, locals := 15 } : Room) s m #[(.ref a1), (.ref a2)] below meth c s₁ [] 0 0 := Stand.of_body Bd
  have e0 : s₁.heap = h0 := by rw [← hh, Bd.state]; rfl
  have N0 := Fr.nil n0
  have K0 := Keep.refl h0 []
  refine own_go (fun t k => castTop (own_ef91 m a1 a2) k) ?_
  show OwnG p.tables e below _ (s₁.setTop (mkF m 0 #[.val (.ref a1), .val (.ref a2), .unset] []))
  refine own_go (fun t k => XS.aloadN X0.here hx rfl (hb hby own_d92) rfl rfl k) ?_
  show OwnG p.tables e below _ (s₁.setTop (mkF m 1 #[.val (.ref a1), .val (.ref a2), .unset] [(.ref a1)]))
  refine own_go (fun t k => XS.aloadN X0.here hx rfl (hb hby own_d93) rfl rfl k) ?_
  show OwnG p.tables e below _ (s₁.setTop (mkF m 2 #[.val (.ref a1), .val (.ref a2), .unset] [(.ref a2), (.ref a1)]))
  refine own_go (fun t k => Jvm.RoadKit.acmp (g := (mkF m 2 #[.val (.ref a1), .val (.ref a2), .unset] [(.ref a2), (.ref a1)])) X0 hx rfl rfl rfl (pc0 := 2) (pc' := 7) (same := false) rfl (hb hby own_d94) rfl (decide_eq_false fun q => hne (Value.ref.inj q)) (by decide) (by decide) k) ?_
  show OwnG p.tables e below _ (s₁.setTop (mkF m 7 #[.val (.ref a1), .val (.ref a2), .unset] []))
  refine own_go (fun t k => XS.aloadN X0.here hx rfl (hb hby own_d95) rfl rfl k) ?_
  show OwnG p.tables e below _ (s₁.setTop (mkF m 8 #[.val (.ref a1), .val (.ref a2), .unset] [(.ref a1)]))
  refine own_go (fun t k => XS.ifnullNo X0.here hx rfl (hb hby own_d96) rfl k) ?_
  show OwnG p.tables e below _ (s₁.setTop (mkF m 11 #[.val (.ref a1), .val (.ref a2), .unset] []))
  refine own_go (fun t k => XS.aloadN X0.here hx rfl (hb hby own_d97) rfl rfl k) ?_
  show OwnG p.tables e below _ (s₁.setTop (mkF m 12 #[.val (.ref a1), .val (.ref a2), .unset] [(.ref a2)]))
  refine own_go (fun t k => XS.ifnonnullYes X0.here hx rfl (pc0 := 12) (pc' := 17) rfl (hb hby own_d98) rfl (by decide) (by decide) k) ?_
  show OwnG p.tables e below _ (s₁.setTop (mkF m 17 #[.val (.ref a1), .val (.ref a2), .unset] []))
  refine own_go (fun t k => XS.aloadN X0.here hx rfl (hb hby own_d99) rfl rfl k) ?_
  show OwnG p.tables e below _ (s₁.setTop (mkF m 18 #[.val (.ref a1), .val (.ref a2), .unset] [(.ref a1)]))
  have vv1 := f0_0
  obtain ⟨cl1, Ar1, qk1, Sz1, Nn1, Hs1, Gs1⟩ := vv1
  have st1 : ∀ t, Steps p.tables e below (s₁.setTop (mkF m 19 #[.val (.ref a1), .val (.ref a2), .unset] [(.int (0 : Int32))])) t → Steps p.tables e below (s₁.setTop (mkF m 18 #[.val (.ref a1), .val (.ref a2), .unset] [(.ref a1)])) t := fun t k => by
    refine X0.arraylength hx (by rw [e0]; exact Ar1.1) (State.isArrayOf_alike hZ.alike Ar1.2.1) (g := (mkF m 18 #[.val (.ref a1), .val (.ref a2), .unset] [(.ref a1)])) rfl rfl (hb hby own_d100) _ ?_
    rw [len_of Sz1 Nn1]
    exact k
  refine own_go (fun t k => st1 t k) ?_
  show OwnG p.tables e below _ (s₁.setTop (mkF m 19 #[.val (.ref a1), .val (.ref a2), .unset] [(.int (0 : Int32))]))
  refine own_go (fun t k => XS.istoreN X0.here hx rfl (hb hby own_d101) rfl (l' := #[.val (.ref a1), .val (.ref a2), .val (.int (0 : Int32))]) rfl k) ?_
  show OwnG p.tables e below _ (s₁.setTop (mkF m 20 #[.val (.ref a1), .val (.ref a2), .val (.int (0 : Int32))] []))
  refine own_go (fun t k => XS.aloadN X0.here hx rfl (hb hby own_d102) rfl rfl k) ?_
  show OwnG p.tables e below _ (s₁.setTop (mkF m 21 #[.val (.ref a1), .val (.ref a2), .val (.int (0 : Int32))] [(.ref a2)]))
  have vv2 := f0_1
  obtain ⟨cl2, Ar2, qk2, Sz2, Nn2, Hs2, Gs2⟩ := vv2
  have st2 : ∀ t, Steps p.tables e below (s₁.setTop (mkF m 22 #[.val (.ref a1), .val (.ref a2), .val (.int (0 : Int32))] [(.int (0 : Int32))])) t → Steps p.tables e below (s₁.setTop (mkF m 21 #[.val (.ref a1), .val (.ref a2), .val (.int (0 : Int32))] [(.ref a2)])) t := fun t k => by
    refine X0.arraylength hx (by rw [e0]; exact Ar2.1) (State.isArrayOf_alike hZ.alike Ar2.2.1) (g := (mkF m 21 #[.val (.ref a1), .val (.ref a2), .val (.int (0 : Int32))] [(.ref a2)])) rfl rfl (hb hby own_d103) _ ?_
    rw [len_of Sz2 Nn2]
    exact k
  refine own_go (fun t k => st2 t k) ?_
  show OwnG p.tables e below _ (s₁.setTop (mkF m 22 #[.val (.ref a1), .val (.ref a2), .val (.int (0 : Int32))] [(.int (0 : Int32))]))
  refine own_go (fun t k => XS.iloadN X0.here hx rfl (hb hby own_d104) rfl  k) ?_
  show OwnG p.tables e below _ (s₁.setTop (mkF m 23 #[.val (.ref a1), .val (.ref a2), .val (.int (0 : Int32))] [(.int (0 : Int32)), (.int (0 : Int32))]))
  refine own_go (fun t k => XS.icmpYes X0.here hx rfl (pc0 := 23) (pc' := 28) rfl (hb hby own_d105) rfl (teq (by decide : (0 : Int32) = (0 : Int32))).1 (by decide) (by decide) k) ?_
  show OwnG p.tables e below _ (s₁.setTop (mkF m 28 #[.val (.ref a1), .val (.ref a2), .val (.int (0 : Int32))] []))
  refine own_go (fun t k => XS.aloadN X0.here hx rfl (hb hby own_d106) rfl rfl k) ?_
  show OwnG p.tables e below _ (s₁.setTop (mkF m 29 #[.val (.ref a1), .val (.ref a2), .val (.int (0 : Int32))] [(.ref a1)]))
  refine own_go (fun t k => XS.aloadN X0.here hx rfl (hb hby own_d107) rfl rfl k) ?_
  show OwnG p.tables e below _ (s₁.setTop (mkF m 30 #[.val (.ref a1), .val (.ref a2), .val (.int (0 : Int32))] [(.ref a2), (.ref a1)]))
  refine own_go (fun t k => XS.iloadN X0.here hx rfl (hb hby own_d108) rfl  k) ?_
  show OwnG p.tables e below _ (s₁.setTop (mkF m 31 #[.val (.ref a1), .val (.ref a2), .val (.int (0 : Int32))] [(.int (0 : Int32)), (.ref a2), (.ref a1)]))
  obtain ⟨_, _, ⟨T3, L3, k3, n3⟩, -, X3, ⟨Lc3, hQ3, l3, y3, z3⟩, st3⟩ := Jvm.LawKit.callS X0 hx (y := (⟨"jdk/internal/util/ArraysSupport", "mismatch", "([B[BI)I"⟩ : MethodName)) hown (mvT hZ (hw _ (List.mem_of_getElem? (i := 46) rfl))) (mvT hZ (hw _ (List.mem_of_getElem? (i := 47) rfl))) (mvT hZ (hw _ (List.mem_of_getElem? (i := 48) rfl))) (mvT hZ (hw _ (List.mem_of_getElem? (i := 49) rfl))) (by decide) (backOf (W := 0) (own_mism l Z a0 hw [] a1 a2 h0 n0 Z0) hZ (hw _ (List.mem_of_getElem? (i := 49) rfl)) (hw _ (List.mem_of_getElem? (i := 48) rfl)) (by decide) (by decide)) (g := (mkF m 31 #[.val (.ref a1), .val (.ref a2), .val (.int (0 : Int32))] [(.int (0 : Int32)), (.ref a2), (.ref a1)])) rfl (by rw [hml]; rfl) (argsL := [(.ref a1), (.ref a2), (.int (0 : Int32))]) (rest := []) (lenOf own_pd81 rfl) rfl (by show 2 * 0 + _ ≤ _; exact Nat.le_of_eq rfl) (hb hby own_d109) (fun _ _ => ⟨rfl, e0, (by decide : 0 + 0 ≤ _), (by decide : 0 + 0 ≤ _)⟩)
  dsimp only [Pt.U, Pt.locs, Pt.cells, Pt.slots] at X3 l3 y3 z3 st3 hQ3
  subst l3 y3 z3
  obtain ⟨rfl, Nq3, eq3⟩ := hQ3
  have N3 := Fr.app N0 Nq3
  have e3 : T3.heap = h0 := eq3
  refine own_go (fun t k => st3 t k) ?_
  show OwnG p.tables e below _ (T3.setTop (mkF m 34 #[.val (.ref a1), .val (.ref a2), .val (.int (0 : Int32))] [(.int (-1 : Int32))]))
  refine own_go (fun t k => XS.ifNo X3.here hx rfl (hb hby own_d110) rfl ((if0 _ _).trans (tlt (by decide : (-1 : Int32) < (0 : Int32))).2.1) k) ?_
  show OwnG p.tables e below _ (T3.setTop (mkF m 37 #[.val (.ref a1), .val (.ref a2), .val (.int (0 : Int32))] []))
  refine own_go (fun t k => XS.iconst X3.here hx rfl (hb hby own_d111) k) ?_
  show OwnG p.tables e below _ (T3.setTop (mkF m 38 #[.val (.ref a1), .val (.ref a2), .val (.int (0 : Int32))] [(.int (1 : Int32))]))
  refine own_go (fun t k => XS.goto X3.here hx rfl (pc0 := 38) (pc' := 42) rfl (hb hby own_d112) (by decide) (by decide) k) ?_
  show OwnG p.tables e below _ (T3.setTop (mkF m 42 #[.val (.ref a1), .val (.ref a2), .val (.int (0 : Int32))] [(.int (1 : Int32))]))
  obtain ⟨fs, hr, hrun, hended, hW, hsame⟩ := X3.leave (v := some (.int (1 : Int32))) (fun h => by rw [Bd.returns] at h; cases h)
  refine ⟨_, _, retN X3 hx (t := .boolean) Bd.returns (by simp) (hb hby own_d113) hr, hrun, hended, _, _, rfl, ?_, ⟨_, rfl⟩, hW, hsame.mono (by decide) (by decide)⟩
  show Q_own_aeq Z a1 a2 k1 k2 h0 n0 _ T3.heap _
  rw [e3]
  exact ⟨rfl, N3, rfl⟩
theorem own_ef114 (m : MethodId) (a1 : Addr) : entryFrame m #[(.ref a1)] 1 = mkF m 0 #[.val (.ref a1)] [] := by first | (simp [entryFrame, mkF, argsToLocals, Value.category]; done) | rfl
theorem own_d115 : decode jdk_65_method_153_code 0 = .ok (.aload_n 0, 1) := by decide +kernel
theorem own_d116 : decode jdk_65_method_153_code 1 = .ok (.ifnonnull 5, 3) := by decide +kernel
theorem own_d117 : decode jdk_65_method_153_code 6 = .ok (.aload_n 0, 1) := by decide +kernel
theorem own_d118 : decode jdk_65_method_153_code 7 = .ok (.arraylength, 1) := by decide +kernel
theorem own_d119 : decode jdk_65_method_153_code 8 = .ok (.lookupswitch 41 #[(0, 28), (1, 32)], 28) := by decide +kernel
theorem own_d120 : decode jdk_65_method_153_code 36 = .ok (.iconst 1, 1) := by decide +kernel
theorem own_d121 : decode jdk_65_method_153_code 37 = .ok (.goto 22, 3) := by decide +kernel
theorem own_d122 : decode jdk_65_method_153_code 59 = .ok (.ireturn, 1) := by decide +kernel
def Q_own_ahc (Z : State) (a1 : Addr) (k1 : ClassId) (h0 : Heap) (n0 : Nat) (v : Option Value) (h : Heap) (L : List Loc) : Prop := v = some (.int (1 : Int32)) ∧ Fr n0 L ∧ h = h0
set_option maxRecDepth 65536 in
set_option maxHeartbeats 40000000 in
theorem own_ahc (l : Launch) (Z : State) (a0 : Array Value) (hw : ∀ d ∈ tables_1, d.before a0 Z = true) (ws : List Jvm.Cond) (a1 : Addr) (k1 : ClassId) (h0 : Heap) (n0 : Nat) (Z0 : n0 ≤ h0.size) (f0_0 : Arv Z h0 a1 k1 .byte (0 : Int32) [] (.int (0 : Int32))) :
    MetFree l (⟨"java/util/Arrays", "hashCode", "([B)I"⟩ : MethodName) (head1 (Jvm.Cond.code (⟨"java/util/Arrays", "hashCode", "([B)I"⟩ : MethodName) jdk_65_method_153_code 1 (some .int) :: ws) ({ frames := 0, cells := 0, slots := 0, locals := 0 } : Room)) (fun a U => a = #[(.ref a1)] ∧ Z.Warmed39 U.vm ∧ U.heap = h0) (fun _ _ _ _ _ => True) (fun _ U o U' => ∃ v L, o = .returned v ∧ Q_own_ahc Z a1 k1 h0 n0 v U'.heap L ∧ FrameEnd U o U' L ({ frames := 0, cells := 0, slots := 0, locals := 0 } : Room).cells ({ frames := 0, cells := 0, slots := 0, locals := 0 } : Room).slots) := by
  refine MetFree.of_bodySF (plainFor_of_name own_pn64) hisR ?_
  intro p e s m args below meth c s₁ Bd hml0 hP hK
  obtain ⟨rfl, hZ, hh⟩ := hP
  have hx := Bd.exec
  have hby := Bd.bytes
  have hml : c.maxLocals = 1 := hml0
  have hown : s.vm.findClass "java/util/Arrays" = some m.cls := findClass_of_methodNamed Bd.named
  have hnm := (name_of_methodNamed Bd.named Bd.method).1
  have X0 : Stand p l e ({ frames := 0, cells := 0, slots := 0, locals := 0 } : Room) s m #[(.ref a1)] below meth c s₁ [] 0 0 := Stand.of_body Bd
  have e0 : s₁.heap = h0 := by rw [← hh, Bd.state]; rfl
  have N0 := Fr.nil n0
  have K0 := Keep.refl h0 []
  refine own_go (fun t k => castTop (own_ef114 m a1) k) ?_
  show OwnG p.tables e below _ (s₁.setTop (mkF m 0 #[.val (.ref a1)] []))
  refine own_go (fun t k => XS.aloadN X0.here hx rfl (hb hby own_d115) rfl rfl k) ?_
  show OwnG p.tables e below _ (s₁.setTop (mkF m 1 #[.val (.ref a1)] [(.ref a1)]))
  refine own_go (fun t k => XS.ifnonnullYes X0.here hx rfl (pc0 := 1) (pc' := 6) rfl (hb hby own_d116) rfl (by decide) (by decide) k) ?_
  show OwnG p.tables e below _ (s₁.setTop (mkF m 6 #[.val (.ref a1)] []))
  refine own_go (fun t k => XS.aloadN X0.here hx rfl (hb hby own_d117) rfl rfl k) ?_
  show OwnG p.tables e below _ (s₁.setTop (mkF m 7 #[.val (.ref a1)] [(.ref a1)]))
  have vv1 := f0_0
  obtain ⟨cl1, Ar1, qk1, Sz1, Nn1, Hs1, Gs1⟩ := vv1
  have st1 : ∀ t, Steps p.tables e below (s₁.setTop (mkF m 8 #[.val (.ref a1)] [(.int (0 : Int32))])) t → Steps p.tables e below (s₁.setTop (mkF m 7 #[.val (.ref a1)] [(.ref a1)])) t := fun t k => by
    refine X0.arraylength hx (by rw [e0]; exact Ar1.1) (State.isArrayOf_alike hZ.alike Ar1.2.1) (g := (mkF m 7 #[.val (.ref a1)] [(.ref a1)])) rfl rfl (hb hby own_d118) _ ?_
    rw [len_of Sz1 Nn1]
    exact k
  refine own_go (fun t k => st1 t k) ?_
  show OwnG p.tables e below _ (s₁.setTop (mkF m 8 #[.val (.ref a1)] [(.int (0 : Int32))]))
  refine own_go (fun t k => own_lsw X0.here hx rfl (pc0 := 8) (pc' := 36) (o := 28) rfl (hb hby own_d119) rfl (by decide) (by decide) (by decide) (by decide) k) ?_
  show OwnG p.tables e below _ (s₁.setTop (mkF m 36 #[.val (.ref a1)] []))
  refine own_go (fun t k => XS.iconst X0.here hx rfl (hb hby own_d120) k) ?_
  show OwnG p.tables e below _ (s₁.setTop (mkF m 37 #[.val (.ref a1)] [(.int (1 : Int32))]))
  refine own_go (fun t k => XS.goto X0.here hx rfl (pc0 := 37) (pc' := 59) rfl (hb hby own_d121) (by decide) (by decide) k) ?_
  show OwnG p.tables e below _ (s₁.setTop (mkF m 59 #[.val (.ref a1)] [(.int (1 : Int32))]))
  obtain ⟨fs, hr, hrun, hended, hW, hsame⟩ := X0.leave (v := some (.int (1 : Int32))) (fun h => by rw [Bd.returns] at h; cases h)
  refine ⟨_, _, retI X0 hx Bd.returns (hb hby own_d122) hr, hrun, hended, _, _, rfl, ?_, ⟨_, rfl⟩, hW, hsame.mono (by decide) (by decide)⟩
  show Q_own_ahc Z a1 k1 h0 n0 _ s₁.heap _
  rw [e0]
  exact ⟨rfl, N0, rfl⟩
theorem own_ef123 (m : MethodId) (a1 : Addr) (a2 : Addr) : entryFrame m #[(.ref a1), (.ref a2)] 3 = mkF m 0 #[.val (.ref a1), .val (.ref a2), .unset] [] := by first | (simp [entryFrame, mkF, argsToLocals, Value.category]; done) | rfl
theorem own_d124 : decode prog_122_method_8_code 0 = .ok (.aload_n 0, 1) := by decide +kernel
theorem own_d125 : decode prog_122_method_8_code 1 = .ok (.getfield 13, 3) := by decide +kernel
theorem own_d126 : decode prog_122_method_8_code 4 = .ok (.aload_n 1, 1) := by decide +kernel
theorem own_d127 : decode prog_122_method_8_code 5 = .ok (.getfield 13, 3) := by decide +kernel
theorem own_d128 : decode prog_122_method_8_code 8 = .ok (.invokestatic 116, 3) := by decide +kernel
theorem own_pd129 : parseMethodDescriptor "(JJ)I" = some ⟨[.long, .long], some .int⟩ := by decide +kernel
theorem own_d130 : decode prog_122_method_8_code 11 = .ok (.istore_n 2, 1) := by decide +kernel
theorem own_d131 : decode prog_122_method_8_code 12 = .ok (.iload_n 2, 1) := by decide +kernel
theorem own_d132 : decode prog_122_method_8_code 13 = .ok (.ifCond .eq 7, 3) := by decide +kernel
theorem own_d133 : decode prog_122_method_8_code 20 = .ok (.aload_n 0, 1) := by decide +kernel
theorem own_d134 : decode prog_122_method_8_code 21 = .ok (.getfield 7, 3) := by decide +kernel
theorem own_d135 : decode prog_122_method_8_code 24 = .ok (.aload_n 1, 1) := by decide +kernel
theorem own_d136 : decode prog_122_method_8_code 25 = .ok (.getfield 7, 3) := by decide +kernel
theorem own_d137 : decode prog_122_method_8_code 28 = .ok (.invokestatic 122, 3) := by decide +kernel
theorem own_pd138 : parseMethodDescriptor "([B[B)I" = some ⟨[(.array .byte), (.array .byte)], some .int⟩ := by decide +kernel
theorem own_d139 : decode prog_122_method_8_code 31 = .ok (.ireturn, 1) := by decide +kernel
theorem own_d140 : decode prog_122_method_8_code 16 = .ok (.iload_n 2, 1) := by decide +kernel
theorem own_d141 : decode prog_122_method_8_code 17 = .ok (.goto 14, 3) := by decide +kernel
def Q_own_ct (Z : State) (a1 : Addr) (a2 : Addr) (b1 : Addr) (b2 : Addr) (k1 : ClassId) (k2 : ClassId) (q1 : Int64) (q2 : Int64) (h0 : Heap) (n0 : Nat) (v : Option Value) (h : Heap) (L : List Loc) : Prop := v = some (.int (own_cmp q1 q2)) ∧ Fr n0 L ∧ h = h0
set_option maxRecDepth 65536 in
set_option maxHeartbeats 40000000 in
theorem own_ct (l : Launch) (Z : State) (a0 : Array Value) (hw : ∀ d ∈ tables_1, d.before a0 Z = true) (ws : List Jvm.Cond) (a1 : Addr) (a2 : Addr) (b1 : Addr) (b2 : Addr) (k1 : ClassId) (k2 : ClassId) (q1 : Int64) (q2 : Int64) (h0 : Heap) (n0 : Nat) (Z0 : n0 ≤ h0.size) (f0_0 : Exa Z h0 a1 "com/example/keyspace/keyspace/engine/PartitionKey") (f0_1 : Fld Z h0 a1 "com/example/keyspace/keyspace/engine/PartitionKey" "bytes" "[B" (.ref b1)) (f0_2 : Fld Z h0 a1 "com/example/keyspace/keyspace/engine/PartitionKey" "token" "J" (.long q1)) (f0_3 : Arv Z h0 b1 k1 .byte (0 : Int32) [] (.int (0 : Int32))) (f0_4 : Exa Z h0 a2 "com/example/keyspace/keyspace/engine/PartitionKey") (f0_5 : Fld Z h0 a2 "com/example/keyspace/keyspace/engine/PartitionKey" "bytes" "[B" (.ref b2)) (f0_6 : Fld Z h0 a2 "com/example/keyspace/keyspace/engine/PartitionKey" "token" "J" (.long q2)) (f0_7 : Arv Z h0 b2 k2 .byte (0 : Int32) [] (.int (0 : Int32))) (hne : b1 ≠ b2) :
    MetFree l (⟨"com/example/keyspace/keyspace/engine/PartitionKey", "compareTo", "(Lcom/example/keyspace/keyspace/engine/PartitionKey;)I"⟩ : MethodName) (head1 (Jvm.Cond.code (⟨"com/example/keyspace/keyspace/engine/PartitionKey", "compareTo", "(Lcom/example/keyspace/keyspace/engine/PartitionKey;)I"⟩ : MethodName) prog_122_method_8_code 3 (some .int) :: ws) ({ frames := 2, cells := 0, slots := 0, locals := 29 } : Room)) (fun a U => a = #[(.ref a1), (.ref a2)] ∧ Z.Warmed39 U.vm ∧ U.heap = h0) (fun _ _ _ _ _ => True) (fun _ U o U' => ∃ v L, o = .returned v ∧ Q_own_ct Z a1 a2 b1 b2 k1 k2 q1 q2 h0 n0 v U'.heap L ∧ FrameEnd U o U' L ({ frames := 2, cells := 0, slots := 0, locals := 29 } : Room).cells ({ frames := 2, cells := 0, slots := 0, locals := 29 } : Room).slots) := by
  refine MetFree.of_bodySF (plainFor_of_name own_pn1) hisR ?_
  intro p e s m args below meth c s₁ Bd hml0 hP hK
  obtain ⟨rfl, hZ, hh⟩ := hP
  have hx := Bd.exec
  have hby := Bd.bytes
  have hml : c.maxLocals = 3 := hml0
  have hown : s.vm.findClass "com/example/keyspace/keyspace/engine/PartitionKey" = some m.cls := findClass_of_methodNamed Bd.named
  have hnm := (name_of_methodNamed Bd.named Bd.method).1
  have X0 : Stand p l e ({ frames := 2, cells := 0, slots := 0, locals := 29 } : Room) s m #[(.ref a1), (.ref a2)] below meth c s₁ [] 0 0 := Stand.of_body Bd
  have e0 : s₁.heap = h0 := by rw [← hh, Bd.state]; rfl
  have N0 := Fr.nil n0
  have K0 := Keep.refl h0 []
  refine own_go (fun t k => castTop (own_ef123 m a1 a2) k) ?_
  show OwnG p.tables e below _ (s₁.setTop (mkF m 0 #[.val (.ref a1), .val (.ref a2), .unset] []))
  refine own_go (fun t k => XS.aloadN X0.here hx rfl (hb hby own_d124) rfl rfl k) ?_
  show OwnG p.tables e below _ (s₁.setTop (mkF m 1 #[.val (.ref a1), .val (.ref a2), .unset] [(.ref a1)]))
  obtain ⟨T1, X1, e1, st1⟩ := getF X0 hx hZ hown (host := "") (Or.inl (hw _ (List.mem_of_getElem? (i := 15) rfl))) Via.refl e0 f0_2 (g := (mkF m 1 #[.val (.ref a1), .val (.ref a2), .unset] [(.ref a1)])) rfl rfl (hb hby own_d125)
  refine own_go (fun t k => st1 t k) ?_
  show OwnG p.tables e below _ (T1.setTop (mkF m 4 #[.val (.ref a1), .val (.ref a2), .unset] [(.long q1)]))
  refine own_go (fun t k => XS.aloadN X1.here hx rfl (hb hby own_d126) rfl rfl k) ?_
  show OwnG p.tables e below _ (T1.setTop (mkF m 5 #[.val (.ref a1), .val (.ref a2), .unset] [(.ref a2), (.long q1)]))
  obtain ⟨T2, X2, e2, st2⟩ := getF X1 hx hZ hown (host := "") (Or.inl (hw _ (List.mem_of_getElem? (i := 15) rfl))) Via.refl e1 f0_6 (g := (mkF m 5 #[.val (.ref a1), .val (.ref a2), .unset] [(.ref a2), (.long q1)])) rfl rfl (hb hby own_d127)
  refine own_go (fun t k => st2 t k) ?_
  show OwnG p.tables e below _ (T2.setTop (mkF m 8 #[.val (.ref a1), .val (.ref a2), .unset] [(.long q2), (.long q1)]))
  obtain ⟨_, _, ⟨T3, L3, k3, n3⟩, -, X3, ⟨Lc3, hQ3, l3, y3, z3⟩, st3⟩ := Jvm.LawKit.callS X2 hx (y := (⟨"java/lang/Long", "compare", "(JJ)I"⟩ : MethodName)) hown (mvT hZ (hw _ (List.mem_of_getElem? (i := 32) rfl))) (mvT hZ (hw _ (List.mem_of_getElem? (i := 33) rfl))) (mvT hZ (hw _ (List.mem_of_getElem? (i := 34) rfl))) (mvT hZ (hw _ (List.mem_of_getElem? (i := 35) rfl))) (by decide) (backOf (W := 0) (own_lcmp l Z a0 hw [] q1 q2 h0 n0 Z0) hZ (hw _ (List.mem_of_getElem? (i := 35) rfl)) (hw _ (List.mem_of_getElem? (i := 34) rfl)) (by decide) (by decide)) (g := (mkF m 8 #[.val (.ref a1), .val (.ref a2), .unset] [(.long q2), (.long q1)])) rfl (by rw [hml]; rfl) (argsL := [(.long q1), (.long q2)]) (rest := []) (lenOf own_pd129 rfl) rfl (by show 2 * 0 + _ ≤ _; exact Nat.le_of_eq rfl) (hb hby own_d128) (fun _ _ => ⟨rfl, e2, (by decide : 0 + 0 ≤ _), (by decide : 0 + 0 ≤ _)⟩)
  dsimp only [Pt.U, Pt.locs, Pt.cells, Pt.slots] at X3 l3 y3 z3 st3 hQ3
  subst l3 y3 z3
  obtain ⟨rfl, Nq3, eq3⟩ := hQ3
  have N3 := Fr.app N0 Nq3
  have e3 : T3.heap = h0 := eq3
  refine own_go (fun t k => st3 t k) ?_
  show OwnG p.tables e below _ (T3.setTop (mkF m 11 #[.val (.ref a1), .val (.ref a2), .unset] [(.int (own_cmp q1 q2))]))
  refine own_go (fun t k => XS.istoreN X3.here hx rfl (hb hby own_d130) rfl (l' := #[.val (.ref a1), .val (.ref a2), .val (.int (own_cmp q1 q2))]) rfl k) ?_
  show OwnG p.tables e below _ (T3.setTop (mkF m 12 #[.val (.ref a1), .val (.ref a2), .val (.int (own_cmp q1 q2))] []))
  refine own_go (fun t k => XS.iloadN X3.here hx rfl (hb hby own_d131) rfl  k) ?_
  show OwnG p.tables e below _ (T3.setTop (mkF m 13 #[.val (.ref a1), .val (.ref a2), .val (.int (own_cmp q1 q2))] [(.int (own_cmp q1 q2))]))
  by_cases hc4 : (own_cmp q1 q2) = (0 : Int32)
  · refine own_go (fun t k => XS.ifYes X3.here hx rfl (pc0 := 13) (pc' := 20) rfl (hb hby own_d132) rfl ((if0 _ _).trans (teq hc4).1) (by decide) (by decide) k) ?_
    show OwnG p.tables e below _ (T3.setTop (mkF m 20 #[.val (.ref a1), .val (.ref a2), .val (.int (own_cmp q1 q2))] []))
    refine own_go (fun t k => XS.aloadN X3.here hx rfl (hb hby own_d133) rfl rfl k) ?_
    show OwnG p.tables e below _ (T3.setTop (mkF m 21 #[.val (.ref a1), .val (.ref a2), .val (.int (own_cmp q1 q2))] [(.ref a1)]))
    obtain ⟨T5, X5, e5, st5⟩ := getF X3 hx hZ hown (host := "") (Or.inl (hw _ (List.mem_of_getElem? (i := 13) rfl))) Via.refl e3 f0_1 (g := (mkF m 21 #[.val (.ref a1), .val (.ref a2), .val (.int (own_cmp q1 q2))] [(.ref a1)])) rfl rfl (hb hby own_d134)
    refine own_go (fun t k => st5 t k) ?_
    show OwnG p.tables e below _ (T5.setTop (mkF m 24 #[.val (.ref a1), .val (.ref a2), .val (.int (own_cmp q1 q2))] [(.ref b1)]))
    refine own_go (fun t k => XS.aloadN X5.here hx rfl (hb hby own_d135) rfl rfl k) ?_
    show OwnG p.tables e below _ (T5.setTop (mkF m 25 #[.val (.ref a1), .val (.ref a2), .val (.int (own_cmp q1 q2))] [(.ref a2), (.ref b1)]))
    obtain ⟨T6, X6, e6, st6⟩ := getF X5 hx hZ hown (host := "") (Or.inl (hw _ (List.mem_of_getElem? (i := 13) rfl))) Via.refl e5 f0_5 (g := (mkF m 25 #[.val (.ref a1), .val (.ref a2), .val (.int (own_cmp q1 q2))] [(.ref a2), (.ref b1)])) rfl rfl (hb hby own_d136)
    refine own_go (fun t k => st6 t k) ?_
    show OwnG p.tables e below _ (T6.setTop (mkF m 28 #[.val (.ref a1), .val (.ref a2), .val (.int (own_cmp q1 q2))] [(.ref b2), (.ref b1)]))
    obtain ⟨_, _, ⟨T7, L7, k7, n7⟩, -, X7, ⟨Lc7, hQ7, l7, y7, z7⟩, st7⟩ := Jvm.LawKit.callS X6 hx (y := (⟨"java/util/Arrays", "compareUnsigned", "([B[B)I"⟩ : MethodName)) hown (mvT hZ (hw _ (List.mem_of_getElem? (i := 58) rfl))) (mvT hZ (hw _ (List.mem_of_getElem? (i := 59) rfl))) (mvT hZ (hw _ (List.mem_of_getElem? (i := 44) rfl))) (mvT hZ (hw _ (List.mem_of_getElem? (i := 60) rfl))) (by decide) (backOf (W := 0) (own_cu l Z a0 hw [] b1 b2 k1 k2 h0 n0 Z0 f0_3 f0_7 hne) hZ (hw _ (List.mem_of_getElem? (i := 60) rfl)) (hw _ (List.mem_of_getElem? (i := 44) rfl)) (by decide) (by decide)) (g := (mkF m 28 #[.val (.ref a1), .val (.ref a2), .val (.int (own_cmp q1 q2))] [(.ref b2), (.ref b1)])) rfl (by rw [hml]; rfl) (argsL := [(.ref b1), (.ref b2)]) (rest := []) (lenOf own_pd138 rfl) rfl (by show 2 * 0 + _ ≤ _; exact Nat.le_of_eq rfl) (hb hby own_d137) (fun _ _ => ⟨rfl, e6, (by decide : 0 + 0 ≤ _), (by decide : 0 + 0 ≤ _)⟩)
    dsimp only [Pt.U, Pt.locs, Pt.cells, Pt.slots] at X7 l7 y7 z7 st7 hQ7
    subst l7 y7 z7
    obtain ⟨rfl, Nq7, eq7⟩ := hQ7
    have N7 := Fr.app N3 Nq7
    have e7 : T7.heap = h0 := eq7
    refine own_go (fun t k => st7 t k) ?_
    show OwnG p.tables e below _ (T7.setTop (mkF m 31 #[.val (.ref a1), .val (.ref a2), .val (.int (own_cmp q1 q2))] [(.int (0 : Int32))]))
    obtain ⟨fs, hr, hrun, hended, hW, hsame⟩ := X7.leave (v := some (.int (0 : Int32))) (fun h => by rw [Bd.returns] at h; cases h)
    refine ⟨_, _, retI X7 hx Bd.returns (hb hby own_d139) hr, hrun, hended, _, _, rfl, ?_, ⟨_, rfl⟩, hW, hsame.mono (by decide) (by decide)⟩
    show Q_own_ct Z a1 a2 b1 b2 k1 k2 q1 q2 h0 n0 _ T7.heap _
    rw [e7]
    exact ⟨by rw [hc4], N7, rfl⟩
  · refine own_go (fun t k => XS.ifNo X3.here hx rfl (hb hby own_d132) rfl ((if0 _ _).trans (feq hc4).1) k) ?_
    show OwnG p.tables e below _ (T3.setTop (mkF m 16 #[.val (.ref a1), .val (.ref a2), .val (.int (own_cmp q1 q2))] []))
    refine own_go (fun t k => XS.iloadN X3.here hx rfl (hb hby own_d140) rfl  k) ?_
    show OwnG p.tables e below _ (T3.setTop (mkF m 17 #[.val (.ref a1), .val (.ref a2), .val (.int (own_cmp q1 q2))] [(.int (own_cmp q1 q2))]))
    refine own_go (fun t k => XS.goto X3.here hx rfl (pc0 := 17) (pc' := 31) rfl (hb hby own_d141) (by decide) (by decide) k) ?_
    show OwnG p.tables e below _ (T3.setTop (mkF m 31 #[.val (.ref a1), .val (.ref a2), .val (.int (own_cmp q1 q2))] [(.int (own_cmp q1 q2))]))
    obtain ⟨fs, hr, hrun, hended, hW, hsame⟩ := X3.leave (v := some (.int (own_cmp q1 q2))) (fun h => by rw [Bd.returns] at h; cases h)
    refine ⟨_, _, retI X3 hx Bd.returns (hb hby own_d139) hr, hrun, hended, _, _, rfl, ?_, ⟨_, rfl⟩, hW, hsame.mono (by decide) (by decide)⟩
    show Q_own_ct Z a1 a2 b1 b2 k1 k2 q1 q2 h0 n0 _ T3.heap _
    rw [e3]
    exact ⟨rfl, N3, rfl⟩
theorem own_ef142 (m : MethodId) (a1 : Addr) (a2 : Addr) : entryFrame m #[(.ref a1), (.ref a2)] 3 = mkF m 0 #[.val (.ref a1), .val (.ref a2), .unset] [] := by first | (simp [entryFrame, mkF, argsToLocals, Value.category]; done) | rfl
theorem own_d143 : decode prog_122_method_9_code 0 = .ok (.aload_n 1, 1) := by decide +kernel
theorem own_d144 : decode prog_122_method_9_code 1 = .ok (.instanceof 8, 3) := by decide +kernel
theorem own_d145 : decode prog_122_method_9_code 4 = .ok (.ifCond .eq 26, 3) := by decide +kernel
theorem own_d146 : decode prog_122_method_9_code 7 = .ok (.aload_n 1, 1) := by decide +kernel
theorem own_d147 : decode prog_122_method_9_code 8 = .ok (.checkcast 8, 3) := by decide +kernel
theorem own_d148 : decode prog_122_method_9_code 11 = .ok (.astore_n 2, 1) := by decide +kernel
theorem own_d149 : decode prog_122_method_9_code 12 = .ok (.aload_n 0, 1) := by decide +kernel
theorem own_d150 : decode prog_122_method_9_code 13 = .ok (.getfield 7, 3) := by decide +kernel
theorem own_d151 : decode prog_122_method_9_code 16 = .ok (.aload_n 2, 1) := by decide +kernel
theorem own_d152 : decode prog_122_method_9_code 17 = .ok (.getfield 7, 3) := by decide +kernel
theorem own_d153 : decode prog_122_method_9_code 20 = .ok (.invokestatic 128, 3) := by decide +kernel
theorem own_pd154 : parseMethodDescriptor "([B[B)Z" = some ⟨[(.array .byte), (.array .byte)], some .boolean⟩ := by decide +kernel
theorem own_d155 : decode prog_122_method_9_code 23 = .ok (.ifCond .eq 7, 3) := by decide +kernel
theorem own_d156 : decode prog_122_method_9_code 26 = .ok (.iconst 1, 1) := by decide +kernel
theorem own_d157 : decode prog_122_method_9_code 27 = .ok (.goto 4, 3) := by decide +kernel
theorem own_d158 : decode prog_122_method_9_code 31 = .ok (.ireturn, 1) := by decide +kernel
def Q_own_pe (Z : State) (a1 : Addr) (a2 : Addr) (b1 : Addr) (b2 : Addr) (k1 : ClassId) (k2 : ClassId) (q1 : Int64) (q2 : Int64) (h0 : Heap) (n0 : Nat) (v : Option Value) (h : Heap) (L : List Loc) : Prop := v = some (.int (1 : Int32)) ∧ Fr n0 L ∧ h = h0
set_option maxRecDepth 65536 in
set_option maxHeartbeats 40000000 in
theorem own_pe (l : Launch) (Z : State) (a0 : Array Value) (hw : ∀ d ∈ tables_1, d.before a0 Z = true) (ws : List Jvm.Cond) (a1 : Addr) (a2 : Addr) (b1 : Addr) (b2 : Addr) (k1 : ClassId) (k2 : ClassId) (q1 : Int64) (q2 : Int64) (h0 : Heap) (n0 : Nat) (Z0 : n0 ≤ h0.size) (f0_0 : Exa Z h0 a1 "com/example/keyspace/keyspace/engine/PartitionKey") (f0_1 : Fld Z h0 a1 "com/example/keyspace/keyspace/engine/PartitionKey" "bytes" "[B" (.ref b1)) (f0_2 : Fld Z h0 a1 "com/example/keyspace/keyspace/engine/PartitionKey" "token" "J" (.long q1)) (f0_3 : Arv Z h0 b1 k1 .byte (0 : Int32) [] (.int (0 : Int32))) (f0_4 : Exa Z h0 a2 "com/example/keyspace/keyspace/engine/PartitionKey") (f0_5 : Fld Z h0 a2 "com/example/keyspace/keyspace/engine/PartitionKey" "bytes" "[B" (.ref b2)) (f0_6 : Fld Z h0 a2 "com/example/keyspace/keyspace/engine/PartitionKey" "token" "J" (.long q2)) (f0_7 : Arv Z h0 b2 k2 .byte (0 : Int32) [] (.int (0 : Int32))) (hne : b1 ≠ b2) :
    MetFree l (⟨"com/example/keyspace/keyspace/engine/PartitionKey", "equals", "(Ljava/lang/Object;)Z"⟩ : MethodName) (head1 (Jvm.Cond.code (⟨"com/example/keyspace/keyspace/engine/PartitionKey", "equals", "(Ljava/lang/Object;)Z"⟩ : MethodName) prog_122_method_9_code 3 (some .boolean) :: ws) ({ frames := 2, cells := 0, slots := 0, locals := 29 } : Room)) (fun a U => a = #[(.ref a1), (.ref a2)] ∧ Z.Warmed39 U.vm ∧ U.heap = h0) (fun _ _ _ _ _ => True) (fun _ U o U' => ∃ v L, o = .returned v ∧ Q_own_pe Z a1 a2 b1 b2 k1 k2 q1 q2 h0 n0 v U'.heap L ∧ FrameEnd U o U' L ({ frames := 2, cells := 0, slots := 0, locals := 29 } : Room).cells ({ frames := 2, cells := 0, slots := 0, locals := 29 } : Room).slots) := by
  refine MetFree.of_bodySF (plainFor_of_name own_pn1) hisR ?_
  intro p e s m args below meth c s₁ Bd hml0 hP hK
  obtain ⟨rfl, hZ, hh⟩ := hP
  have hx := Bd.exec
  have hby := Bd.bytes
  have hml : c.maxLocals = 3 := hml0
  have hown : s.vm.findClass "com/example/keyspace/keyspace/engine/PartitionKey" = some m.cls := findClass_of_methodNamed Bd.named
  have hnm := (name_of_methodNamed Bd.named Bd.method).1
  have X0 : Stand p l e ({ frames := 2, cells := 0, slots := 0, locals := 29 } : Room) s m #[(.ref a1), (.ref a2)] below meth c s₁ [] 0 0 := Stand.of_body Bd
  have e0 : s₁.heap = h0 := by rw [← hh, Bd.state]; rfl
  have N0 := Fr.nil n0
  have K0 := Keep.refl h0 []
  refine own_go (fun t k => castTop (own_ef142 m a1 a2) k) ?_
  show OwnG p.tables e below _ (s₁.setTop (mkF m 0 #[.val (.ref a1), .val (.ref a2), .unset] []))
  refine own_go (fun t k => XS.aloadN X0.here hx rfl (hb hby own_d143) rfl rfl k) ?_
  show OwnG p.tables e below _ (s₁.setTop (mkF m 1 #[.val (.ref a1), .val (.ref a2), .unset] [(.ref a2)]))
  obtain ⟨T1, X1, e1, st1⟩ := instY X0 hx hZ hown (hw _ (List.mem_of_getElem? (i := 4) rfl)) e0 (Ins.self f0_4) (g := (mkF m 1 #[.val (.ref a1), .val (.ref a2), .unset] [(.ref a2)])) rfl rfl (hb hby own_d144)
  refine own_go (fun t k => st1 t k) ?_
  show OwnG p.tables e below _ (T1.setTop (mkF m 4 #[.val (.ref a1), .val (.ref a2), .unset] [(.int (1 : Int32))]))
  refine own_go (fun t k => XS.ifNo X1.here hx rfl (hb hby own_d145) rfl ((if0 _ _).trans (feq (by decide : ¬ ((1 : Int32) = (0 : Int32)))).1) k) ?_
  show OwnG p.tables e below _ (T1.setTop (mkF m 7 #[.val (.ref a1), .val (.ref a2), .unset] []))
  refine own_go (fun t k => XS.aloadN X1.here hx rfl (hb hby own_d146) rfl rfl k) ?_
  show OwnG p.tables e below _ (T1.setTop (mkF m 8 #[.val (.ref a1), .val (.ref a2), .unset] [(.ref a2)]))
  obtain ⟨T2, X2, e2, st2⟩ := castY X1 hx hZ hown (hw _ (List.mem_of_getElem? (i := 4) rfl)) e1 (Ins.self f0_4) (g := (mkF m 8 #[.val (.ref a1), .val (.ref a2), .unset] [(.ref a2)])) rfl rfl (hb hby own_d147)
  refine own_go (fun t k => st2 t k) ?_
  show OwnG p.tables e below _ (T2.setTop (mkF m 11 #[.val (.ref a1), .val (.ref a2), .unset] [(.ref a2)]))
  refine own_go (fun t k => XS.astoreN X2.here hx rfl (hb hby own_d148) rfl rfl (l' := #[.val (.ref a1), .val (.ref a2), .val (.ref a2)]) rfl k) ?_
  show OwnG p.tables e below _ (T2.setTop (mkF m 12 #[.val (.ref a1), .val (.ref a2), .val (.ref a2)] []))
  refine own_go (fun t k => XS.aloadN X2.here hx rfl (hb hby own_d149) rfl rfl k) ?_
  show OwnG p.tables e below _ (T2.setTop (mkF m 13 #[.val (.ref a1), .val (.ref a2), .val (.ref a2)] [(.ref a1)]))
  obtain ⟨T3, X3, e3, st3⟩ := getF X2 hx hZ hown (host := "") (Or.inl (hw _ (List.mem_of_getElem? (i := 13) rfl))) Via.refl e2 f0_1 (g := (mkF m 13 #[.val (.ref a1), .val (.ref a2), .val (.ref a2)] [(.ref a1)])) rfl rfl (hb hby own_d150)
  refine own_go (fun t k => st3 t k) ?_
  show OwnG p.tables e below _ (T3.setTop (mkF m 16 #[.val (.ref a1), .val (.ref a2), .val (.ref a2)] [(.ref b1)]))
  refine own_go (fun t k => XS.aloadN X3.here hx rfl (hb hby own_d151) rfl rfl k) ?_
  show OwnG p.tables e below _ (T3.setTop (mkF m 17 #[.val (.ref a1), .val (.ref a2), .val (.ref a2)] [(.ref a2), (.ref b1)]))
  obtain ⟨T4, X4, e4, st4⟩ := getF X3 hx hZ hown (host := "") (Or.inl (hw _ (List.mem_of_getElem? (i := 13) rfl))) Via.refl e3 f0_5 (g := (mkF m 17 #[.val (.ref a1), .val (.ref a2), .val (.ref a2)] [(.ref a2), (.ref b1)])) rfl rfl (hb hby own_d152)
  refine own_go (fun t k => st4 t k) ?_
  show OwnG p.tables e below _ (T4.setTop (mkF m 20 #[.val (.ref a1), .val (.ref a2), .val (.ref a2)] [(.ref b2), (.ref b1)]))
  obtain ⟨_, _, ⟨T5, L5, k5, n5⟩, -, X5, ⟨Lc5, hQ5, l5, y5, z5⟩, st5⟩ := Jvm.LawKit.callS X4 hx (y := (⟨"java/util/Arrays", "equals", "([B[B)Z"⟩ : MethodName)) hown (mvT hZ (hw _ (List.mem_of_getElem? (i := 42) rfl))) (mvT hZ (hw _ (List.mem_of_getElem? (i := 43) rfl))) (mvT hZ (hw _ (List.mem_of_getElem? (i := 44) rfl))) (mvT hZ (hw _ (List.mem_of_getElem? (i := 45) rfl))) (by decide) (backOf (W := 0) (own_aeq l Z a0 hw [] b1 b2 k1 k2 h0 n0 Z0 f0_3 f0_7 hne) hZ (hw _ (List.mem_of_getElem? (i := 45) rfl)) (hw _ (List.mem_of_getElem? (i := 44) rfl)) (by decide) (by decide)) (g := (mkF m 20 #[.val (.ref a1), .val (.ref a2), .val (.ref a2)] [(.ref b2), (.ref b1)])) rfl (by rw [hml]; rfl) (argsL := [(.ref b1), (.ref b2)]) (rest := []) (lenOf own_pd154 rfl) rfl (by show 2 * 0 + _ ≤ _; exact Nat.le_of_eq rfl) (hb hby own_d153) (fun _ _ => ⟨rfl, e4, (by decide : 0 + 0 ≤ _), (by decide : 0 + 0 ≤ _)⟩)
  dsimp only [Pt.U, Pt.locs, Pt.cells, Pt.slots] at X5 l5 y5 z5 st5 hQ5
  subst l5 y5 z5
  obtain ⟨rfl, Nq5, eq5⟩ := hQ5
  have N5 := Fr.app N0 Nq5
  have e5 : T5.heap = h0 := eq5
  refine own_go (fun t k => st5 t k) ?_
  show OwnG p.tables e below _ (T5.setTop (mkF m 23 #[.val (.ref a1), .val (.ref a2), .val (.ref a2)] [(.int (1 : Int32))]))
  refine own_go (fun t k => XS.ifNo X5.here hx rfl (hb hby own_d155) rfl ((if0 _ _).trans (feq (by decide : ¬ ((1 : Int32) = (0 : Int32)))).1) k) ?_
  show OwnG p.tables e below _ (T5.setTop (mkF m 26 #[.val (.ref a1), .val (.ref a2), .val (.ref a2)] []))
  refine own_go (fun t k => XS.iconst X5.here hx rfl (hb hby own_d156) k) ?_
  show OwnG p.tables e below _ (T5.setTop (mkF m 27 #[.val (.ref a1), .val (.ref a2), .val (.ref a2)] [(.int (1 : Int32))]))
  refine own_go (fun t k => XS.goto X5.here hx rfl (pc0 := 27) (pc' := 31) rfl (hb hby own_d157) (by decide) (by decide) k) ?_
  show OwnG p.tables e below _ (T5.setTop (mkF m 31 #[.val (.ref a1), .val (.ref a2), .val (.ref a2)] [(.int (1 : Int32))]))
  obtain ⟨fs, hr, hrun, hended, hW, hsame⟩ := X5.leave (v := some (.int (1 : Int32))) (fun h => by rw [Bd.returns] at h; cases h)
  refine ⟨_, _, retN X5 hx (t := .boolean) Bd.returns (by simp) (hb hby own_d158) hr, hrun, hended, _, _, rfl, ?_, ⟨_, rfl⟩, hW, hsame.mono (by decide) (by decide)⟩
  show Q_own_pe Z a1 a2 b1 b2 k1 k2 q1 q2 h0 n0 _ T5.heap _
  rw [e5]
  exact ⟨rfl, N5, rfl⟩
theorem own_ef159 (m : MethodId) (a1 : Addr) : entryFrame m #[(.ref a1)] 1 = mkF m 0 #[.val (.ref a1)] [] := by first | (simp [entryFrame, mkF, argsToLocals, Value.category]; done) | rfl
theorem own_d160 : decode prog_122_method_10_code 0 = .ok (.aload_n 0, 1) := by decide +kernel
theorem own_d161 : decode prog_122_method_10_code 1 = .ok (.getfield 7, 3) := by decide +kernel
theorem own_d162 : decode prog_122_method_10_code 4 = .ok (.invokestatic 132, 3) := by decide +kernel
theorem own_pd163 : parseMethodDescriptor "([B)I" = some ⟨[(.array .byte)], some .int⟩ := by decide +kernel
theorem own_d164 : decode prog_122_method_10_code 7 = .ok (.ireturn, 1) := by decide +kernel
def Q_own_ph (Z : State) (a1 : Addr) (b1 : Addr) (k1 : ClassId) (h0 : Heap) (n0 : Nat) (v : Option Value) (h : Heap) (L : List Loc) : Prop := v = some (.int (1 : Int32)) ∧ Fr n0 L ∧ h = h0
set_option maxRecDepth 65536 in
set_option maxHeartbeats 40000000 in
theorem own_ph (l : Launch) (Z : State) (a0 : Array Value) (hw : ∀ d ∈ tables_1, d.before a0 Z = true) (ws : List Jvm.Cond) (a1 : Addr) (b1 : Addr) (k1 : ClassId) (h0 : Heap) (n0 : Nat) (Z0 : n0 ≤ h0.size) (f0_0 : Fld Z h0 a1 "com/example/keyspace/keyspace/engine/PartitionKey" "bytes" "[B" (.ref b1)) (f0_1 : Arv Z h0 b1 k1 .byte (0 : Int32) [] (.int (0 : Int32))) :
    MetFree l (⟨"com/example/keyspace/keyspace/engine/PartitionKey", "hashCode", "()I"⟩ : MethodName) (head1 (Jvm.Cond.code (⟨"com/example/keyspace/keyspace/engine/PartitionKey", "hashCode", "()I"⟩ : MethodName) prog_122_method_10_code 1 (some .int) :: ws) ({ frames := 1, cells := 0, slots := 0, locals := 12 } : Room)) (fun a U => a = #[(.ref a1)] ∧ Z.Warmed39 U.vm ∧ U.heap = h0) (fun _ _ _ _ _ => True) (fun _ U o U' => ∃ v L, o = .returned v ∧ Q_own_ph Z a1 b1 k1 h0 n0 v U'.heap L ∧ FrameEnd U o U' L ({ frames := 1, cells := 0, slots := 0, locals := 12 } : Room).cells ({ frames := 1, cells := 0, slots := 0, locals := 12 } : Room).slots) := by
  refine MetFree.of_bodySF (plainFor_of_name own_pn1) hisR ?_
  intro p e s m args below meth c s₁ Bd hml0 hP hK
  obtain ⟨rfl, hZ, hh⟩ := hP
  have hx := Bd.exec
  have hby := Bd.bytes
  have hml : c.maxLocals = 1 := hml0
  have hown : s.vm.findClass "com/example/keyspace/keyspace/engine/PartitionKey" = some m.cls := findClass_of_methodNamed Bd.named
  have hnm := (name_of_methodNamed Bd.named Bd.method).1
  have X0 : Stand p l e ({ frames := 1, cells := 0, slots := 0, locals := 12 } : Room) s m #[(.ref a1)] below meth c s₁ [] 0 0 := Stand.of_body Bd
  have e0 : s₁.heap = h0 := by rw [← hh, Bd.state]; rfl
  have N0 := Fr.nil n0
  have K0 := Keep.refl h0 []
  refine own_go (fun t k => castTop (own_ef159 m a1) k) ?_
  show OwnG p.tables e below _ (s₁.setTop (mkF m 0 #[.val (.ref a1)] []))
  refine own_go (fun t k => XS.aloadN X0.here hx rfl (hb hby own_d160) rfl rfl k) ?_
  show OwnG p.tables e below _ (s₁.setTop (mkF m 1 #[.val (.ref a1)] [(.ref a1)]))
  obtain ⟨T1, X1, e1, st1⟩ := getF X0 hx hZ hown (host := "") (Or.inl (hw _ (List.mem_of_getElem? (i := 13) rfl))) Via.refl e0 f0_0 (g := (mkF m 1 #[.val (.ref a1)] [(.ref a1)])) rfl rfl (hb hby own_d161)
  refine own_go (fun t k => st1 t k) ?_
  show OwnG p.tables e below _ (T1.setTop (mkF m 4 #[.val (.ref a1)] [(.ref b1)]))
  obtain ⟨_, _, ⟨T2, L2, k2, n2⟩, -, X2, ⟨Lc2, hQ2, l2, y2, z2⟩, st2⟩ := Jvm.LawKit.callS X1 hx (y := (⟨"java/util/Arrays", "hashCode", "([B)I"⟩ : MethodName)) hown (mvT hZ (hw _ (List.mem_of_getElem? (i := 55) rfl))) (mvT hZ (hw _ (List.mem_of_getElem? (i := 56) rfl))) (mvT hZ (hw _ (List.mem_of_getElem? (i := 44) rfl))) (mvT hZ (hw _ (List.mem_of_getElem? (i := 57) rfl))) (by decide) (backOf (W := 0) (own_ahc l Z a0 hw [] b1 k1 h0 n0 Z0 f0_1) hZ (hw _ (List.mem_of_getElem? (i := 57) rfl)) (hw _ (List.mem_of_getElem? (i := 44) rfl)) (by decide) (by decide)) (g := (mkF m 4 #[.val (.ref a1)] [(.ref b1)])) rfl (by rw [hml]; rfl) (argsL := [(.ref b1)]) (rest := []) (lenOf own_pd163 rfl) rfl (by show 2 * 0 + _ ≤ _; exact Nat.le_of_eq rfl) (hb hby own_d162) (fun _ _ => ⟨rfl, e1, (by decide : 0 + 0 ≤ _), (by decide : 0 + 0 ≤ _)⟩)
  dsimp only [Pt.U, Pt.locs, Pt.cells, Pt.slots] at X2 l2 y2 z2 st2 hQ2
  subst l2 y2 z2
  obtain ⟨rfl, Nq2, eq2⟩ := hQ2
  have N2 := Fr.app N0 Nq2
  have e2 : T2.heap = h0 := eq2
  refine own_go (fun t k => st2 t k) ?_
  show OwnG p.tables e below _ (T2.setTop (mkF m 7 #[.val (.ref a1)] [(.int (1 : Int32))]))
  obtain ⟨fs, hr, hrun, hended, hW, hsame⟩ := X2.leave (v := some (.int (1 : Int32))) (fun h => by rw [Bd.returns] at h; cases h)
  refine ⟨_, _, retI X2 hx Bd.returns (hb hby own_d164) hr, hrun, hended, _, _, rfl, ?_, ⟨_, rfl⟩, hW, hsame.mono (by decide) (by decide)⟩
  show Q_own_ph Z a1 b1 k1 h0 n0 _ T2.heap _
  rw [e2]
  exact ⟨rfl, N2, rfl⟩
theorem own_ef165 (m : MethodId) (p0 : Int64) (p1 : Int64) : entryFrame m #[(.long p0), (.long p1)] maxLocals = mkF m 0 #[.val (.long p0), .second, .val (.long p1), .second, .unset, .unset, .unset, .unset] [] := by first | (simp [entryFrame, mkF, argsToLocals, Value.category, maxLocals]; done) | rfl
theorem own_pn166 : plainName "com/example/keyspace/keyspace/engine/PartitionKeyFirstPinLaw" = true := by first | (simp [plainName, overriddenIn]; done) | decide +kernel
theorem own_pd167 : parseMethodDescriptor "(J)Lcom/example/keyspace/keyspace/engine/PartitionKey;" = some ⟨[.long], some (.object "com/example/keyspace/keyspace/engine/PartitionKey")⟩ := by decide +kernel
theorem own_pd168 : parseMethodDescriptor "()J" = some ⟨[], some .long⟩ := by decide +kernel
theorem own_pd169 : parseMethodDescriptor "()[B" = some ⟨[], some (.array .byte)⟩ := by decide +kernel
theorem own_pd170 : parseMethodDescriptor "(Lcom/example/keyspace/keyspace/engine/PartitionKey;)I" = some ⟨[(.object "com/example/keyspace/keyspace/engine/PartitionKey")], some .int⟩ := by decide +kernel
theorem own_pd171 : parseMethodDescriptor "(Ljava/lang/Object;)Z" = some ⟨[(.object "java/lang/Object")], some .boolean⟩ := by decide +kernel
theorem own_pd172 : parseMethodDescriptor "()I" = some ⟨[], some .int⟩ := by decide +kernel
def Q_own_law (Z : State) (p0 : Int64) (p1 : Int64) (h0 : Heap) (n0 : Nat) (v : Option Value) (h : Heap) (L : List Loc) : Prop := v = some (.int (1 : Int32)) ∧ Fr n0 L
set_option maxRecDepth 65536 in
set_option maxHeartbeats 40000000 in
theorem own_law (l : Launch) (Z : State) (a0 : Array Value) (hw : ∀ d ∈ tables_1, d.before a0 Z = true) (ws : List Jvm.Cond) (p0 : Int64) (p1 : Int64) (h0 : Heap) (n0 : Nat) (Z0 : n0 ≤ h0.size) :
    MetFree l x (head1 (Jvm.Cond.code x code maxLocals ret :: ws) room_1) (fun a U => a = #[(.long p0), (.long p1)] ∧ Z.Warmed39 U.vm ∧ U.heap = h0) (fun _ _ _ _ _ => True) (fun _ U o U' => ∃ v L, o = .returned v ∧ Q_own_law Z p0 p1 h0 n0 v U'.heap L ∧ FrameEnd U o U' L room_1.cells room_1.slots) := by
  refine MetFree.of_bodySF (plainFor_of_name own_pn166) hisR ?_
  intro p e s m args below meth c s₁ Bd hml0 hP hK
  obtain ⟨rfl, hZ, hh⟩ := hP
  have hx := Bd.exec
  have hby := Bd.bytes
  have hml : c.maxLocals = 8 := hml0
  have hown : s.vm.findClass "com/example/keyspace/keyspace/engine/PartitionKeyFirstPinLaw" = some m.cls := findClass_of_methodNamed Bd.named
  have hnm := (name_of_methodNamed Bd.named Bd.method).1
  have X0 : Stand p l e room_1 s m #[(.long p0), (.long p1)] below meth c s₁ [] 0 0 := Stand.of_body Bd
  have e0 : s₁.heap = h0 := by rw [← hh, Bd.state]; rfl
  have N0 := Fr.nil n0
  have K0 := Keep.refl h0 []
  refine own_go (fun t k => castTop (own_ef165 m p0 p1) k) ?_
  show OwnG p.tables e below _ (s₁.setTop (mkF m 0 #[.val (.long p0), .second, .val (.long p1), .second, .unset, .unset, .unset, .unset] []))
  refine own_go (fun t k => XS.lloadN X0.here hx rfl (hb hby at_0) rfl  k) ?_
  show OwnG p.tables e below _ (s₁.setTop (mkF m 1 #[.val (.long p0), .second, .val (.long p1), .second, .unset, .unset, .unset, .unset] [(.long p0)]))
  obtain ⟨_, _, ⟨T1, L1, k1, n1⟩, -, X1, ⟨Lc1, hQ1, l1, y1, z1⟩, st1⟩ := Jvm.LawKit.callS X0 hx (y := (⟨"com/example/keyspace/keyspace/engine/PartitionKey", "first", "(J)Lcom/example/keyspace/keyspace/engine/PartitionKey;"⟩ : MethodName)) hown (mvT hZ (hw _ (List.mem_of_getElem? (i := 0) rfl))) (mvT hZ (hw _ (List.mem_of_getElem? (i := 1) rfl))) (mvT hZ (hw _ (List.mem_of_getElem? (i := 2) rfl))) (mvT hZ (hw _ (List.mem_of_getElem? (i := 3) rfl))) (by decide) (backOf (W := 0) (own_first l Z a0 hw [] p0 h0 n0 Z0) hZ (hw _ (List.mem_of_getElem? (i := 3) rfl)) (hw _ (List.mem_of_getElem? (i := 2) rfl)) (by decide) (by decide)) (g := (mkF m 1 #[.val (.long p0), .second, .val (.long p1), .second, .unset, .unset, .unset, .unset] [(.long p0)])) rfl (by rw [hml]; rfl) (argsL := [(.long p0)]) (rest := []) (lenOf own_pd167 rfl) rfl (by show 2 * 0 + _ ≤ _; exact Nat.le_of_eq rfl) (hb hby at_1) (fun _ _ => ⟨rfl, e0, (by decide : 0 + 2 ≤ _), (by decide : 0 + 2 ≤ _)⟩)
  dsimp only [Pt.U, Pt.locs, Pt.cells, Pt.slots] at X1 l1 y1 z1 st1 hQ1
  subst l1 y1 z1
  obtain ⟨xo_1, xb_1, xk_1, rfl, Nq1, Kq1, Fq1_0, Fq1_1, Fq1_2, Fq1_3, mq1_fo, mq1_fb⟩ := hQ1
  have N1 := Fr.app N0 Nq1
  have K1 : Keep h0 T1.heap [] := K0.trans Kq1 all0
  have Z1 : n0 ≤ T1.heap.size := Nat.le_trans Z0 Kq1.1
  refine own_go (fun t k => st1 t k) ?_
  show OwnG p.tables e below _ (T1.setTop (mkF m 4 #[.val (.long p0), .second, .val (.long p1), .second, .unset, .unset, .unset, .unset] [(.ref xo_1)]))
  refine own_go (fun t k => XS.astore X1.here hx rfl (hb hby at_4) rfl rfl (l' := #[.val (.long p0), .second, .val (.long p1), .second, .val (.ref xo_1), .unset, .unset, .unset]) rfl k) ?_
  show OwnG p.tables e below _ (T1.setTop (mkF m 6 #[.val (.long p0), .second, .val (.long p1), .second, .val (.ref xo_1), .unset, .unset, .unset] []))
  refine own_go (fun t k => XS.lloadN X1.here hx rfl (hb hby at_6) rfl  k) ?_
  show OwnG p.tables e below _ (T1.setTop (mkF m 7 #[.val (.long p0), .second, .val (.long p1), .second, .val (.ref xo_1), .unset, .unset, .unset] [(.long p1)]))
  have ltb : xb_1 < T1.heap.size := Fq1_3.lt
  obtain ⟨_, _, ⟨T2, L2, k2, n2⟩, -, X2, ⟨Lc2, hQ2, l2, y2, z2⟩, st2⟩ := Jvm.LawKit.callS X1 hx (y := (⟨"com/example/keyspace/keyspace/engine/PartitionKey", "first", "(J)Lcom/example/keyspace/keyspace/engine/PartitionKey;"⟩ : MethodName)) hown (mvT hZ (hw _ (List.mem_of_getElem? (i := 0) rfl))) (mvT hZ (hw _ (List.mem_of_getElem? (i := 1) rfl))) (mvT hZ (hw _ (List.mem_of_getElem? (i := 2) rfl))) (mvT hZ (hw _ (List.mem_of_getElem? (i := 3) rfl))) (by decide) (backOf (W := 0) (own_first l Z a0 hw [] p1 T1.heap n0 Z1) hZ (hw _ (List.mem_of_getElem? (i := 3) rfl)) (hw _ (List.mem_of_getElem? (i := 2) rfl)) (by decide) (by decide)) (g := (mkF m 7 #[.val (.long p0), .second, .val (.long p1), .second, .val (.ref xo_1), .unset, .unset, .unset] [(.long p1)])) rfl (by rw [hml]; rfl) (argsL := [(.long p1)]) (rest := []) (lenOf own_pd167 rfl) rfl (by show 2 * 0 + _ ≤ _; exact Nat.le_of_eq rfl) (hb hby at_7) (fun _ _ => ⟨rfl, rfl, (by decide : 2 + 2 ≤ _), (by decide : 2 + 2 ≤ _)⟩)
  dsimp only [Pt.U, Pt.locs, Pt.cells, Pt.slots] at X2 l2 y2 z2 st2 hQ2
  subst l2 y2 z2
  obtain ⟨xo_2, xb_2, xk_2, rfl, Nq2, Kq2, Fq2_0, Fq2_1, Fq2_2, Fq2_3, mq2_fo, mq2_fb⟩ := hQ2
  have N2 := Fr.app N1 Nq2
  have F3 : Exa Z T2.heap xo_1 "com/example/keyspace/keyspace/engine/PartitionKey" := Fq1_0.keep Kq2
  have F4 : Fld Z T2.heap xo_1 "com/example/keyspace/keyspace/engine/PartitionKey" "bytes" "[B" (.ref xb_1) := Fq1_1.keep Kq2 nin0
  have F5 : Fld Z T2.heap xo_1 "com/example/keyspace/keyspace/engine/PartitionKey" "token" "J" (.long p0) := Fq1_2.keep Kq2 nin0
  have F6 : Arv Z T2.heap xb_1 xk_1 .byte (0 : Int32) [] (.int (0 : Int32)) := Fq1_3.keep Kq2 nin0
  have K2 : Keep h0 T2.heap [] := K1.trans Kq2 all0
  have Z2 : n0 ≤ T2.heap.size := Nat.le_trans Z1 Kq2.1
  refine own_go (fun t k => st2 t k) ?_
  show OwnG p.tables e below _ (T2.setTop (mkF m 10 #[.val (.long p0), .second, .val (.long p1), .second, .val (.ref xo_1), .unset, .unset, .unset] [(.ref xo_2)]))
  have hne : xb_1 ≠ xb_2 := Nat.ne_of_lt (Nat.lt_of_lt_of_le ltb mq2_fb)
  refine own_go (fun t k => XS.astore X2.here hx rfl (hb hby at_10) rfl rfl (l' := #[.val (.long p0), .second, .val (.long p1), .second, .val (.ref xo_1), .val (.ref xo_2), .unset, .unset]) rfl k) ?_
  show OwnG p.tables e below _ (T2.setTop (mkF m 12 #[.val (.long p0), .second, .val (.long p1), .second, .val (.ref xo_1), .val (.ref xo_2), .unset, .unset] []))
  refine own_go (fun t k => XS.aload X2.here hx rfl (hb hby at_12) rfl rfl k) ?_
  show OwnG p.tables e below _ (T2.setTop (mkF m 14 #[.val (.long p0), .second, .val (.long p1), .second, .val (.ref xo_1), .val (.ref xo_2), .unset, .unset] [(.ref xo_1)]))
  obtain ⟨cq7, kq7, q7a, q7b, q7c⟩ := isOf hZ rfl F3
  obtain ⟨_, _, ⟨T7, L7, k7, n7⟩, -, X7, ⟨Lc7, hQ7, l7, y7, z7⟩, st7⟩ := X2.virtualBack hx (y := (⟨"com/example/keyspace/keyspace/engine/PartitionKey", "token", "()J"⟩ : MethodName)) (z := (⟨"com/example/keyspace/keyspace/engine/PartitionKey", "token", "()J"⟩ : MethodName)) hown (mvT hZ (hw _ (List.mem_of_getElem? (i := 17) rfl))) (mvT hZ (hw _ (List.mem_of_getElem? (i := 18) rfl))) (notFace_of_selects (args := #[]) (mvT hZ (hw _ (List.mem_of_getElem? (i := 20) rfl)))) (mvT hZ (hw _ (List.mem_of_getElem? (i := 20) rfl))) (mvT hZ (hw _ (List.mem_of_getElem? (i := 19) rfl))) (by decide) (backOf (W := 0) (own_token l Z a0 hw [] xo_1 p0 T2.heap n0 Z2 F5) hZ (hw _ (List.mem_of_getElem? (i := 21) rfl)) (hw _ (List.mem_of_getElem? (i := 2) rfl)) (by decide) (by decide)) q7a q7c (g := (mkF m 14 #[.val (.long p0), .second, .val (.long p1), .second, .val (.ref xo_1), .val (.ref xo_2), .unset, .unset] [(.ref xo_1)])) rfl (by rw [hml]; rfl) (Steps.refl _) (argsL := []) (rest := []) (lenOf own_pd168 rfl) rfl (by show 2 * 0 + _ ≤ _; exact Nat.le_of_eq rfl) (hb hby at_14) (fun _ _ => ⟨rfl, rfl, (by decide : 4 + 0 ≤ _), (by decide : 4 + 0 ≤ _)⟩)
  dsimp only [Pt.U, Pt.locs, Pt.cells, Pt.slots] at X7 l7 y7 z7 st7 hQ7
  subst l7 y7 z7
  obtain ⟨rfl, Nq7, eq7⟩ := hQ7
  have N7 := Fr.app N2 Nq7
  have e7 : T7.heap = T2.heap := eq7
  refine own_go (fun t k => st7.trans k) ?_
  show OwnG p.tables e below _ (T7.setTop (mkF m 17 #[.val (.long p0), .second, .val (.long p1), .second, .val (.ref xo_1), .val (.ref xo_2), .unset, .unset] [(.long p0)]))
  refine own_go (fun t k => XS.lloadN X7.here hx rfl (hb hby at_17) rfl  k) ?_
  show OwnG p.tables e below _ (T7.setTop (mkF m 18 #[.val (.long p0), .second, .val (.long p1), .second, .val (.ref xo_1), .val (.ref xo_2), .unset, .unset] [(.long p0), (.long p0)]))
  refine own_go (fun t k => XS.lcmp X7.here hx rfl (hb hby at_18) rfl k) ?_
  show OwnG p.tables e below _ (T7.setTop (mkF m 19 #[.val (.long p0), .second, .val (.long p1), .second, .val (.ref xo_1), .val (.ref xo_2), .unset, .unset] [(.int (lcmpW p0 p0))]))
  refine own_go (fun t k => XS.ifNo X7.here hx rfl (hb hby at_19) rfl ((if0 _ _).trans (teq ((lw_eq _ _).mpr (rfl : p0 = p0))).2) k) ?_
  show OwnG p.tables e below _ (T7.setTop (mkF m 22 #[.val (.long p0), .second, .val (.long p1), .second, .val (.ref xo_1), .val (.ref xo_2), .unset, .unset] []))
  refine own_go (fun t k => XS.aload X7.here hx rfl (hb hby at_22) rfl rfl k) ?_
  show OwnG p.tables e below _ (T7.setTop (mkF m 24 #[.val (.long p0), .second, .val (.long p1), .second, .val (.ref xo_1), .val (.ref xo_2), .unset, .unset] [(.ref xo_2)]))
  obtain ⟨cq8, kq8, q8a, q8b, q8c⟩ := isOf hZ e7 Fq2_0
  obtain ⟨_, _, ⟨T8, L8, k8, n8⟩, -, X8, ⟨Lc8, hQ8, l8, y8, z8⟩, st8⟩ := X7.virtualBack hx (y := (⟨"com/example/keyspace/keyspace/engine/PartitionKey", "token", "()J"⟩ : MethodName)) (z := (⟨"com/example/keyspace/keyspace/engine/PartitionKey", "token", "()J"⟩ : MethodName)) hown (mvT hZ (hw _ (List.mem_of_getElem? (i := 17) rfl))) (mvT hZ (hw _ (List.mem_of_getElem? (i := 18) rfl))) (notFace_of_selects (args := #[]) (mvT hZ (hw _ (List.mem_of_getElem? (i := 20) rfl)))) (mvT hZ (hw _ (List.mem_of_getElem? (i := 20) rfl))) (mvT hZ (hw _ (List.mem_of_getElem? (i := 19) rfl))) (by decide) (backOf (W := 0) (own_token l Z a0 hw [] xo_2 p1 T2.heap n0 Z2 Fq2_2) hZ (hw _ (List.mem_of_getElem? (i := 21) rfl)) (hw _ (List.mem_of_getElem? (i := 2) rfl)) (by decide) (by decide)) q8a q8c (g := (mkF m 24 #[.val (.long p0), .second, .val (.long p1), .second, .val (.ref xo_1), .val (.ref xo_2), .unset, .unset] [(.ref xo_2)])) rfl (by rw [hml]; rfl) (Steps.refl _) (argsL := []) (rest := []) (lenOf own_pd168 rfl) rfl (by show 2 * 0 + _ ≤ _; exact Nat.le_of_eq rfl) (hb hby at_24) (fun _ _ => ⟨rfl, e7, (by decide : 4 + 0 ≤ _), (by decide : 4 + 0 ≤ _)⟩)
  dsimp only [Pt.U, Pt.locs, Pt.cells, Pt.slots] at X8 l8 y8 z8 st8 hQ8
  subst l8 y8 z8
  obtain ⟨rfl, Nq8, eq8⟩ := hQ8
  have N8 := Fr.app N7 Nq8
  have e8 : T8.heap = T2.heap := eq8
  refine own_go (fun t k => st8.trans k) ?_
  show OwnG p.tables e below _ (T8.setTop (mkF m 27 #[.val (.long p0), .second, .val (.long p1), .second, .val (.ref xo_1), .val (.ref xo_2), .unset, .unset] [(.long p1)]))
  refine own_go (fun t k => XS.lloadN X8.here hx rfl (hb hby at_27) rfl  k) ?_
  show OwnG p.tables e below _ (T8.setTop (mkF m 28 #[.val (.long p0), .second, .val (.long p1), .second, .val (.ref xo_1), .val (.ref xo_2), .unset, .unset] [(.long p1), (.long p1)]))
  refine own_go (fun t k => XS.lcmp X8.here hx rfl (hb hby at_28) rfl k) ?_
  show OwnG p.tables e below _ (T8.setTop (mkF m 29 #[.val (.long p0), .second, .val (.long p1), .second, .val (.ref xo_1), .val (.ref xo_2), .unset, .unset] [(.int (lcmpW p1 p1))]))
  refine own_go (fun t k => XS.ifNo X8.here hx rfl (hb hby at_29) rfl ((if0 _ _).trans (teq ((lw_eq _ _).mpr (rfl : p1 = p1))).2) k) ?_
  show OwnG p.tables e below _ (T8.setTop (mkF m 32 #[.val (.long p0), .second, .val (.long p1), .second, .val (.ref xo_1), .val (.ref xo_2), .unset, .unset] []))
  refine own_go (fun t k => XS.iconst X8.here hx rfl (hb hby at_32) k) ?_
  show OwnG p.tables e below _ (T8.setTop (mkF m 33 #[.val (.long p0), .second, .val (.long p1), .second, .val (.ref xo_1), .val (.ref xo_2), .unset, .unset] [(.int (1 : Int32))]))
  refine own_go (fun t k => XS.goto X8.here hx rfl (pc0 := 33) (pc' := 37) rfl (hb hby at_33) (by decide) (by decide) k) ?_
  show OwnG p.tables e below _ (T8.setTop (mkF m 37 #[.val (.long p0), .second, .val (.long p1), .second, .val (.ref xo_1), .val (.ref xo_2), .unset, .unset] [(.int (1 : Int32))]))
  refine own_go (fun t k => XS.istore X8.here hx rfl (hb hby at_37) rfl (l' := #[.val (.long p0), .second, .val (.long p1), .second, .val (.ref xo_1), .val (.ref xo_2), .val (.int (1 : Int32)), .unset]) rfl k) ?_
  show OwnG p.tables e below _ (T8.setTop (mkF m 39 #[.val (.long p0), .second, .val (.long p1), .second, .val (.ref xo_1), .val (.ref xo_2), .val (.int (1 : Int32)), .unset] []))
  refine own_go (fun t k => XS.iload X8.here hx rfl (hb hby at_39) rfl  k) ?_
  show OwnG p.tables e below _ (T8.setTop (mkF m 41 #[.val (.long p0), .second, .val (.long p1), .second, .val (.ref xo_1), .val (.ref xo_2), .val (.int (1 : Int32)), .unset] [(.int (1 : Int32))]))
  refine own_go (fun t k => XS.ifNo X8.here hx rfl (hb hby at_41) rfl ((if0 _ _).trans (feq (by decide : ¬ ((1 : Int32) = (0 : Int32)))).1) k) ?_
  show OwnG p.tables e below _ (T8.setTop (mkF m 44 #[.val (.long p0), .second, .val (.long p1), .second, .val (.ref xo_1), .val (.ref xo_2), .val (.int (1 : Int32)), .unset] []))
  refine own_go (fun t k => XS.aload X8.here hx rfl (hb hby at_44) rfl rfl k) ?_
  show OwnG p.tables e below _ (T8.setTop (mkF m 46 #[.val (.long p0), .second, .val (.long p1), .second, .val (.ref xo_1), .val (.ref xo_2), .val (.int (1 : Int32)), .unset] [(.ref xo_1)]))
  obtain ⟨cq9, kq9, q9a, q9b, q9c⟩ := isOf hZ e8 F3
  obtain ⟨_, _, ⟨T9, L9, k9, n9⟩, -, X9, ⟨Lc9, hQ9, l9, y9, z9⟩, st9⟩ := X8.virtualBack hx (y := (⟨"com/example/keyspace/keyspace/engine/PartitionKey", "bytes", "()[B"⟩ : MethodName)) (z := (⟨"com/example/keyspace/keyspace/engine/PartitionKey", "bytes", "()[B"⟩ : MethodName)) hown (mvT hZ (hw _ (List.mem_of_getElem? (i := 22) rfl))) (mvT hZ (hw _ (List.mem_of_getElem? (i := 23) rfl))) (notFace_of_selects (args := #[]) (mvT hZ (hw _ (List.mem_of_getElem? (i := 25) rfl)))) (mvT hZ (hw _ (List.mem_of_getElem? (i := 25) rfl))) (mvT hZ (hw _ (List.mem_of_getElem? (i := 24) rfl))) (by decide) (backOf (W := 0) (own_bytes l Z a0 hw [] xo_1 xb_1 T2.heap n0 Z2 F4) hZ (hw _ (List.mem_of_getElem? (i := 26) rfl)) (hw _ (List.mem_of_getElem? (i := 2) rfl)) (by decide) (by decide)) q9a q9c (g := (mkF m 46 #[.val (.long p0), .second, .val (.long p1), .second, .val (.ref xo_1), .val (.ref xo_2), .val (.int (1 : Int32)), .unset] [(.ref xo_1)])) rfl (by rw [hml]; rfl) (Steps.refl _) (argsL := []) (rest := []) (lenOf own_pd169 rfl) rfl (by show 2 * 0 + _ ≤ _; exact Nat.le_of_eq rfl) (hb hby at_46) (fun _ _ => ⟨rfl, e8, (by decide : 4 + 0 ≤ _), (by decide : 4 + 0 ≤ _)⟩)
  dsimp only [Pt.U, Pt.locs, Pt.cells, Pt.slots] at X9 l9 y9 z9 st9 hQ9
  subst l9 y9 z9
  obtain ⟨rfl, Nq9, eq9⟩ := hQ9
  have N9 := Fr.app N8 Nq9
  have e9 : T9.heap = T2.heap := eq9
  refine own_go (fun t k => st9.trans k) ?_
  show OwnG p.tables e below _ (T9.setTop (mkF m 49 #[.val (.long p0), .second, .val (.long p1), .second, .val (.ref xo_1), .val (.ref xo_2), .val (.int (1 : Int32)), .unset] [(.ref xb_1)]))
  have vv10 := F6
  obtain ⟨cl10, Ar10, qk10, Sz10, Nn10, Hs10, Gs10⟩ := vv10
  have st10 : ∀ t, Steps p.tables e below (T9.setTop (mkF m 50 #[.val (.long p0), .second, .val (.long p1), .second, .val (.ref xo_1), .val (.ref xo_2), .val (.int (1 : Int32)), .unset] [(.int (0 : Int32))])) t → Steps p.tables e below (T9.setTop (mkF m 49 #[.val (.long p0), .second, .val (.long p1), .second, .val (.ref xo_1), .val (.ref xo_2), .val (.int (1 : Int32)), .unset] [(.ref xb_1)])) t := fun t k => by
    refine X9.arraylength hx (by rw [e9]; exact Ar10.1) (State.isArrayOf_alike hZ.alike Ar10.2.1) (g := (mkF m 49 #[.val (.long p0), .second, .val (.long p1), .second, .val (.ref xo_1), .val (.ref xo_2), .val (.int (1 : Int32)), .unset] [(.ref xb_1)])) rfl rfl (hb hby at_49) _ ?_
    rw [len_of Sz10 Nn10]
    exact k
  refine own_go (fun t k => st10 t k) ?_
  show OwnG p.tables e below _ (T9.setTop (mkF m 50 #[.val (.long p0), .second, .val (.long p1), .second, .val (.ref xo_1), .val (.ref xo_2), .val (.int (1 : Int32)), .unset] [(.int (0 : Int32))]))
  refine own_go (fun t k => XS.ifNo X9.here hx rfl (hb hby at_50) rfl ((if0 _ _).trans (teq (by decide : (0 : Int32) = (0 : Int32))).2) k) ?_
  show OwnG p.tables e below _ (T9.setTop (mkF m 53 #[.val (.long p0), .second, .val (.long p1), .second, .val (.ref xo_1), .val (.ref xo_2), .val (.int (1 : Int32)), .unset] []))
  refine own_go (fun t k => XS.aload X9.here hx rfl (hb hby at_53) rfl rfl k) ?_
  show OwnG p.tables e below _ (T9.setTop (mkF m 55 #[.val (.long p0), .second, .val (.long p1), .second, .val (.ref xo_1), .val (.ref xo_2), .val (.int (1 : Int32)), .unset] [(.ref xo_2)]))
  obtain ⟨cq11, kq11, q11a, q11b, q11c⟩ := isOf hZ e9 Fq2_0
  obtain ⟨_, _, ⟨T11, L11, k11, n11⟩, -, X11, ⟨Lc11, hQ11, l11, y11, z11⟩, st11⟩ := X9.virtualBack hx (y := (⟨"com/example/keyspace/keyspace/engine/PartitionKey", "bytes", "()[B"⟩ : MethodName)) (z := (⟨"com/example/keyspace/keyspace/engine/PartitionKey", "bytes", "()[B"⟩ : MethodName)) hown (mvT hZ (hw _ (List.mem_of_getElem? (i := 22) rfl))) (mvT hZ (hw _ (List.mem_of_getElem? (i := 23) rfl))) (notFace_of_selects (args := #[]) (mvT hZ (hw _ (List.mem_of_getElem? (i := 25) rfl)))) (mvT hZ (hw _ (List.mem_of_getElem? (i := 25) rfl))) (mvT hZ (hw _ (List.mem_of_getElem? (i := 24) rfl))) (by decide) (backOf (W := 0) (own_bytes l Z a0 hw [] xo_2 xb_2 T2.heap n0 Z2 Fq2_1) hZ (hw _ (List.mem_of_getElem? (i := 26) rfl)) (hw _ (List.mem_of_getElem? (i := 2) rfl)) (by decide) (by decide)) q11a q11c (g := (mkF m 55 #[.val (.long p0), .second, .val (.long p1), .second, .val (.ref xo_1), .val (.ref xo_2), .val (.int (1 : Int32)), .unset] [(.ref xo_2)])) rfl (by rw [hml]; rfl) (Steps.refl _) (argsL := []) (rest := []) (lenOf own_pd169 rfl) rfl (by show 2 * 0 + _ ≤ _; exact Nat.le_of_eq rfl) (hb hby at_55) (fun _ _ => ⟨rfl, e9, (by decide : 4 + 0 ≤ _), (by decide : 4 + 0 ≤ _)⟩)
  dsimp only [Pt.U, Pt.locs, Pt.cells, Pt.slots] at X11 l11 y11 z11 st11 hQ11
  subst l11 y11 z11
  obtain ⟨rfl, Nq11, eq11⟩ := hQ11
  have N11 := Fr.app N9 Nq11
  have e11 : T11.heap = T2.heap := eq11
  refine own_go (fun t k => st11.trans k) ?_
  show OwnG p.tables e below _ (T11.setTop (mkF m 58 #[.val (.long p0), .second, .val (.long p1), .second, .val (.ref xo_1), .val (.ref xo_2), .val (.int (1 : Int32)), .unset] [(.ref xb_2)]))
  have vv12 := Fq2_3
  obtain ⟨cl12, Ar12, qk12, Sz12, Nn12, Hs12, Gs12⟩ := vv12
  have st12 : ∀ t, Steps p.tables e below (T11.setTop (mkF m 59 #[.val (.long p0), .second, .val (.long p1), .second, .val (.ref xo_1), .val (.ref xo_2), .val (.int (1 : Int32)), .unset] [(.int (0 : Int32))])) t → Steps p.tables e below (T11.setTop (mkF m 58 #[.val (.long p0), .second, .val (.long p1), .second, .val (.ref xo_1), .val (.ref xo_2), .val (.int (1 : Int32)), .unset] [(.ref xb_2)])) t := fun t k => by
    refine X11.arraylength hx (by rw [e11]; exact Ar12.1) (State.isArrayOf_alike hZ.alike Ar12.2.1) (g := (mkF m 58 #[.val (.long p0), .second, .val (.long p1), .second, .val (.ref xo_1), .val (.ref xo_2), .val (.int (1 : Int32)), .unset] [(.ref xb_2)])) rfl rfl (hb hby at_58) _ ?_
    rw [len_of Sz12 Nn12]
    exact k
  refine own_go (fun t k => st12 t k) ?_
  show OwnG p.tables e below _ (T11.setTop (mkF m 59 #[.val (.long p0), .second, .val (.long p1), .second, .val (.ref xo_1), .val (.ref xo_2), .val (.int (1 : Int32)), .unset] [(.int (0 : Int32))]))
  refine own_go (fun t k => XS.ifNo X11.here hx rfl (hb hby at_59) rfl ((if0 _ _).trans (teq (by decide : (0 : Int32) = (0 : Int32))).2) k) ?_
  show OwnG p.tables e below _ (T11.setTop (mkF m 62 #[.val (.long p0), .second, .val (.long p1), .second, .val (.ref xo_1), .val (.ref xo_2), .val (.int (1 : Int32)), .unset] []))
  refine own_go (fun t k => XS.iconst X11.here hx rfl (hb hby at_62) k) ?_
  show OwnG p.tables e below _ (T11.setTop (mkF m 63 #[.val (.long p0), .second, .val (.long p1), .second, .val (.ref xo_1), .val (.ref xo_2), .val (.int (1 : Int32)), .unset] [(.int (1 : Int32))]))
  refine own_go (fun t k => XS.goto X11.here hx rfl (pc0 := 63) (pc' := 67) rfl (hb hby at_63) (by decide) (by decide) k) ?_
  show OwnG p.tables e below _ (T11.setTop (mkF m 67 #[.val (.long p0), .second, .val (.long p1), .second, .val (.ref xo_1), .val (.ref xo_2), .val (.int (1 : Int32)), .unset] [(.int (1 : Int32))]))
  refine own_go (fun t k => XS.istore X11.here hx rfl (hb hby at_67) rfl (l' := #[.val (.long p0), .second, .val (.long p1), .second, .val (.ref xo_1), .val (.ref xo_2), .val (.int (1 : Int32)), .unset]) rfl k) ?_
  show OwnG p.tables e below _ (T11.setTop (mkF m 69 #[.val (.long p0), .second, .val (.long p1), .second, .val (.ref xo_1), .val (.ref xo_2), .val (.int (1 : Int32)), .unset] []))
  refine own_go (fun t k => XS.aload X11.here hx rfl (hb hby at_69) rfl rfl k) ?_
  show OwnG p.tables e below _ (T11.setTop (mkF m 71 #[.val (.long p0), .second, .val (.long p1), .second, .val (.ref xo_1), .val (.ref xo_2), .val (.int (1 : Int32)), .unset] [(.ref xo_1)]))
  refine own_go (fun t k => XS.aload X11.here hx rfl (hb hby at_71) rfl rfl k) ?_
  show OwnG p.tables e below _ (T11.setTop (mkF m 73 #[.val (.long p0), .second, .val (.long p1), .second, .val (.ref xo_1), .val (.ref xo_2), .val (.int (1 : Int32)), .unset] [(.ref xo_2), (.ref xo_1)]))
  obtain ⟨cq13, kq13, q13a, q13b, q13c⟩ := isOf hZ e11 F3
  obtain ⟨_, _, ⟨T13, L13, k13, n13⟩, -, X13, ⟨Lc13, hQ13, l13, y13, z13⟩, st13⟩ := X11.virtualBack hx (y := (⟨"com/example/keyspace/keyspace/engine/PartitionKey", "compareTo", "(Lcom/example/keyspace/keyspace/engine/PartitionKey;)I"⟩ : MethodName)) (z := (⟨"com/example/keyspace/keyspace/engine/PartitionKey", "compareTo", "(Lcom/example/keyspace/keyspace/engine/PartitionKey;)I"⟩ : MethodName)) hown (mvT hZ (hw _ (List.mem_of_getElem? (i := 27) rfl))) (mvT hZ (hw _ (List.mem_of_getElem? (i := 28) rfl))) (notFace_of_selects (args := #[]) (mvT hZ (hw _ (List.mem_of_getElem? (i := 30) rfl)))) (mvT hZ (hw _ (List.mem_of_getElem? (i := 30) rfl))) (mvT hZ (hw _ (List.mem_of_getElem? (i := 29) rfl))) (by decide) (backOf (W := 0) (own_ct l Z a0 hw [] xo_1 xo_2 xb_1 xb_2 xk_1 xk_2 p0 p1 T2.heap n0 Z2 F3 F4 F5 F6 Fq2_0 Fq2_1 Fq2_2 Fq2_3 hne) hZ (hw _ (List.mem_of_getElem? (i := 31) rfl)) (hw _ (List.mem_of_getElem? (i := 2) rfl)) (by decide) (by decide)) q13a q13c (g := (mkF m 73 #[.val (.long p0), .second, .val (.long p1), .second, .val (.ref xo_1), .val (.ref xo_2), .val (.int (1 : Int32)), .unset] [(.ref xo_2), (.ref xo_1)])) rfl (by rw [hml]; rfl) (Steps.refl _) (argsL := [(.ref xo_2)]) (rest := []) (lenOf own_pd170 rfl) rfl (by show 2 * 0 + _ ≤ _; exact Nat.le_of_eq rfl) (hb hby at_73) (fun _ _ => ⟨rfl, e11, (by decide : 4 + 0 ≤ _), (by decide : 4 + 0 ≤ _)⟩)
  dsimp only [Pt.U, Pt.locs, Pt.cells, Pt.slots] at X13 l13 y13 z13 st13 hQ13
  subst l13 y13 z13
  obtain ⟨rfl, Nq13, eq13⟩ := hQ13
  have N13 := Fr.app N11 Nq13
  have e13 : T13.heap = T2.heap := eq13
  refine own_go (fun t k => st13.trans k) ?_
  show OwnG p.tables e below _ (T13.setTop (mkF m 76 #[.val (.long p0), .second, .val (.long p1), .second, .val (.ref xo_1), .val (.ref xo_2), .val (.int (1 : Int32)), .unset] [(.int (own_cmp p0 p1))]))
  refine own_go (fun t k => XS.istore X13.here hx rfl (hb hby at_76) rfl (l' := #[.val (.long p0), .second, .val (.long p1), .second, .val (.ref xo_1), .val (.ref xo_2), .val (.int (1 : Int32)), .val (.int (own_cmp p0 p1))]) rfl k) ?_
  show OwnG p.tables e below _ (T13.setTop (mkF m 78 #[.val (.long p0), .second, .val (.long p1), .second, .val (.ref xo_1), .val (.ref xo_2), .val (.int (1 : Int32)), .val (.int (own_cmp p0 p1))] []))
  refine own_go (fun t k => XS.iload X13.here hx rfl (hb hby at_78) rfl  k) ?_
  show OwnG p.tables e below _ (T13.setTop (mkF m 80 #[.val (.long p0), .second, .val (.long p1), .second, .val (.ref xo_1), .val (.ref xo_2), .val (.int (1 : Int32)), .val (.int (own_cmp p0 p1))] [(.int (1 : Int32))]))
  refine own_go (fun t k => XS.ifNo X13.here hx rfl (hb hby at_80) rfl ((if0 _ _).trans (feq (by decide : ¬ ((1 : Int32) = (0 : Int32)))).1) k) ?_
  show OwnG p.tables e below _ (T13.setTop (mkF m 83 #[.val (.long p0), .second, .val (.long p1), .second, .val (.ref xo_1), .val (.ref xo_2), .val (.int (1 : Int32)), .val (.int (own_cmp p0 p1))] []))
  refine own_go (fun t k => XS.iload X13.here hx rfl (hb hby at_83) rfl  k) ?_
  show OwnG p.tables e below _ (T13.setTop (mkF m 85 #[.val (.long p0), .second, .val (.long p1), .second, .val (.ref xo_1), .val (.ref xo_2), .val (.int (1 : Int32)), .val (.int (own_cmp p0 p1))] [(.int (own_cmp p0 p1))]))
  obtain ⟨z14, hp14, hn14⟩ := own_pick ((own_cmp p0 p1) < (0 : Int32)) ((1 : Int32)) ((0 : Int32))
  refine own_go (nxt := T13.setTop (mkF m 93 #[.val (.long p0), .second, .val (.long p1), .second, .val (.ref xo_1), .val (.ref xo_2), .val (.int (1 : Int32)), .val (.int (own_cmp p0 p1))] [(.int z14)])) (fun t k => ?_) ?_
  · by_cases hq : (own_cmp p0 p1) < (0 : Int32)
    · rw [hp14 hq] at k
      refine XS.ifNo X13.here hx rfl (hb hby at_85) rfl ((if0 _ _).trans (tlt hq).2.1) ?_
      show Steps p.tables e below (T13.setTop (mkF m 88 #[.val (.long p0), .second, .val (.long p1), .second, .val (.ref xo_1), .val (.ref xo_2), .val (.int (1 : Int32)), .val (.int (own_cmp p0 p1))] [])) _
      refine XS.iconst X13.here hx rfl (hb hby at_88) ?_
      show Steps p.tables e below (T13.setTop (mkF m 89 #[.val (.long p0), .second, .val (.long p1), .second, .val (.ref xo_1), .val (.ref xo_2), .val (.int (1 : Int32)), .val (.int (own_cmp p0 p1))] [(.int (1 : Int32))])) _
      refine XS.goto X13.here hx rfl (pc0 := 89) (pc' := 93) rfl (hb hby at_89) (by decide) (by decide) ?_
      show Steps p.tables e below (T13.setTop (mkF m 93 #[.val (.long p0), .second, .val (.long p1), .second, .val (.ref xo_1), .val (.ref xo_2), .val (.int (1 : Int32)), .val (.int (own_cmp p0 p1))] [(.int (1 : Int32))])) _
      exact k
    · rw [hn14 hq] at k
      refine XS.ifYes X13.here hx rfl (pc0 := 85) (pc' := 92) rfl (hb hby at_85) rfl ((if0 _ _).trans (flt hq).2.1) (by decide) (by decide) ?_
      show Steps p.tables e below (T13.setTop (mkF m 92 #[.val (.long p0), .second, .val (.long p1), .second, .val (.ref xo_1), .val (.ref xo_2), .val (.int (1 : Int32)), .val (.int (own_cmp p0 p1))] [])) _
      refine XS.iconst X13.here hx rfl (hb hby at_92) ?_
      show Steps p.tables e below (T13.setTop (mkF m 93 #[.val (.long p0), .second, .val (.long p1), .second, .val (.ref xo_1), .val (.ref xo_2), .val (.int (1 : Int32)), .val (.int (own_cmp p0 p1))] [(.int (0 : Int32))])) _
      exact k
  show OwnG p.tables e below _ (T13.setTop (mkF m 93 #[.val (.long p0), .second, .val (.long p1), .second, .val (.ref xo_1), .val (.ref xo_2), .val (.int (1 : Int32)), .val (.int (own_cmp p0 p1))] [(.int z14)]))
  refine own_go (fun t k => XS.lloadN X13.here hx rfl (hb hby at_93) rfl  k) ?_
  show OwnG p.tables e below _ (T13.setTop (mkF m 94 #[.val (.long p0), .second, .val (.long p1), .second, .val (.ref xo_1), .val (.ref xo_2), .val (.int (1 : Int32)), .val (.int (own_cmp p0 p1))] [(.long p0), (.int z14)]))
  refine own_go (fun t k => XS.lloadN X13.here hx rfl (hb hby at_94) rfl  k) ?_
  show OwnG p.tables e below _ (T13.setTop (mkF m 95 #[.val (.long p0), .second, .val (.long p1), .second, .val (.ref xo_1), .val (.ref xo_2), .val (.int (1 : Int32)), .val (.int (own_cmp p0 p1))] [(.long p1), (.long p0), (.int z14)]))
  refine own_go (fun t k => XS.lcmp X13.here hx rfl (hb hby at_95) rfl k) ?_
  show OwnG p.tables e below _ (T13.setTop (mkF m 96 #[.val (.long p0), .second, .val (.long p1), .second, .val (.ref xo_1), .val (.ref xo_2), .val (.int (1 : Int32)), .val (.int (own_cmp p0 p1))] [(.int (lcmpW p0 p1)), (.int z14)]))
  obtain ⟨z15, hp15, hn15⟩ := own_pick (p0 < p1) ((1 : Int32)) ((0 : Int32))
  refine own_go (nxt := T13.setTop (mkF m 104 #[.val (.long p0), .second, .val (.long p1), .second, .val (.ref xo_1), .val (.ref xo_2), .val (.int (1 : Int32)), .val (.int (own_cmp p0 p1))] [(.int z15), (.int z14)])) (fun t k => ?_) ?_
  · by_cases hq : p0 < p1
    · rw [hp15 hq] at k
      refine XS.ifNo X13.here hx rfl (hb hby at_96) rfl ((if0 _ _).trans (tlt ((lw_lt _ _).mpr hq)).2.1) ?_
      show Steps p.tables e below (T13.setTop (mkF m 99 #[.val (.long p0), .second, .val (.long p1), .second, .val (.ref xo_1), .val (.ref xo_2), .val (.int (1 : Int32)), .val (.int (own_cmp p0 p1))] [(.int z14)])) _
      refine XS.iconst X13.here hx rfl (hb hby at_99) ?_
      show Steps p.tables e below (T13.setTop (mkF m 100 #[.val (.long p0), .second, .val (.long p1), .second, .val (.ref xo_1), .val (.ref xo_2), .val (.int (1 : Int32)), .val (.int (own_cmp p0 p1))] [(.int (1 : Int32)), (.int z14)])) _
      refine XS.goto X13.here hx rfl (pc0 := 100) (pc' := 104) rfl (hb hby at_100) (by decide) (by decide) ?_
      show Steps p.tables e below (T13.setTop (mkF m 104 #[.val (.long p0), .second, .val (.long p1), .second, .val (.ref xo_1), .val (.ref xo_2), .val (.int (1 : Int32)), .val (.int (own_cmp p0 p1))] [(.int (1 : Int32)), (.int z14)])) _
      exact k
    · rw [hn15 hq] at k
      refine XS.ifYes X13.here hx rfl (pc0 := 96) (pc' := 103) rfl (hb hby at_96) rfl ((if0 _ _).trans (flt (mt (lw_lt _ _).mp hq)).2.1) (by decide) (by decide) ?_
      show Steps p.tables e below (T13.setTop (mkF m 103 #[.val (.long p0), .second, .val (.long p1), .second, .val (.ref xo_1), .val (.ref xo_2), .val (.int (1 : Int32)), .val (.int (own_cmp p0 p1))] [(.int z14)])) _
      refine XS.iconst X13.here hx rfl (hb hby at_103) ?_
      show Steps p.tables e below (T13.setTop (mkF m 104 #[.val (.long p0), .second, .val (.long p1), .second, .val (.ref xo_1), .val (.ref xo_2), .val (.int (1 : Int32)), .val (.int (own_cmp p0 p1))] [(.int (0 : Int32)), (.int z14)])) _
      exact k
  show OwnG p.tables e below _ (T13.setTop (mkF m 104 #[.val (.long p0), .second, .val (.long p1), .second, .val (.ref xo_1), .val (.ref xo_2), .val (.int (1 : Int32)), .val (.int (own_cmp p0 p1))] [(.int z15), (.int z14)]))
  refine own_go (fun t k => XS.icmpNo X13.here hx rfl (hb hby at_104) rfl (teq (own_same (own_cmp_lt p0 p1) hp14 hn14 hp15 hn15)).2 k) ?_
  show OwnG p.tables e below _ (T13.setTop (mkF m 107 #[.val (.long p0), .second, .val (.long p1), .second, .val (.ref xo_1), .val (.ref xo_2), .val (.int (1 : Int32)), .val (.int (own_cmp p0 p1))] []))
  refine own_go (fun t k => XS.iload X13.here hx rfl (hb hby at_107) rfl  k) ?_
  show OwnG p.tables e below _ (T13.setTop (mkF m 109 #[.val (.long p0), .second, .val (.long p1), .second, .val (.ref xo_1), .val (.ref xo_2), .val (.int (1 : Int32)), .val (.int (own_cmp p0 p1))] [(.int (own_cmp p0 p1))]))
  obtain ⟨z16, hp16, hn16⟩ := own_pick ((own_cmp p0 p1) = (0 : Int32)) ((1 : Int32)) ((0 : Int32))
  refine own_go (nxt := T13.setTop (mkF m 117 #[.val (.long p0), .second, .val (.long p1), .second, .val (.ref xo_1), .val (.ref xo_2), .val (.int (1 : Int32)), .val (.int (own_cmp p0 p1))] [(.int z16)])) (fun t k => ?_) ?_
  · by_cases hq : (own_cmp p0 p1) = (0 : Int32)
    · rw [hp16 hq] at k
      refine XS.ifNo X13.here hx rfl (hb hby at_109) rfl ((if0 _ _).trans (teq hq).2) ?_
      show Steps p.tables e below (T13.setTop (mkF m 112 #[.val (.long p0), .second, .val (.long p1), .second, .val (.ref xo_1), .val (.ref xo_2), .val (.int (1 : Int32)), .val (.int (own_cmp p0 p1))] [])) _
      refine XS.iconst X13.here hx rfl (hb hby at_112) ?_
      show Steps p.tables e below (T13.setTop (mkF m 113 #[.val (.long p0), .second, .val (.long p1), .second, .val (.ref xo_1), .val (.ref xo_2), .val (.int (1 : Int32)), .val (.int (own_cmp p0 p1))] [(.int (1 : Int32))])) _
      refine XS.goto X13.here hx rfl (pc0 := 113) (pc' := 117) rfl (hb hby at_113) (by decide) (by decide) ?_
      show Steps p.tables e below (T13.setTop (mkF m 117 #[.val (.long p0), .second, .val (.long p1), .second, .val (.ref xo_1), .val (.ref xo_2), .val (.int (1 : Int32)), .val (.int (own_cmp p0 p1))] [(.int (1 : Int32))])) _
      exact k
    · rw [hn16 hq] at k
      refine XS.ifYes X13.here hx rfl (pc0 := 109) (pc' := 116) rfl (hb hby at_109) rfl ((if0 _ _).trans (feq hq).2) (by decide) (by decide) ?_
      show Steps p.tables e below (T13.setTop (mkF m 116 #[.val (.long p0), .second, .val (.long p1), .second, .val (.ref xo_1), .val (.ref xo_2), .val (.int (1 : Int32)), .val (.int (own_cmp p0 p1))] [])) _
      refine XS.iconst X13.here hx rfl (hb hby at_116) ?_
      show Steps p.tables e below (T13.setTop (mkF m 117 #[.val (.long p0), .second, .val (.long p1), .second, .val (.ref xo_1), .val (.ref xo_2), .val (.int (1 : Int32)), .val (.int (own_cmp p0 p1))] [(.int (0 : Int32))])) _
      exact k
  show OwnG p.tables e below _ (T13.setTop (mkF m 117 #[.val (.long p0), .second, .val (.long p1), .second, .val (.ref xo_1), .val (.ref xo_2), .val (.int (1 : Int32)), .val (.int (own_cmp p0 p1))] [(.int z16)]))
  refine own_go (fun t k => XS.lloadN X13.here hx rfl (hb hby at_117) rfl  k) ?_
  show OwnG p.tables e below _ (T13.setTop (mkF m 118 #[.val (.long p0), .second, .val (.long p1), .second, .val (.ref xo_1), .val (.ref xo_2), .val (.int (1 : Int32)), .val (.int (own_cmp p0 p1))] [(.long p0), (.int z16)]))
  refine own_go (fun t k => XS.lloadN X13.here hx rfl (hb hby at_118) rfl  k) ?_
  show OwnG p.tables e below _ (T13.setTop (mkF m 119 #[.val (.long p0), .second, .val (.long p1), .second, .val (.ref xo_1), .val (.ref xo_2), .val (.int (1 : Int32)), .val (.int (own_cmp p0 p1))] [(.long p1), (.long p0), (.int z16)]))
  refine own_go (fun t k => XS.lcmp X13.here hx rfl (hb hby at_119) rfl k) ?_
  show OwnG p.tables e below _ (T13.setTop (mkF m 120 #[.val (.long p0), .second, .val (.long p1), .second, .val (.ref xo_1), .val (.ref xo_2), .val (.int (1 : Int32)), .val (.int (own_cmp p0 p1))] [(.int (lcmpW p0 p1)), (.int z16)]))
  obtain ⟨z17, hp17, hn17⟩ := own_pick (p0 = p1) ((1 : Int32)) ((0 : Int32))
  refine own_go (nxt := T13.setTop (mkF m 128 #[.val (.long p0), .second, .val (.long p1), .second, .val (.ref xo_1), .val (.ref xo_2), .val (.int (1 : Int32)), .val (.int (own_cmp p0 p1))] [(.int z17), (.int z16)])) (fun t k => ?_) ?_
  · by_cases hq : p0 = p1
    · rw [hp17 hq] at k
      refine XS.ifNo X13.here hx rfl (hb hby at_120) rfl ((if0 _ _).trans (teq ((lw_eq _ _).mpr hq)).2) ?_
      show Steps p.tables e below (T13.setTop (mkF m 123 #[.val (.long p0), .second, .val (.long p1), .second, .val (.ref xo_1), .val (.ref xo_2), .val (.int (1 : Int32)), .val (.int (own_cmp p0 p1))] [(.int z16)])) _
      refine XS.iconst X13.here hx rfl (hb hby at_123) ?_
      show Steps p.tables e below (T13.setTop (mkF m 124 #[.val (.long p0), .second, .val (.long p1), .second, .val (.ref xo_1), .val (.ref xo_2), .val (.int (1 : Int32)), .val (.int (own_cmp p0 p1))] [(.int (1 : Int32)), (.int z16)])) _
      refine XS.goto X13.here hx rfl (pc0 := 124) (pc' := 128) rfl (hb hby at_124) (by decide) (by decide) ?_
      show Steps p.tables e below (T13.setTop (mkF m 128 #[.val (.long p0), .second, .val (.long p1), .second, .val (.ref xo_1), .val (.ref xo_2), .val (.int (1 : Int32)), .val (.int (own_cmp p0 p1))] [(.int (1 : Int32)), (.int z16)])) _
      exact k
    · rw [hn17 hq] at k
      refine XS.ifYes X13.here hx rfl (pc0 := 120) (pc' := 127) rfl (hb hby at_120) rfl ((if0 _ _).trans (feq (mt (lw_eq _ _).mp hq)).2) (by decide) (by decide) ?_
      show Steps p.tables e below (T13.setTop (mkF m 127 #[.val (.long p0), .second, .val (.long p1), .second, .val (.ref xo_1), .val (.ref xo_2), .val (.int (1 : Int32)), .val (.int (own_cmp p0 p1))] [(.int z16)])) _
      refine XS.iconst X13.here hx rfl (hb hby at_127) ?_
      show Steps p.tables e below (T13.setTop (mkF m 128 #[.val (.long p0), .second, .val (.long p1), .second, .val (.ref xo_1), .val (.ref xo_2), .val (.int (1 : Int32)), .val (.int (own_cmp p0 p1))] [(.int (0 : Int32)), (.int z16)])) _
      exact k
  show OwnG p.tables e below _ (T13.setTop (mkF m 128 #[.val (.long p0), .second, .val (.long p1), .second, .val (.ref xo_1), .val (.ref xo_2), .val (.int (1 : Int32)), .val (.int (own_cmp p0 p1))] [(.int z17), (.int z16)]))
  refine own_go (fun t k => XS.icmpNo X13.here hx rfl (hb hby at_128) rfl (teq (own_same (own_cmp_eq p0 p1) hp16 hn16 hp17 hn17)).2 k) ?_
  show OwnG p.tables e below _ (T13.setTop (mkF m 131 #[.val (.long p0), .second, .val (.long p1), .second, .val (.ref xo_1), .val (.ref xo_2), .val (.int (1 : Int32)), .val (.int (own_cmp p0 p1))] []))
  refine own_go (fun t k => XS.iload X13.here hx rfl (hb hby at_131) rfl  k) ?_
  show OwnG p.tables e below _ (T13.setTop (mkF m 133 #[.val (.long p0), .second, .val (.long p1), .second, .val (.ref xo_1), .val (.ref xo_2), .val (.int (1 : Int32)), .val (.int (own_cmp p0 p1))] [(.int (own_cmp p0 p1))]))
  obtain ⟨z18, hp18, hn18⟩ := own_pick ((0 : Int32) < (own_cmp p0 p1)) ((1 : Int32)) ((0 : Int32))
  refine own_go (nxt := T13.setTop (mkF m 141 #[.val (.long p0), .second, .val (.long p1), .second, .val (.ref xo_1), .val (.ref xo_2), .val (.int (1 : Int32)), .val (.int (own_cmp p0 p1))] [(.int z18)])) (fun t k => ?_) ?_
  · by_cases hq : (0 : Int32) < (own_cmp p0 p1)
    · rw [hp18 hq] at k
      refine XS.ifNo X13.here hx rfl (hb hby at_133) rfl ((if0 _ _).trans (tlt hq).2.2.2) ?_
      show Steps p.tables e below (T13.setTop (mkF m 136 #[.val (.long p0), .second, .val (.long p1), .second, .val (.ref xo_1), .val (.ref xo_2), .val (.int (1 : Int32)), .val (.int (own_cmp p0 p1))] [])) _
      refine XS.iconst X13.here hx rfl (hb hby at_136) ?_
      show Steps p.tables e below (T13.setTop (mkF m 137 #[.val (.long p0), .second, .val (.long p1), .second, .val (.ref xo_1), .val (.ref xo_2), .val (.int (1 : Int32)), .val (.int (own_cmp p0 p1))] [(.int (1 : Int32))])) _
      refine XS.goto X13.here hx rfl (pc0 := 137) (pc' := 141) rfl (hb hby at_137) (by decide) (by decide) ?_
      show Steps p.tables e below (T13.setTop (mkF m 141 #[.val (.long p0), .second, .val (.long p1), .second, .val (.ref xo_1), .val (.ref xo_2), .val (.int (1 : Int32)), .val (.int (own_cmp p0 p1))] [(.int (1 : Int32))])) _
      exact k
    · rw [hn18 hq] at k
      refine XS.ifYes X13.here hx rfl (pc0 := 133) (pc' := 140) rfl (hb hby at_133) rfl ((if0 _ _).trans (flt hq).2.2.2) (by decide) (by decide) ?_
      show Steps p.tables e below (T13.setTop (mkF m 140 #[.val (.long p0), .second, .val (.long p1), .second, .val (.ref xo_1), .val (.ref xo_2), .val (.int (1 : Int32)), .val (.int (own_cmp p0 p1))] [])) _
      refine XS.iconst X13.here hx rfl (hb hby at_140) ?_
      show Steps p.tables e below (T13.setTop (mkF m 141 #[.val (.long p0), .second, .val (.long p1), .second, .val (.ref xo_1), .val (.ref xo_2), .val (.int (1 : Int32)), .val (.int (own_cmp p0 p1))] [(.int (0 : Int32))])) _
      exact k
  show OwnG p.tables e below _ (T13.setTop (mkF m 141 #[.val (.long p0), .second, .val (.long p1), .second, .val (.ref xo_1), .val (.ref xo_2), .val (.int (1 : Int32)), .val (.int (own_cmp p0 p1))] [(.int z18)]))
  refine own_go (fun t k => XS.lloadN X13.here hx rfl (hb hby at_141) rfl  k) ?_
  show OwnG p.tables e below _ (T13.setTop (mkF m 142 #[.val (.long p0), .second, .val (.long p1), .second, .val (.ref xo_1), .val (.ref xo_2), .val (.int (1 : Int32)), .val (.int (own_cmp p0 p1))] [(.long p0), (.int z18)]))
  refine own_go (fun t k => XS.lloadN X13.here hx rfl (hb hby at_142) rfl  k) ?_
  show OwnG p.tables e below _ (T13.setTop (mkF m 143 #[.val (.long p0), .second, .val (.long p1), .second, .val (.ref xo_1), .val (.ref xo_2), .val (.int (1 : Int32)), .val (.int (own_cmp p0 p1))] [(.long p1), (.long p0), (.int z18)]))
  refine own_go (fun t k => XS.lcmp X13.here hx rfl (hb hby at_143) rfl k) ?_
  show OwnG p.tables e below _ (T13.setTop (mkF m 144 #[.val (.long p0), .second, .val (.long p1), .second, .val (.ref xo_1), .val (.ref xo_2), .val (.int (1 : Int32)), .val (.int (own_cmp p0 p1))] [(.int (lcmpW p0 p1)), (.int z18)]))
  obtain ⟨z19, hp19, hn19⟩ := own_pick (p1 < p0) ((1 : Int32)) ((0 : Int32))
  refine own_go (nxt := T13.setTop (mkF m 152 #[.val (.long p0), .second, .val (.long p1), .second, .val (.ref xo_1), .val (.ref xo_2), .val (.int (1 : Int32)), .val (.int (own_cmp p0 p1))] [(.int z19), (.int z18)])) (fun t k => ?_) ?_
  · by_cases hq : p1 < p0
    · rw [hp19 hq] at k
      refine XS.ifNo X13.here hx rfl (hb hby at_144) rfl ((if0 _ _).trans (tlt ((lw_gt _ _).mpr hq)).2.2.2) ?_
      show Steps p.tables e below (T13.setTop (mkF m 147 #[.val (.long p0), .second, .val (.long p1), .second, .val (.ref xo_1), .val (.ref xo_2), .val (.int (1 : Int32)), .val (.int (own_cmp p0 p1))] [(.int z18)])) _
      refine XS.iconst X13.here hx rfl (hb hby at_147) ?_
      show Steps p.tables e below (T13.setTop (mkF m 148 #[.val (.long p0), .second, .val (.long p1), .second, .val (.ref xo_1), .val (.ref xo_2), .val (.int (1 : Int32)), .val (.int (own_cmp p0 p1))] [(.int (1 : Int32)), (.int z18)])) _
      refine XS.goto X13.here hx rfl (pc0 := 148) (pc' := 152) rfl (hb hby at_148) (by decide) (by decide) ?_
      show Steps p.tables e below (T13.setTop (mkF m 152 #[.val (.long p0), .second, .val (.long p1), .second, .val (.ref xo_1), .val (.ref xo_2), .val (.int (1 : Int32)), .val (.int (own_cmp p0 p1))] [(.int (1 : Int32)), (.int z18)])) _
      exact k
    · rw [hn19 hq] at k
      refine XS.ifYes X13.here hx rfl (pc0 := 144) (pc' := 151) rfl (hb hby at_144) rfl ((if0 _ _).trans (flt (mt (lw_gt _ _).mp hq)).2.2.2) (by decide) (by decide) ?_
      show Steps p.tables e below (T13.setTop (mkF m 151 #[.val (.long p0), .second, .val (.long p1), .second, .val (.ref xo_1), .val (.ref xo_2), .val (.int (1 : Int32)), .val (.int (own_cmp p0 p1))] [(.int z18)])) _
      refine XS.iconst X13.here hx rfl (hb hby at_151) ?_
      show Steps p.tables e below (T13.setTop (mkF m 152 #[.val (.long p0), .second, .val (.long p1), .second, .val (.ref xo_1), .val (.ref xo_2), .val (.int (1 : Int32)), .val (.int (own_cmp p0 p1))] [(.int (0 : Int32)), (.int z18)])) _
      exact k
  show OwnG p.tables e below _ (T13.setTop (mkF m 152 #[.val (.long p0), .second, .val (.long p1), .second, .val (.ref xo_1), .val (.ref xo_2), .val (.int (1 : Int32)), .val (.int (own_cmp p0 p1))] [(.int z19), (.int z18)]))
  refine own_go (fun t k => XS.icmpNo X13.here hx rfl (hb hby at_152) rfl (teq (own_same (own_cmp_gt p0 p1) hp18 hn18 hp19 hn19)).2 k) ?_
  show OwnG p.tables e below _ (T13.setTop (mkF m 155 #[.val (.long p0), .second, .val (.long p1), .second, .val (.ref xo_1), .val (.ref xo_2), .val (.int (1 : Int32)), .val (.int (own_cmp p0 p1))] []))
  refine own_go (fun t k => XS.iconst X13.here hx rfl (hb hby at_155) k) ?_
  show OwnG p.tables e below _ (T13.setTop (mkF m 156 #[.val (.long p0), .second, .val (.long p1), .second, .val (.ref xo_1), .val (.ref xo_2), .val (.int (1 : Int32)), .val (.int (own_cmp p0 p1))] [(.int (1 : Int32))]))
  refine own_go (fun t k => XS.goto X13.here hx rfl (pc0 := 156) (pc' := 160) rfl (hb hby at_156) (by decide) (by decide) k) ?_
  show OwnG p.tables e below _ (T13.setTop (mkF m 160 #[.val (.long p0), .second, .val (.long p1), .second, .val (.ref xo_1), .val (.ref xo_2), .val (.int (1 : Int32)), .val (.int (own_cmp p0 p1))] [(.int (1 : Int32))]))
  refine own_go (fun t k => XS.istore X13.here hx rfl (hb hby at_160) rfl (l' := #[.val (.long p0), .second, .val (.long p1), .second, .val (.ref xo_1), .val (.ref xo_2), .val (.int (1 : Int32)), .val (.int (own_cmp p0 p1))]) rfl k) ?_
  show OwnG p.tables e below _ (T13.setTop (mkF m 162 #[.val (.long p0), .second, .val (.long p1), .second, .val (.ref xo_1), .val (.ref xo_2), .val (.int (1 : Int32)), .val (.int (own_cmp p0 p1))] []))
  refine own_go (fun t k => XS.iload X13.here hx rfl (hb hby at_162) rfl  k) ?_
  show OwnG p.tables e below _ (T13.setTop (mkF m 164 #[.val (.long p0), .second, .val (.long p1), .second, .val (.ref xo_1), .val (.ref xo_2), .val (.int (1 : Int32)), .val (.int (own_cmp p0 p1))] [(.int (1 : Int32))]))
  refine own_go (fun t k => XS.ifNo X13.here hx rfl (hb hby at_164) rfl ((if0 _ _).trans (feq (by decide : ¬ ((1 : Int32) = (0 : Int32)))).1) k) ?_
  show OwnG p.tables e below _ (T13.setTop (mkF m 167 #[.val (.long p0), .second, .val (.long p1), .second, .val (.ref xo_1), .val (.ref xo_2), .val (.int (1 : Int32)), .val (.int (own_cmp p0 p1))] []))
  refine own_go (fun t k => XS.aload X13.here hx rfl (hb hby at_167) rfl rfl k) ?_
  show OwnG p.tables e below _ (T13.setTop (mkF m 169 #[.val (.long p0), .second, .val (.long p1), .second, .val (.ref xo_1), .val (.ref xo_2), .val (.int (1 : Int32)), .val (.int (own_cmp p0 p1))] [(.ref xo_1)]))
  refine own_go (fun t k => XS.aload X13.here hx rfl (hb hby at_169) rfl rfl k) ?_
  show OwnG p.tables e below _ (T13.setTop (mkF m 171 #[.val (.long p0), .second, .val (.long p1), .second, .val (.ref xo_1), .val (.ref xo_2), .val (.int (1 : Int32)), .val (.int (own_cmp p0 p1))] [(.ref xo_2), (.ref xo_1)]))
  obtain ⟨cq20, kq20, q20a, q20b, q20c⟩ := isOf hZ e13 F3
  obtain ⟨_, _, ⟨T20, L20, k20, n20⟩, -, X20, ⟨Lc20, hQ20, l20, y20, z20⟩, st20⟩ := X13.virtualBack hx (y := (⟨"com/example/keyspace/keyspace/engine/PartitionKey", "equals", "(Ljava/lang/Object;)Z"⟩ : MethodName)) (z := (⟨"com/example/keyspace/keyspace/engine/PartitionKey", "equals", "(Ljava/lang/Object;)Z"⟩ : MethodName)) hown (mvT hZ (hw _ (List.mem_of_getElem? (i := 36) rfl))) (mvT hZ (hw _ (List.mem_of_getElem? (i := 37) rfl))) (notFace_of_selects (args := #[]) (mvT hZ (hw _ (List.mem_of_getElem? (i := 39) rfl)))) (mvT hZ (hw _ (List.mem_of_getElem? (i := 39) rfl))) (mvT hZ (hw _ (List.mem_of_getElem? (i := 38) rfl))) (by decide) (backOf (W := 0) (own_pe l Z a0 hw [] xo_1 xo_2 xb_1 xb_2 xk_1 xk_2 p0 p1 T2.heap n0 Z2 F3 F4 F5 F6 Fq2_0 Fq2_1 Fq2_2 Fq2_3 hne) hZ (hw _ (List.mem_of_getElem? (i := 40) rfl)) (hw _ (List.mem_of_getElem? (i := 2) rfl)) (by decide) (by decide)) q20a q20c (g := (mkF m 171 #[.val (.long p0), .second, .val (.long p1), .second, .val (.ref xo_1), .val (.ref xo_2), .val (.int (1 : Int32)), .val (.int (own_cmp p0 p1))] [(.ref xo_2), (.ref xo_1)])) rfl (by rw [hml]; rfl) (Steps.refl _) (argsL := [(.ref xo_2)]) (rest := []) (lenOf own_pd171 rfl) rfl (by show 2 * 0 + _ ≤ _; exact Nat.le_of_eq rfl) (hb hby at_171) (fun _ _ => ⟨rfl, e13, (by decide : 4 + 0 ≤ _), (by decide : 4 + 0 ≤ _)⟩)
  dsimp only [Pt.U, Pt.locs, Pt.cells, Pt.slots] at X20 l20 y20 z20 st20 hQ20
  subst l20 y20 z20
  obtain ⟨rfl, Nq20, eq20⟩ := hQ20
  have N20 := Fr.app N13 Nq20
  have e20 : T20.heap = T2.heap := eq20
  refine own_go (fun t k => st20.trans k) ?_
  show OwnG p.tables e below _ (T20.setTop (mkF m 174 #[.val (.long p0), .second, .val (.long p1), .second, .val (.ref xo_1), .val (.ref xo_2), .val (.int (1 : Int32)), .val (.int (own_cmp p0 p1))] [(.int (1 : Int32))]))
  refine own_go (fun t k => XS.ifNo X20.here hx rfl (hb hby at_174) rfl ((if0 _ _).trans (feq (by decide : ¬ ((1 : Int32) = (0 : Int32)))).1) k) ?_
  show OwnG p.tables e below _ (T20.setTop (mkF m 177 #[.val (.long p0), .second, .val (.long p1), .second, .val (.ref xo_1), .val (.ref xo_2), .val (.int (1 : Int32)), .val (.int (own_cmp p0 p1))] []))
  refine own_go (fun t k => XS.aload X20.here hx rfl (hb hby at_177) rfl rfl k) ?_
  show OwnG p.tables e below _ (T20.setTop (mkF m 179 #[.val (.long p0), .second, .val (.long p1), .second, .val (.ref xo_1), .val (.ref xo_2), .val (.int (1 : Int32)), .val (.int (own_cmp p0 p1))] [(.ref xo_1)]))
  obtain ⟨cq21, kq21, q21a, q21b, q21c⟩ := isOf hZ e20 F3
  obtain ⟨_, _, ⟨T21, L21, k21, n21⟩, -, X21, ⟨Lc21, hQ21, l21, y21, z21⟩, st21⟩ := X20.virtualBack hx (y := (⟨"com/example/keyspace/keyspace/engine/PartitionKey", "hashCode", "()I"⟩ : MethodName)) (z := (⟨"com/example/keyspace/keyspace/engine/PartitionKey", "hashCode", "()I"⟩ : MethodName)) hown (mvT hZ (hw _ (List.mem_of_getElem? (i := 50) rfl))) (mvT hZ (hw _ (List.mem_of_getElem? (i := 51) rfl))) (notFace_of_selects (args := #[]) (mvT hZ (hw _ (List.mem_of_getElem? (i := 53) rfl)))) (mvT hZ (hw _ (List.mem_of_getElem? (i := 53) rfl))) (mvT hZ (hw _ (List.mem_of_getElem? (i := 52) rfl))) (by decide) (backOf (W := 0) (own_ph l Z a0 hw [] xo_1 xb_1 xk_1 T2.heap n0 Z2 F4 F6) hZ (hw _ (List.mem_of_getElem? (i := 54) rfl)) (hw _ (List.mem_of_getElem? (i := 2) rfl)) (by decide) (by decide)) q21a q21c (g := (mkF m 179 #[.val (.long p0), .second, .val (.long p1), .second, .val (.ref xo_1), .val (.ref xo_2), .val (.int (1 : Int32)), .val (.int (own_cmp p0 p1))] [(.ref xo_1)])) rfl (by rw [hml]; rfl) (Steps.refl _) (argsL := []) (rest := []) (lenOf own_pd172 rfl) rfl (by show 2 * 0 + _ ≤ _; exact Nat.le_of_eq rfl) (hb hby at_179) (fun _ _ => ⟨rfl, e20, (by decide : 4 + 0 ≤ _), (by decide : 4 + 0 ≤ _)⟩)
  dsimp only [Pt.U, Pt.locs, Pt.cells, Pt.slots] at X21 l21 y21 z21 st21 hQ21
  subst l21 y21 z21
  obtain ⟨rfl, Nq21, eq21⟩ := hQ21
  have N21 := Fr.app N20 Nq21
  have e21 : T21.heap = T2.heap := eq21
  refine own_go (fun t k => st21.trans k) ?_
  show OwnG p.tables e below _ (T21.setTop (mkF m 182 #[.val (.long p0), .second, .val (.long p1), .second, .val (.ref xo_1), .val (.ref xo_2), .val (.int (1 : Int32)), .val (.int (own_cmp p0 p1))] [(.int (1 : Int32))]))
  refine own_go (fun t k => XS.aload X21.here hx rfl (hb hby at_182) rfl rfl k) ?_
  show OwnG p.tables e below _ (T21.setTop (mkF m 184 #[.val (.long p0), .second, .val (.long p1), .second, .val (.ref xo_1), .val (.ref xo_2), .val (.int (1 : Int32)), .val (.int (own_cmp p0 p1))] [(.ref xo_2), (.int (1 : Int32))]))
  obtain ⟨cq22, kq22, q22a, q22b, q22c⟩ := isOf hZ e21 Fq2_0
  obtain ⟨_, _, ⟨T22, L22, k22, n22⟩, -, X22, ⟨Lc22, hQ22, l22, y22, z22⟩, st22⟩ := X21.virtualBack hx (y := (⟨"com/example/keyspace/keyspace/engine/PartitionKey", "hashCode", "()I"⟩ : MethodName)) (z := (⟨"com/example/keyspace/keyspace/engine/PartitionKey", "hashCode", "()I"⟩ : MethodName)) hown (mvT hZ (hw _ (List.mem_of_getElem? (i := 50) rfl))) (mvT hZ (hw _ (List.mem_of_getElem? (i := 51) rfl))) (notFace_of_selects (args := #[]) (mvT hZ (hw _ (List.mem_of_getElem? (i := 53) rfl)))) (mvT hZ (hw _ (List.mem_of_getElem? (i := 53) rfl))) (mvT hZ (hw _ (List.mem_of_getElem? (i := 52) rfl))) (by decide) (backOf (W := 1) (own_ph l Z a0 hw [] xo_2 xb_2 xk_2 T2.heap n0 Z2 Fq2_1 Fq2_3) hZ (hw _ (List.mem_of_getElem? (i := 54) rfl)) (hw _ (List.mem_of_getElem? (i := 2) rfl)) (by decide) (by decide)) q22a q22c (g := (mkF m 184 #[.val (.long p0), .second, .val (.long p1), .second, .val (.ref xo_1), .val (.ref xo_2), .val (.int (1 : Int32)), .val (.int (own_cmp p0 p1))] [(.ref xo_2), (.int (1 : Int32))])) rfl (by rw [hml]; rfl) (Steps.refl _) (argsL := []) (rest := [(.int (1 : Int32))]) (lenOf own_pd172 rfl) rfl (by show 2 * 0 + _ ≤ _; exact Nat.le_of_eq rfl) (hb hby at_184) (fun _ _ => ⟨rfl, e21, (by decide : 4 + 0 ≤ _), (by decide : 4 + 0 ≤ _)⟩)
  dsimp only [Pt.U, Pt.locs, Pt.cells, Pt.slots] at X22 l22 y22 z22 st22 hQ22
  subst l22 y22 z22
  obtain ⟨rfl, Nq22, eq22⟩ := hQ22
  have N22 := Fr.app N21 Nq22
  have e22 : T22.heap = T2.heap := eq22
  refine own_go (fun t k => st22.trans k) ?_
  show OwnG p.tables e below _ (T22.setTop (mkF m 187 #[.val (.long p0), .second, .val (.long p1), .second, .val (.ref xo_1), .val (.ref xo_2), .val (.int (1 : Int32)), .val (.int (own_cmp p0 p1))] [(.int (1 : Int32)), (.int (1 : Int32))]))
  refine own_go (fun t k => XS.icmpNo X22.here hx rfl (hb hby at_187) rfl (teq (by decide : (1 : Int32) = (1 : Int32))).2 k) ?_
  show OwnG p.tables e below _ (T22.setTop (mkF m 190 #[.val (.long p0), .second, .val (.long p1), .second, .val (.ref xo_1), .val (.ref xo_2), .val (.int (1 : Int32)), .val (.int (own_cmp p0 p1))] []))
  refine own_go (fun t k => XS.iconst X22.here hx rfl (hb hby at_190) k) ?_
  show OwnG p.tables e below _ (T22.setTop (mkF m 191 #[.val (.long p0), .second, .val (.long p1), .second, .val (.ref xo_1), .val (.ref xo_2), .val (.int (1 : Int32)), .val (.int (own_cmp p0 p1))] [(.int (1 : Int32))]))
  refine own_go (fun t k => XS.goto X22.here hx rfl (pc0 := 191) (pc' := 195) rfl (hb hby at_191) (by decide) (by decide) k) ?_
  show OwnG p.tables e below _ (T22.setTop (mkF m 195 #[.val (.long p0), .second, .val (.long p1), .second, .val (.ref xo_1), .val (.ref xo_2), .val (.int (1 : Int32)), .val (.int (own_cmp p0 p1))] [(.int (1 : Int32))]))
  refine own_go (fun t k => XS.istore X22.here hx rfl (hb hby at_195) rfl (l' := #[.val (.long p0), .second, .val (.long p1), .second, .val (.ref xo_1), .val (.ref xo_2), .val (.int (1 : Int32)), .val (.int (own_cmp p0 p1))]) rfl k) ?_
  show OwnG p.tables e below _ (T22.setTop (mkF m 197 #[.val (.long p0), .second, .val (.long p1), .second, .val (.ref xo_1), .val (.ref xo_2), .val (.int (1 : Int32)), .val (.int (own_cmp p0 p1))] []))
  refine own_go (fun t k => XS.iload X22.here hx rfl (hb hby at_197) rfl  k) ?_
  show OwnG p.tables e below _ (T22.setTop (mkF m 199 #[.val (.long p0), .second, .val (.long p1), .second, .val (.ref xo_1), .val (.ref xo_2), .val (.int (1 : Int32)), .val (.int (own_cmp p0 p1))] [(.int (1 : Int32))]))
  obtain ⟨fs, hr, hrun, hended, hW, hsame⟩ := X22.leave (v := some (.int (1 : Int32))) (fun h => by rw [Bd.returns] at h; cases h)
  refine ⟨_, _, retN X22 hx (t := .boolean) Bd.returns (by simp) (hb hby at_199) hr, hrun, hended, _, _, rfl, ?_, ⟨_, rfl⟩, hW, hsame.mono (by decide) (by decide)⟩
  show Q_own_law Z p0 p1 h0 n0 _ T22.heap _
  rw [e22]
  exact ⟨rfl, N22⟩
set_option maxRecDepth 65536 in
set_option maxHeartbeats 40000000 in
theorem comes_1 {Post : Tables → Env → Array Value → State → Outcome → State → Prop} (hpost : ∀ tb e args s v u, (limb_1_1.after args s (.returned v) u = true ∧ limb_1_2.after args s (.returned v) u = true ∧ True) → FrameEnd s (.returned v) u (Jvm.fieldLocs frame_1_writes args s ++ Jvm.arrayLocs frame_1_arrays args s ++ Jvm.staticLocs frame_1_statics s) 16 128 → Post tb e args s (.returned v) u) :
    ArmFor flags0 classFile x code maxLocals ret World_1 tables_1 room_1 Calls_1 rest_1 Pre_1 Post := by
  intro l hfl _ _ p e ha hc hk s m args below hf hA hF happ hP
  obtain ⟨hcalls, hrest, hpre⟩ := hP
  obtain ⟨-, -, -, hnamed, -, -, -, hat⟩ := (Spec.applies_iff hf).mp happ
  obtain ⟨hg, hn⟩ := and_e (Cond.before_iff.mp (show (Jvm.Cond.and given_1 narrow_1).before args s = true from hpre))
  obtain ⟨hcount, hg⟩ := and_e hg
  obtain ⟨ga0, hg⟩ := and_e hg
  have ga1 := hg
  obtain ⟨w0, w1, rfl⟩ : ∃ w0 w1 : Value, args = #[w0, w1] := by
    have hs : args.size = 2 := by simpa [Cond.value, given_1] using hcount
    obtain ⟨L⟩ := args
    match L, hs with
    | [w0, w1], _ => exact ⟨w0, w1, rfl⟩
  have hw := fun d (hd : d ∈ tables_1) => atoms_spec (ws := Jvm.Cond.code x code maxLocals ret :: tables_1) hat d (List.mem_cons_of_mem _ hd)
  have hfit : Fit s := fun {y c} hc i hi => by
    obtain ⟨ha, rfl⟩ := Array.getElem?_eq_some_iff.mp hc
    have q := List.all_eq_true.mp ((Array.all_eq_true_iff_forall_mem.mp hF) _ (Array.getElem_mem ha)) i (List.mem_range.mpr hi)
    simpa [Array.getElem?_eq_getElem hi] using q
  obtain ⟨i0, ei0⟩ := isL_v ga0
  obtain rfl : w0 = (.long i0) := Option.some.inj ei0
  obtain ⟨i1, ei1⟩ := isL_v ga1
  obtain rfl : w1 = (.long i1) := Option.some.inj ei1
  obtain ⟨n, o, h1, h2, h3, _, L, rfl, ⟨rfl, N⟩, hq⟩ := own_law l s _ hw tables_1 i0 i1  s.heap s.heap.size (Nat.le_refl _)  p e ha hc hk s m _ below hf ((Spec.applies_iff_loose hf).mp happ).1 ⟨rfl, State.Warmed39.refl s, rfl⟩ trivial
  refine ⟨n, _, h1, h2, h3, hpost _ _ _ _ _ _ ⟨Cond.after_iff.mpr rfl, Cond.after_iff.mpr (eq_i res_at (Term.int_eval (1)) rfl), trivial⟩ ⟨hq.1, hq.2.1, (hq.2.2.sift fun y hy => Or.inr (N y hy)).mono (by decide) (by decide)⟩⟩
theorem main_1_1 : Claimed_1_1 := comes_1 fun _ _ _ _ _ _ h hF => ⟨h.1, hF⟩
theorem main_1_2 : Claimed_1_2 := comes_1 fun _ _ _ _ _ _ h hF => ⟨h.2.1, hF⟩
end Jvm.Pilot.@@N@@
namespace Jvm.Pilot.@@N@@
open Jvm Jvm.ClassFile Sem Op Lib Jvm.Free Jvm.Stand Jvm.Pilot.@@N@@.Jvm.D
/-! MADE BY PROGRAM (witnessworld.py) out of the Statement's table words and the real class files: 17 classes; the members and pool entries that the words name. The judged class is class 1, her method 1. -/
namespace start1
open Jvm.ClassFile
def u (s : String) : CpInfo := .utf8 (stringToUtf16 s)
/-- a pool by its gaps: so many unusable entries, then the entry; so many at the end -/
def gap : Nat → List CpInfo → List CpInfo
  | 0, r => r
  | n + 1, r => .unusable :: gap n r
def poolList (es : List (Nat × CpInfo)) (last : Nat) : List CpInfo := es.foldr (fun e r => gap e.1 (e.2 :: r)) (gap last [])
def pool (es : List (Nat × CpInfo)) (last : Nat) : Array CpInfo := ⟨poolList es last⟩
def fileOf (pool : Array CpInfo) (this : Nat) (attrs : Array Attribute := #[]) (ms : Array MethodInfo := #[]) (fl : Nat := 33) (sup : Nat := 0) (ifs : Array Nat := #[]) (fds : Array FieldInfo := #[]) : ClassFile where
  minorVersion := 0
  majorVersion := 65
  constantPool := pool
  accessFlags := fl
  thisClass := this
  superClass := sup
  interfaces := ifs
  fields := fds
  methods := ms
  attributes := attrs
def plain (name : String) (sup : Option ClassId) : Class where
  name := name
  kind := .ordinary
  loader := none
  accessFlags := 33
  super := sup
  interfaces := #[]
  cf := none
  fields := #[]
  methods := #[]
  instanceTypes := #[]
  staticTypes := #[]
  resolved := #[]
  callSites := []
  init := .initialized
  statics := none
  mirror := none

def pool0 : Array CpInfo := pool [(5, u "<init>"), (0, u "()V"), (1, .class_ 10), (1, u "java/lang/Object")] 113

def k0c0 : Code := { maxStack := 0, maxLocals := 1, code := object_method_1_code, exceptionTable := #[], attributes := #[] }
def k0m0 : Method := { name := "<init>", desc := "()V", sig := { parameters := [], returnType := none }, accessFlags := 1, code := some k0c0 }
/-- java/lang/Object -/
def k0 : Class := { plain "java/lang/Object" none with
  accessFlags := 33
  interfaces := #[]
  cf := some (fileOf pool0 8 #[] #[{ accessFlags := 1, nameIndex := 5, descriptorIndex := 6, attributes := #[] }] 33 0 #[] #[])
  fields := #[]
  methods := #[k0m0]
  instanceTypes := #[]
  staticTypes := #[]
  resolved := Array.replicate 124 none
  statics := none }

def pool1 : Array CpInfo := pool [(2, .class_ 4), (1, u "java/lang/Object"), (0, u "<init>"), (0, u "()V"), (0, .methodref 8 9), (0, .class_ 10), (0, .nameAndType 11 12), (0, u "com/example/keyspace/keyspace/engine/PartitionKey"), (0, u "first"), (0, u "(J)Lcom/example/keyspace/keyspace/engine/PartitionKey;"), (0, .methodref 8 14), (0, .nameAndType 15 16), (0, u "token"), (0, u "()J"), (0, .methodref 8 18), (0, .nameAndType 19 20), (0, u "bytes"), (0, u "()[B"), (0, .methodref 8 22), (0, .nameAndType 23 24), (0, u "compareTo"), (0, u "(Lcom/example/keyspace/keyspace/engine/PartitionKey;)I"), (0, .methodref 8 26), (0, .nameAndType 27 28), (0, u "equals"), (0, u "(Ljava/lang/Object;)Z"), (0, .methodref 8 30), (0, .nameAndType 31 32), (0, u "hashCode"), (0, u "()I"), (0, .class_ 34), (0, u "com/example/keyspace/keyspace/engine/PartitionKeyFirstPinLaw"), (2, u "law"), (0, u "(JJ)Z")] 3

def k1m0 : Method := { name := "<init>", desc := "()V", sig := { parameters := [], returnType := none }, accessFlags := 1, code := none }
def k1c1 : Code := { maxStack := 5, maxLocals := 8, code := code, exceptionTable := #[], attributes := #[] }
def k1m1 : Method := { name := "law", desc := "(JJ)Z", sig := { parameters := [.long, .long], returnType := some .boolean }, accessFlags := 9, code := some k1c1 }
/-- com/example/keyspace/keyspace/engine/PartitionKeyFirstPinLaw -/
def k1 : Class := { plain "com/example/keyspace/keyspace/engine/PartitionKeyFirstPinLaw" (some 0) with
  accessFlags := 49
  interfaces := #[]
  cf := some (fileOf pool1 33 #[] #[{ accessFlags := 1, nameIndex := 5, descriptorIndex := 6, attributes := #[] }, { accessFlags := 9, nameIndex := 37, descriptorIndex := 38, attributes := #[] }] 49 2 #[] #[])
  fields := #[]
  methods := #[k1m0, k1m1]
  instanceTypes := #[]
  staticTypes := #[]
  resolved := Array.replicate 42 none
  statics := none }

def pool2 : Array CpInfo := pool [(1, .class_ 2), (0, u "java/lang/Comparable"), (0, .class_ 4), (0, u "java/lang/Object")] 7

/-- java/lang/Comparable -/
def k2 : Class := { plain "java/lang/Comparable" (some 0) with
  accessFlags := 1537
  interfaces := #[]
  cf := some (fileOf pool2 1 #[] #[] 1537 3 #[] #[])
  fields := #[]
  methods := #[]
  instanceTypes := #[]
  staticTypes := #[]
  resolved := Array.replicate 12 none
  statics := none }

def pool3 : Array CpInfo := pool [(1, .methodref 2 3), (0, .class_ 4), (0, .nameAndType 5 6), (0, u "java/lang/Object"), (0, u "<init>"), (0, u "()V"), (0, .fieldref 8 9), (0, .class_ 10), (0, .nameAndType 11 12), (0, u "com/example/keyspace/keyspace/engine/PartitionKey"), (0, u "bytes"), (0, u "[B"), (0, .fieldref 8 14), (0, .nameAndType 15 16), (0, u "token"), (0, u "J"), (5, u "()I"), (46, u "()[B"), (33, u "(Ljava/lang/Object;)Z"), (9, .methodref 8 114), (0, .nameAndType 5 115), (0, u "([BJ)V"), (0, .methodref 117 118), (0, .class_ 119), (0, .nameAndType 120 121), (0, u "java/lang/Long"), (0, u "compare"), (0, u "(JJ)I"), (0, .methodref 123 124), (0, .class_ 125), (0, .nameAndType 126 127), (0, u "java/util/Arrays"), (0, u "compareUnsigned"), (0, u "([B[B)I"), (0, .methodref 123 129), (0, .nameAndType 130 131), (0, u "equals"), (0, u "([B[B)Z"), (0, .methodref 123 133), (0, .nameAndType 134 135), (0, u "hashCode"), (0, u "([B)I"), (2, u "compareTo"), (0, u "(Lcom/example/keyspace/keyspace/engine/PartitionKey;)I"), (0, .class_ 141), (0, u "java/lang/Comparable"), (0, u "MAX_COMPONENT_LENGTH"), (0, u "I"), (10, u "first"), (0, u "(J)Lcom/example/keyspace/keyspace/engine/PartitionKey;"), (0, u "()J")] 22

def k3c0 : Code := { maxStack := 3, maxLocals := 4, code := prog_122_method_1_code, exceptionTable := #[], attributes := #[] }
def k3m0 : Method := { name := "<init>", desc := "([BJ)V", sig := { parameters := [(.array .byte), .long], returnType := none }, accessFlags := 2, code := some k3c0 }
def k3c1 : Code := { maxStack := 5, maxLocals := 2, code := prog_122_method_5_code, exceptionTable := #[], attributes := #[] }
def k3m1 : Method := { name := "first", desc := "(J)Lcom/example/keyspace/keyspace/engine/PartitionKey;", sig := { parameters := [.long], returnType := some (.object "com/example/keyspace/keyspace/engine/PartitionKey") }, accessFlags := 8, code := some k3c1 }
def k3c2 : Code := { maxStack := 1, maxLocals := 1, code := prog_122_method_6_code, exceptionTable := #[], attributes := #[] }
def k3m2 : Method := { name := "bytes", desc := "()[B", sig := { parameters := [], returnType := some (.array .byte) }, accessFlags := 0, code := some k3c2 }
def k3c3 : Code := { maxStack := 2, maxLocals := 1, code := prog_122_method_7_code, exceptionTable := #[], attributes := #[] }
def k3m3 : Method := { name := "token", desc := "()J", sig := { parameters := [], returnType := some .long }, accessFlags := 1, code := some k3c3 }
def k3c4 : Code := { maxStack := 4, maxLocals := 3, code := prog_122_method_8_code, exceptionTable := #[], attributes := #[] }
def k3m4 : Method := { name := "compareTo", desc := "(Lcom/example/keyspace/keyspace/engine/PartitionKey;)I", sig := { parameters := [(.object "com/example/keyspace/keyspace/engine/PartitionKey")], returnType := some .int }, accessFlags := 1, code := some k3c4 }
def k3c5 : Code := { maxStack := 2, maxLocals := 3, code := prog_122_method_9_code, exceptionTable := #[], attributes := #[] }
def k3m5 : Method := { name := "equals", desc := "(Ljava/lang/Object;)Z", sig := { parameters := [(.object "java/lang/Object")], returnType := some .boolean }, accessFlags := 1, code := some k3c5 }
def k3c6 : Code := { maxStack := 1, maxLocals := 1, code := prog_122_method_10_code, exceptionTable := #[], attributes := #[] }
def k3m6 : Method := { name := "hashCode", desc := "()I", sig := { parameters := [], returnType := some .int }, accessFlags := 1, code := some k3c6 }
/-- com/example/keyspace/keyspace/engine/PartitionKey -/
def k3 : Class := { plain "com/example/keyspace/keyspace/engine/PartitionKey" (some 0) with
  accessFlags := 33
  interfaces := #[2]
  cf := some (fileOf pool3 8 #[] #[{ accessFlags := 2, nameIndex := 5, descriptorIndex := 115, attributes := #[] }, { accessFlags := 8, nameIndex := 154, descriptorIndex := 155, attributes := #[] }, { accessFlags := 0, nameIndex := 11, descriptorIndex := 69, attributes := #[] }, { accessFlags := 1, nameIndex := 15, descriptorIndex := 156, attributes := #[] }, { accessFlags := 1, nameIndex := 138, descriptorIndex := 139, attributes := #[] }, { accessFlags := 1, nameIndex := 130, descriptorIndex := 103, attributes := #[] }, { accessFlags := 1, nameIndex := 134, descriptorIndex := 22, attributes := #[] }] 33 2 #[140] #[{ accessFlags := 25, nameIndex := 142, descriptorIndex := 143, attributes := #[] }, { accessFlags := 18, nameIndex := 11, descriptorIndex := 12, attributes := #[] }, { accessFlags := 18, nameIndex := 15, descriptorIndex := 16, attributes := #[] }])
  fields := #[{ name := "MAX_COMPONENT_LENGTH", type := .int, accessFlags := 25, slot := 0, constantValue := 0 }, { name := "bytes", type := (.array .byte), accessFlags := 18, slot := 0, constantValue := 0 }, { name := "token", type := .long, accessFlags := 18, slot := 1, constantValue := 0 }]
  methods := #[k3m0, k3m1, k3m2, k3m3, k3m4, k3m5, k3m6]
  instanceTypes := #[(.array .byte), .long]
  staticTypes := #[.int]
  resolved := Array.replicate 179 none
  statics := none }

def pool4 : Array CpInfo := pool [(1, .class_ 2), (0, u "java/io/Serializable"), (0, .class_ 4), (0, u "java/lang/Object")] 2

/-- java/io/Serializable -/
def k4 : Class := { plain "java/io/Serializable" (some 0) with
  accessFlags := 1537
  interfaces := #[]
  cf := some (fileOf pool4 1 #[] #[] 1537 3 #[] #[])
  fields := #[]
  methods := #[]
  instanceTypes := #[]
  staticTypes := #[]
  resolved := Array.replicate 7 none
  statics := none }

def pool5 : Array CpInfo := pool [(2, .class_ 4), (1, u "java/lang/Object"), (0, u "<init>"), (0, u "()V"), (1, .class_ 10), (1, u "java/lang/Number"), (2, .class_ 14), (0, u "java/io/Serializable"), (0, u "serialVersionUID"), (0, u "J")] 20

def k5m0 : Method := { name := "<init>", desc := "()V", sig := { parameters := [], returnType := none }, accessFlags := 1, code := none }
/-- java/lang/Number -/
def k5 : Class := { plain "java/lang/Number" (some 0) with
  accessFlags := 1057
  interfaces := #[4]
  cf := some (fileOf pool5 8 #[] #[{ accessFlags := 1, nameIndex := 5, descriptorIndex := 6, attributes := #[] }] 1057 2 #[13] #[{ accessFlags := 26, nameIndex := 15, descriptorIndex := 16, attributes := #[] }])
  fields := #[{ name := "serialVersionUID", type := .long, accessFlags := 26, slot := 0, constantValue := 0 }]
  methods := #[k5m0]
  instanceTypes := #[]
  staticTypes := #[.long]
  resolved := Array.replicate 37 none
  statics := none }

def pool6 : Array CpInfo := pool [(1, .class_ 2), (0, u "java/lang/constant/Constable"), (0, .class_ 4), (0, u "java/lang/Object")] 6

/-- java/lang/constant/Constable -/
def k6 : Class := { plain "java/lang/constant/Constable" (some 0) with
  accessFlags := 1537
  interfaces := #[]
  cf := some (fileOf pool6 1 #[] #[] 1537 3 #[] #[])
  fields := #[]
  methods := #[]
  instanceTypes := #[]
  staticTypes := #[]
  resolved := Array.replicate 11 none
  statics := none }

def pool7 : Array CpInfo := pool [(1, .class_ 2), (0, u "java/lang/constant/ConstantDesc"), (0, .class_ 4), (0, u "java/lang/Object")] 32

/-- java/lang/constant/ConstantDesc -/
def k7 : Class := { plain "java/lang/constant/ConstantDesc" (some 0) with
  accessFlags := 1537
  interfaces := #[]
  cf := some (fileOf pool7 1 #[] #[] 1537 3 #[] #[])
  fields := #[]
  methods := #[]
  instanceTypes := #[]
  staticTypes := #[]
  resolved := Array.replicate 37 none
  statics := none }

def pool8 : Array CpInfo := pool [(1, .class_ 2), (0, u "java/lang/Long"), (232, .class_ 237), (1, u "java/lang/Long$LongCache"), (33, .class_ 272), (0, u "java/lang/Number"), (2, u "value"), (0, u "J"), (27, u "compare"), (0, u "(JJ)I"), (55, u "TYPE"), (0, u "Ljava/lang/Class;"), (0, .class_ 364), (0, u "java/lang/Comparable"), (0, .class_ 366), (0, u "java/lang/constant/Constable"), (0, .class_ 368), (0, u "java/lang/constant/ConstantDesc"), (0, u "MIN_VALUE"), (1, u "MAX_VALUE"), (4, u "SIZE"), (0, u "I"), (1, u "BYTES"), (1, u "serialVersionUID")] 142

def k8c0 : Code := { maxStack := 4, maxLocals := 4, code := jdk_35_method_42_code, exceptionTable := #[], attributes := #[] }
def k8m0 : Method := { name := "compare", desc := "(JJ)I", sig := { parameters := [.long, .long], returnType := some .int }, accessFlags := 9, code := some k8c0 }
/-- java/lang/Long -/
def k8 : Class := { plain "java/lang/Long" (some 5) with
  accessFlags := 49
  interfaces := #[2, 6, 7]
  cf := some (fileOf pool8 1 #[.nestMembers #[235]] #[{ accessFlags := 9, nameIndex := 304, descriptorIndex := 305, attributes := #[] }] 49 271 #[363, 365, 367] #[{ accessFlags := 25, nameIndex := 369, descriptorIndex := 276, attributes := #[] }, { accessFlags := 25, nameIndex := 371, descriptorIndex := 276, attributes := #[] }, { accessFlags := 25, nameIndex := 361, descriptorIndex := 362, attributes := #[] }, { accessFlags := 18, nameIndex := 275, descriptorIndex := 276, attributes := #[] }, { accessFlags := 25, nameIndex := 376, descriptorIndex := 377, attributes := #[] }, { accessFlags := 25, nameIndex := 379, descriptorIndex := 377, attributes := #[] }, { accessFlags := 26, nameIndex := 381, descriptorIndex := 276, attributes := #[] }])
  fields := #[{ name := "MIN_VALUE", type := .long, accessFlags := 25, slot := 0, constantValue := 0 }, { name := "MAX_VALUE", type := .long, accessFlags := 25, slot := 1, constantValue := 0 }, { name := "TYPE", type := (.object "java/lang/Class"), accessFlags := 25, slot := 2, constantValue := 0 }, { name := "value", type := .long, accessFlags := 18, slot := 0, constantValue := 0 }, { name := "SIZE", type := .int, accessFlags := 25, slot := 3, constantValue := 0 }, { name := "BYTES", type := .int, accessFlags := 25, slot := 4, constantValue := 0 }, { name := "serialVersionUID", type := .long, accessFlags := 26, slot := 5, constantValue := 0 }]
  methods := #[k8m0]
  instanceTypes := #[.long]
  staticTypes := #[.long, .long, (.object "java/lang/Class"), .int, .int, .long]
  resolved := Array.replicate 524 none
  statics := none }

def pool9 : Array CpInfo := pool [(2, .class_ 4), (1, u "java/lang/Object"), (0, u "<init>"), (0, u "()V"), (7, .class_ 16), (1, u "java/util/Arrays"), (57, .class_ 76), (1, u "java/util/Arrays$NaturalOrder"), (36, .class_ 115), (1, u "java/util/Arrays$LegacyMergeSort"), (1, u "Z"), (128, .class_ 248), (1, u "jdk/internal/util/ArraysSupport"), (0, u "mismatch"), (22, .methodref 246 273), (0, .nameAndType 249 274), (0, u "([B[BI)I"), (23, u "equals"), (5, .methodref 305 306), (0, .class_ 307), (0, .nameAndType 308 309), (0, u "java/lang/Math"), (0, u "min"), (0, u "(II)I"), (65, .class_ 376), (0, u "java/util/Arrays$ArrayList"), (8, u "hashCode"), (16, u "([B)I"), (42, u "$assertionsDisabled"), (9, u "([B[B)Z"), (232, u "compareUnsigned"), (26, u "MIN_ARRAY_SORT_GRAN"), (0, u "I"), (2, u "INSERTIONSORT_THRESHOLD"), (216, u "([B[B)I"), (38, .class_ 976), (0, u "java/util/Arrays$ArrayItr")] 52

def k9m0 : Method := { name := "<init>", desc := "()V", sig := { parameters := [], returnType := none }, accessFlags := 2, code := none }
def k9c1 : Code := { maxStack := 3, maxLocals := 3, code := jdk_65_method_89_code, exceptionTable := #[], attributes := #[] }
def k9m1 : Method := { name := "equals", desc := "([B[B)Z", sig := { parameters := [(.array .byte), (.array .byte)], returnType := some .boolean }, accessFlags := 9, code := some k9c1 }
def k9c2 : Code := { maxStack := 5, maxLocals := 1, code := jdk_65_method_153_code, exceptionTable := #[], attributes := #[] }
def k9m2 : Method := { name := "hashCode", desc := "([B)I", sig := { parameters := [(.array .byte)], returnType := some .int }, accessFlags := 9, code := some k9c2 }
def k9c3 : Code := { maxStack := 4, maxLocals := 3, code := jdk_65_method_201_code, exceptionTable := #[], attributes := #[] }
def k9m3 : Method := { name := "compareUnsigned", desc := "([B[B)I", sig := { parameters := [(.array .byte), (.array .byte)], returnType := some .int }, accessFlags := 9, code := some k9c3 }
/-- java/util/Arrays -/
def k9 : Class := { plain "java/util/Arrays" (some 0) with
  accessFlags := 49
  interfaces := #[]
  cf := some (fileOf pool9 14 #[.nestMembers #[975, 375, 113, 74]] #[{ accessFlags := 2, nameIndex := 5, descriptorIndex := 6, attributes := #[] }, { accessFlags := 9, nameIndex := 298, descriptorIndex := 455, attributes := #[] }, { accessFlags := 9, nameIndex := 385, descriptorIndex := 402, attributes := #[] }, { accessFlags := 9, nameIndex := 688, descriptorIndex := 936, attributes := #[] }] 49 2 #[] #[{ accessFlags := 26, nameIndex := 715, descriptorIndex := 716, attributes := #[] }, { accessFlags := 26, nameIndex := 719, descriptorIndex := 716, attributes := #[] }, { accessFlags := 4120, nameIndex := 445, descriptorIndex := 117, attributes := #[] }])
  fields := #[{ name := "MIN_ARRAY_SORT_GRAN", type := .int, accessFlags := 26, slot := 0, constantValue := 0 }, { name := "INSERTIONSORT_THRESHOLD", type := .int, accessFlags := 26, slot := 1, constantValue := 0 }, { name := "$assertionsDisabled", type := .boolean, accessFlags := 4120, slot := 2, constantValue := 0 }]
  methods := #[k9m0, k9m1, k9m2, k9m3]
  instanceTypes := #[]
  staticTypes := #[.int, .int, .boolean]
  resolved := Array.replicate 1029 none
  statics := none }

def pool10 : Array CpInfo := pool [(9, u "<init>"), (6, .class_ 18), (1, u "java/lang/Object"), (0, u "()V"), (1, .class_ 23), (1, u "jdk/internal/util/ArraysSupport"), (0, u "LOG2_ARRAY_LONG_INDEX_SCALE"), (0, u "I"), (2, u "U"), (0, u "Ljdk/internal/misc/Unsafe;"), (8, u "BIG_ENDIAN"), (0, u "Z"), (8, u "LOG2_BYTE_BIT_SIZE"), (4, u "LOG2_ARRAY_INT_INDEX_SCALE"), (54, u "JLA"), (0, u "Ljdk/internal/access/JavaLangAccess;"), (11, u "LOG2_ARRAY_BOOLEAN_INDEX_SCALE"), (9, u "LOG2_ARRAY_BYTE_INDEX_SCALE"), (5, u "LOG2_ARRAY_CHAR_INDEX_SCALE"), (5, u "LOG2_ARRAY_SHORT_INDEX_SCALE"), (5, u "mismatch"), (12, u "LOG2_ARRAY_FLOAT_INDEX_SCALE"), (24, u "LOG2_ARRAY_DOUBLE_INDEX_SCALE"), (89, u "T_BOOLEAN"), (2, u "T_CHAR"), (1, u "T_FLOAT"), (1, u "T_DOUBLE"), (1, u "T_BYTE"), (1, u "T_SHORT"), (1, u "T_INT"), (1, u "T_LONG"), (1, u "SOFT_MAX_ARRAY_LENGTH"), (41, u "([B[BI)I")] 41

def k10m0 : Method := { name := "<init>", desc := "()V", sig := { parameters := [], returnType := none }, accessFlags := 2, code := none }
def k10c1 : Code := { maxStack := 8, maxLocals := 4, code := jdk_48_method_13_code, exceptionTable := #[], attributes := #[] }
def k10m1 : Method := { name := "mismatch", desc := "([B[BI)I", sig := { parameters := [(.array .byte), (.array .byte), .int], returnType := some .int }, accessFlags := 9, code := some k10c1 }
/-- jdk/internal/util/ArraysSupport -/
def k10 : Class := { plain "jdk/internal/util/ArraysSupport" (some 0) with
  accessFlags := 33
  interfaces := #[]
  cf := some (fileOf pool10 21 #[] #[{ accessFlags := 2, nameIndex := 9, descriptorIndex := 19, attributes := #[] }, { accessFlags := 9, nameIndex := 149, descriptorIndex := 336, attributes := #[] }] 33 16 #[] #[{ accessFlags := 24, nameIndex := 28, descriptorIndex := 29, attributes := #[] }, { accessFlags := 26, nameIndex := 38, descriptorIndex := 39, attributes := #[] }, { accessFlags := 25, nameIndex := 121, descriptorIndex := 25, attributes := #[] }, { accessFlags := 25, nameIndex := 131, descriptorIndex := 25, attributes := #[] }, { accessFlags := 25, nameIndex := 137, descriptorIndex := 25, attributes := #[] }, { accessFlags := 25, nameIndex := 143, descriptorIndex := 25, attributes := #[] }, { accessFlags := 25, nameIndex := 53, descriptorIndex := 25, attributes := #[] }, { accessFlags := 25, nameIndex := 24, descriptorIndex := 25, attributes := #[] }, { accessFlags := 25, nameIndex := 162, descriptorIndex := 25, attributes := #[] }, { accessFlags := 25, nameIndex := 187, descriptorIndex := 25, attributes := #[] }, { accessFlags := 26, nameIndex := 48, descriptorIndex := 25, attributes := #[] }, { accessFlags := 25, nameIndex := 277, descriptorIndex := 25, attributes := #[] }, { accessFlags := 25, nameIndex := 280, descriptorIndex := 25, attributes := #[] }, { accessFlags := 25, nameIndex := 282, descriptorIndex := 25, attributes := #[] }, { accessFlags := 25, nameIndex := 284, descriptorIndex := 25, attributes := #[] }, { accessFlags := 25, nameIndex := 286, descriptorIndex := 25, attributes := #[] }, { accessFlags := 25, nameIndex := 288, descriptorIndex := 25, attributes := #[] }, { accessFlags := 25, nameIndex := 290, descriptorIndex := 25, attributes := #[] }, { accessFlags := 25, nameIndex := 292, descriptorIndex := 25, attributes := #[] }, { accessFlags := 26, nameIndex := 108, descriptorIndex := 109, attributes := #[] }, { accessFlags := 25, nameIndex := 294, descriptorIndex := 25, attributes := #[] }])
  fields := #[{ name := "U", type := (.object "jdk/internal/misc/Unsafe"), accessFlags := 24, slot := 0, constantValue := 0 }, { name := "BIG_ENDIAN", type := .boolean, accessFlags := 26, slot := 1, constantValue := 0 }, { name := "LOG2_ARRAY_BOOLEAN_INDEX_SCALE", type := .int, accessFlags := 25, slot := 2, constantValue := 0 }, { name := "LOG2_ARRAY_BYTE_INDEX_SCALE", type := .int, accessFlags := 25, slot := 3, constantValue := 0 }, { name := "LOG2_ARRAY_CHAR_INDEX_SCALE", type := .int, accessFlags := 25, slot := 4, constantValue := 0 }, { name := "LOG2_ARRAY_SHORT_INDEX_SCALE", type := .int, accessFlags := 25, slot := 5, constantValue := 0 }, { name := "LOG2_ARRAY_INT_INDEX_SCALE", type := .int, accessFlags := 25, slot := 6, constantValue := 0 }, { name := "LOG2_ARRAY_LONG_INDEX_SCALE", type := .int, accessFlags := 25, slot := 7, constantValue := 0 }, { name := "LOG2_ARRAY_FLOAT_INDEX_SCALE", type := .int, accessFlags := 25, slot := 8, constantValue := 0 }, { name := "LOG2_ARRAY_DOUBLE_INDEX_SCALE", type := .int, accessFlags := 25, slot := 9, constantValue := 0 }, { name := "LOG2_BYTE_BIT_SIZE", type := .int, accessFlags := 26, slot := 10, constantValue := 0 }, { name := "T_BOOLEAN", type := .int, accessFlags := 25, slot := 11, constantValue := 0 }, { name := "T_CHAR", type := .int, accessFlags := 25, slot := 12, constantValue := 0 }, { name := "T_FLOAT", type := .int, accessFlags := 25, slot := 13, constantValue := 0 }, { name := "T_DOUBLE", type := .int, accessFlags := 25, slot := 14, constantValue := 0 }, { name := "T_BYTE", type := .int, accessFlags := 25, slot := 15, constantValue := 0 }, { name := "T_SHORT", type := .int, accessFlags := 25, slot := 16, constantValue := 0 }, { name := "T_INT", type := .int, accessFlags := 25, slot := 17, constantValue := 0 }, { name := "T_LONG", type := .int, accessFlags := 25, slot := 18, constantValue := 0 }, { name := "JLA", type := (.object "jdk/internal/access/JavaLangAccess"), accessFlags := 26, slot := 19, constantValue := 0 }, { name := "SOFT_MAX_ARRAY_LENGTH", type := .int, accessFlags := 25, slot := 20, constantValue := 0 }]
  methods := #[k10m0, k10m1]
  instanceTypes := #[]
  staticTypes := #[(.object "jdk/internal/misc/Unsafe"), .boolean, .int, .int, .int, .int, .int, .int, .int, .int, .int, .int, .int, .int, .int, .int, .int, .int, .int, (.object "jdk/internal/access/JavaLangAccess"), .int]
  resolved := Array.replicate 378 none
  statics := none }

def pool11 : Array CpInfo := pool [(1, .class_ 2), (0, u "java/lang/Math"), (1, .class_ 6), (1, u "java/lang/Object"), (0, u "<init>"), (0, u "()V"), (89, .class_ 100), (1, u "java/lang/Math$RandomNumberGeneratorHolder"), (71, u "negativeZeroFloatBits"), (0, u "J"), (2, u "negativeZeroDoubleBits"), (24, u "min"), (43, u "$assertionsDisabled"), (0, u "Z"), (88, u "(II)I"), (2, u "twoToTheDoubleScaleDown"), (0, u "D"), (4, u "twoToTheDoubleScaleUp"), (9, u "E"), (3, u "PI"), (2, u "TAU"), (2, u "DEGREES_TO_RADIANS"), (0, u "RADIANS_TO_DEGREES")] 94

def k11m0 : Method := { name := "<init>", desc := "()V", sig := { parameters := [], returnType := none }, accessFlags := 2, code := none }
def k11c1 : Code := { maxStack := 2, maxLocals := 2, code := jdk_29_method_69_code, exceptionTable := #[], attributes := #[] }
def k11m1 : Method := { name := "min", desc := "(II)I", sig := { parameters := [.int, .int], returnType := some .int }, accessFlags := 9, code := some k11c1 }
/-- java/lang/Math -/
def k11 : Class := { plain "java/lang/Math" (some 0) with
  accessFlags := 49
  interfaces := #[]
  cf := some (fileOf pool11 1 #[.nestMembers #[98]] #[{ accessFlags := 2, nameIndex := 7, descriptorIndex := 8, attributes := #[] }, { accessFlags := 9, nameIndex := 201, descriptorIndex := 335, attributes := #[] }] 49 4 #[] #[{ accessFlags := 25, nameIndex := 354, descriptorIndex := 339, attributes := #[] }, { accessFlags := 25, nameIndex := 358, descriptorIndex := 339, attributes := #[] }, { accessFlags := 25, nameIndex := 361, descriptorIndex := 339, attributes := #[] }, { accessFlags := 26, nameIndex := 364, descriptorIndex := 339, attributes := #[] }, { accessFlags := 26, nameIndex := 365, descriptorIndex := 339, attributes := #[] }, { accessFlags := 26, nameIndex := 172, descriptorIndex := 173, attributes := #[] }, { accessFlags := 26, nameIndex := 176, descriptorIndex := 173, attributes := #[] }, { accessFlags := 8, nameIndex := 344, descriptorIndex := 339, attributes := #[] }, { accessFlags := 8, nameIndex := 338, descriptorIndex := 339, attributes := #[] }, { accessFlags := 4120, nameIndex := 245, descriptorIndex := 246, attributes := #[] }])
  fields := #[{ name := "E", type := .double, accessFlags := 25, slot := 0, constantValue := 0 }, { name := "PI", type := .double, accessFlags := 25, slot := 1, constantValue := 0 }, { name := "TAU", type := .double, accessFlags := 25, slot := 2, constantValue := 0 }, { name := "DEGREES_TO_RADIANS", type := .double, accessFlags := 26, slot := 3, constantValue := 0 }, { name := "RADIANS_TO_DEGREES", type := .double, accessFlags := 26, slot := 4, constantValue := 0 }, { name := "negativeZeroFloatBits", type := .long, accessFlags := 26, slot := 5, constantValue := 0 }, { name := "negativeZeroDoubleBits", type := .long, accessFlags := 26, slot := 6, constantValue := 0 }, { name := "twoToTheDoubleScaleUp", type := .double, accessFlags := 8, slot := 7, constantValue := 0 }, { name := "twoToTheDoubleScaleDown", type := .double, accessFlags := 8, slot := 8, constantValue := 0 }, { name := "$assertionsDisabled", type := .boolean, accessFlags := 4120, slot := 9, constantValue := 0 }]
  methods := #[k11m0, k11m1]
  instanceTypes := #[]
  staticTypes := #[.double, .double, .double, .double, .double, .long, .long, .double, .double, .boolean]
  resolved := Array.replicate 460 none
  statics := none }

def pool12 : Array CpInfo := pool [(1, u "java/lang/Cloneable"), (0, .class_ 1), (0, u "java/lang/Object"), (0, .class_ 3)] 3

/-- java/lang/Cloneable -/
def k12 : Class := { plain "java/lang/Cloneable" (some 0) with
  accessFlags := 1537
  interfaces := #[]
  cf := some (fileOf pool12 2 #[] #[] 1537 4 #[] #[])
  fields := #[]
  methods := #[]
  instanceTypes := #[]
  staticTypes := #[]
  resolved := Array.replicate 8 none
  statics := none }

/-- the primitive byte -/
def k13 : Class := { plain "byte" none with kind := .primitive 'B', accessFlags := 0x411 }
/-- [B -/
def k14 : Class := { plain "[B" (some 0) with kind := .array 13 .byte, interfaces := #[12, 4], accessFlags := 1041 }

/-- the primitive int -/
def k15 : Class := { plain "int" none with kind := .primitive 'I', accessFlags := 0x411 }
/-- [I -/
def k16 : Class := { plain "[I" (some 0) with kind := .array 15 .int, interfaces := #[12, 4], accessFlags := 1041 }

def heap : Heap := #[]
def classes : Array Class := #[k0, k1, k2, k3, k4, k5, k6, k7, k8, k9, k10, k11, k12, k13, k14, k15, k16]
def interned : List (Array UInt16 × Addr) := []
def slotsUsed : Nat := 0
def theMethod : MethodId := ⟨1, 1⟩
def args0 : Array Value := #[.long 10, .long 3]
def aboutOver (below : List Frame) : State where
  vm := { classes := classes, interned := interned.toArray }
  heap := heap
  slotsUsed := slotsUsed
  threads := #[{ frames := .invoking theMethod args0 :: below }]
def below0 : List Frame := [.native { method := ⟨0, 0⟩, args := #[] }]
def about1 : State := aboutOver below0
def p0 : Program := .bare "" "" ""
def e0 : Env := launch0.env 0 0 0
theorem w_frames : about1.frames = Frame.invoking theMethod args0 :: below0 := rfl
set_option maxRecDepth 65536 in
theorem w_args : argsFit about1.vm theMethod args0 = true := by decide +kernel
set_option maxRecDepth 65536 in
theorem w_heap : heapFits about1 = true := by decide +kernel
set_option maxRecDepth 65536 in
theorem w_runnable : about1.curStatus? = some .runnable := by decide +kernel
set_option maxRecDepth 65536 in
theorem w_alone : about1.alone = true := by decide +kernel
set_option maxRecDepth 65536 in
theorem w_named : about1.methodNamed? x = some theMethod := by decide +kernel
set_option maxRecDepth 65536 in
theorem w_hears : about1.hears theMethod below0 = true := by decide +kernel
set_option maxRecDepth 65536 in
theorem w_ripe : about1.ripe theMethod args0 below0 = true := by decide +kernel
theorem w_running : about1.status = .running := rfl
set_option maxRecDepth 65536 in
theorem w_room : about1.hasRoom e0.platform room_1 = true :=
  launch0.hasRoom_least _ room_1 (by decide +kernel) (by decide +kernel) (by decide +kernel) (by decide +kernel) (by decide +kernel) (by decide +kernel)
theorem allAtoms_all (ts : List Jvm.Cond) (a : Array Jvm.Value) (st : Jvm.State) : (allAtoms ts).before a st = ts.all (fun c => c.before a st) := by
  induction ts with
  | nil => rfl
  | cons c t ih =>
    show (Jvm.Cond.and c (allAtoms t)).before a st = _
    rw [Jvm.Cond.before_and, ih, List.all_cons]
def words1 : List Jvm.Cond := Jvm.Cond.code x code maxLocals ret :: tables_1
/-- a 'code' word, met by the world's own term for the bytes: nothing is compared byte by byte -/
theorem code_word {y : MethodName} {bytes : ByteArray} {mx : Nat} {rt : Option FieldType} {a : Array Value} {s : State} {m : MethodId} {meth : Method} {c : Code} (h1 : s.methodNamed? y = some m) (h2 : s.vm.method? m = some meth) (h3 : meth.code = some c) (h4 : c.code = bytes)
    (h5 : (c.maxLocals == mx && c.exceptionTable.isEmpty && decide (c.maxStack ≤ mostOperands) && decide (meth.sig.returnType = rt) && !meth.locks && decide (parseMethodDescriptor y.desc = some meth.sig)) = true) : (Jvm.Cond.code y bytes mx rt).before a s = true := by
  simp only [Bool.and_eq_true, beq_iff_eq, Bool.not_eq_true', decide_eq_true_eq] at h5
  obtain ⟨⟨⟨⟨⟨g1, g2⟩, g3⟩, g4⟩, g5⟩, g6⟩ := h5
  simp [Cond.before, Cond.holds, Cond.value, h1, h2, h3, h4, g1, g2, g3, g4, g5, g6]
def isCode : Jvm.Cond → Bool
  | .code _ _ _ _ => true
  | _ => false
theorem all_split {L : List Jvm.Cond} {P : Jvm.Cond → Bool} (h1 : L.all (fun c => isCode c || P c) = true) (h2 : ∀ c ∈ L.filter isCode, P c = true) : L.all P = true := by
  refine List.all_eq_true.mpr fun c hc => ?_
  have h := List.all_eq_true.mp h1 c hc
  rcases Bool.eq_false_or_eq_true (isCode c) with hi | hi
  · exact h2 c (List.mem_filter.mpr ⟨hc, hi⟩)
  · simpa [hi] using h
set_option maxRecDepth 65536 in
theorem w_c0 : (Jvm.Cond.code x code maxLocals ret).before args0 about1 = true := code_word (m := ⟨1, 1⟩) (meth := k1m1) (c := k1c1) (by decide +kernel) rfl rfl rfl (by decide +kernel)
set_option maxRecDepth 65536 in
theorem w_c1 : (Jvm.Cond.code ({ cls := "com/example/keyspace/keyspace/engine/PartitionKey", name := "first", desc := "(J)Lcom/example/keyspace/keyspace/engine/PartitionKey;" } : Jvm.MethodName) prog_122_method_5_code (2 : Nat) (Option.some (Jvm.ClassFile.FieldType.object "com/example/keyspace/keyspace/engine/PartitionKey"))).before args0 about1 = true := code_word (m := ⟨3, 1⟩) (meth := k3m1) (c := k3c1) (by decide +kernel) rfl rfl rfl (by decide +kernel)
set_option maxRecDepth 65536 in
theorem w_c2 : (Jvm.Cond.code ({ cls := "com/example/keyspace/keyspace/engine/PartitionKey", name := "<init>", desc := "([BJ)V" } : Jvm.MethodName) prog_122_method_1_code (4 : Nat) (Option.none : Option Jvm.ClassFile.FieldType)).before args0 about1 = true := code_word (m := ⟨3, 0⟩) (meth := k3m0) (c := k3c0) (by decide +kernel) rfl rfl rfl (by decide +kernel)
set_option maxRecDepth 65536 in
theorem w_c3 : (Jvm.Cond.code ({ cls := "java/lang/Object", name := "<init>", desc := "()V" } : Jvm.MethodName) object_method_1_code (1 : Nat) (Option.none : Option Jvm.ClassFile.FieldType)).before args0 about1 = true := code_word (m := ⟨0, 0⟩) (meth := k0m0) (c := k0c0) (by decide +kernel) rfl rfl rfl (by decide +kernel)
set_option maxRecDepth 65536 in
theorem w_c4 : (Jvm.Cond.code ({ cls := "com/example/keyspace/keyspace/engine/PartitionKey", name := "token", desc := "()J" } : Jvm.MethodName) prog_122_method_7_code (1 : Nat) (Option.some Jvm.ClassFile.FieldType.long)).before args0 about1 = true := code_word (m := ⟨3, 3⟩) (meth := k3m3) (c := k3c3) (by decide +kernel) rfl rfl rfl (by decide +kernel)
set_option maxRecDepth 65536 in
theorem w_c5 : (Jvm.Cond.code ({ cls := "com/example/keyspace/keyspace/engine/PartitionKey", name := "bytes", desc := "()[B" } : Jvm.MethodName) prog_122_method_6_code (1 : Nat) (Option.some (Jvm.ClassFile.FieldType.array Jvm.ClassFile.FieldType.byte))).before args0 about1 = true := code_word (m := ⟨3, 2⟩) (meth := k3m2) (c := k3c2) (by decide +kernel) rfl rfl rfl (by decide +kernel)
set_option maxRecDepth 65536 in
theorem w_c6 : (Jvm.Cond.code ({ cls := "com/example/keyspace/keyspace/engine/PartitionKey", name := "compareTo", desc := "(Lcom/example/keyspace/keyspace/engine/PartitionKey;)I" } : Jvm.MethodName) prog_122_method_8_code (3 : Nat) (Option.some Jvm.ClassFile.FieldType.int)).before args0 about1 = true := code_word (m := ⟨3, 4⟩) (meth := k3m4) (c := k3c4) (by decide +kernel) rfl rfl rfl (by decide +kernel)
set_option maxRecDepth 65536 in
theorem w_c7 : (Jvm.Cond.code ({ cls := "java/lang/Long", name := "compare", desc := "(JJ)I" } : Jvm.MethodName) jdk_35_method_42_code (4 : Nat) (Option.some Jvm.ClassFile.FieldType.int)).before args0 about1 = true := code_word (m := ⟨8, 0⟩) (meth := k8m0) (c := k8c0) (by decide +kernel) rfl rfl rfl (by decide +kernel)
set_option maxRecDepth 65536 in
theorem w_c8 : (Jvm.Cond.code ({ cls := "com/example/keyspace/keyspace/engine/PartitionKey", name := "equals", desc := "(Ljava/lang/Object;)Z" } : Jvm.MethodName) prog_122_method_9_code (3 : Nat) (Option.some Jvm.ClassFile.FieldType.boolean)).before args0 about1 = true := code_word (m := ⟨3, 5⟩) (meth := k3m5) (c := k3c5) (by decide +kernel) rfl rfl rfl (by decide +kernel)
set_option maxRecDepth 65536 in
theorem w_c9 : (Jvm.Cond.code ({ cls := "java/util/Arrays", name := "equals", desc := "([B[B)Z" } : Jvm.MethodName) jdk_65_method_89_code (3 : Nat) (Option.some Jvm.ClassFile.FieldType.boolean)).before args0 about1 = true := code_word (m := ⟨9, 1⟩) (meth := k9m1) (c := k9c1) (by decide +kernel) rfl rfl rfl (by decide +kernel)
set_option maxRecDepth 65536 in
theorem w_c10 : (Jvm.Cond.code ({ cls := "jdk/internal/util/ArraysSupport", name := "mismatch", desc := "([B[BI)I" } : Jvm.MethodName) jdk_48_method_13_code (4 : Nat) (Option.some Jvm.ClassFile.FieldType.int)).before args0 about1 = true := code_word (m := ⟨10, 1⟩) (meth := k10m1) (c := k10c1) (by decide +kernel) rfl rfl rfl (by decide +kernel)
set_option maxRecDepth 65536 in
theorem w_c11 : (Jvm.Cond.code ({ cls := "com/example/keyspace/keyspace/engine/PartitionKey", name := "hashCode", desc := "()I" } : Jvm.MethodName) prog_122_method_10_code (1 : Nat) (Option.some Jvm.ClassFile.FieldType.int)).before args0 about1 = true := code_word (m := ⟨3, 6⟩) (meth := k3m6) (c := k3c6) (by decide +kernel) rfl rfl rfl (by decide +kernel)
set_option maxRecDepth 65536 in
theorem w_c12 : (Jvm.Cond.code ({ cls := "java/util/Arrays", name := "hashCode", desc := "([B)I" } : Jvm.MethodName) jdk_65_method_153_code (1 : Nat) (Option.some Jvm.ClassFile.FieldType.int)).before args0 about1 = true := code_word (m := ⟨9, 2⟩) (meth := k9m2) (c := k9c2) (by decide +kernel) rfl rfl rfl (by decide +kernel)
set_option maxRecDepth 65536 in
theorem w_c13 : (Jvm.Cond.code ({ cls := "java/util/Arrays", name := "compareUnsigned", desc := "([B[B)I" } : Jvm.MethodName) jdk_65_method_201_code (3 : Nat) (Option.some Jvm.ClassFile.FieldType.int)).before args0 about1 = true := code_word (m := ⟨9, 3⟩) (meth := k9m3) (c := k9c3) (by decide +kernel) rfl rfl rfl (by decide +kernel)
set_option maxRecDepth 65536 in
theorem w_c14 : (Jvm.Cond.code ({ cls := "java/lang/Math", name := "min", desc := "(II)I" } : Jvm.MethodName) jdk_29_method_69_code (2 : Nat) (Option.some Jvm.ClassFile.FieldType.int)).before args0 about1 = true := code_word (m := ⟨11, 1⟩) (meth := k11m1) (c := k11c1) (by decide +kernel) rfl rfl rfl (by decide +kernel)
def codes1 : List Jvm.Cond := [Jvm.Cond.code x code maxLocals ret, Jvm.Cond.code ({ cls := "com/example/keyspace/keyspace/engine/PartitionKey", name := "first", desc := "(J)Lcom/example/keyspace/keyspace/engine/PartitionKey;" } : Jvm.MethodName) prog_122_method_5_code (2 : Nat) (Option.some (Jvm.ClassFile.FieldType.object "com/example/keyspace/keyspace/engine/PartitionKey")), Jvm.Cond.code ({ cls := "com/example/keyspace/keyspace/engine/PartitionKey", name := "<init>", desc := "([BJ)V" } : Jvm.MethodName) prog_122_method_1_code (4 : Nat) (Option.none : Option Jvm.ClassFile.FieldType), Jvm.Cond.code ({ cls := "java/lang/Object", name := "<init>", desc := "()V" } : Jvm.MethodName) object_method_1_code (1 : Nat) (Option.none : Option Jvm.ClassFile.FieldType), Jvm.Cond.code ({ cls := "com/example/keyspace/keyspace/engine/PartitionKey", name := "token", desc := "()J" } : Jvm.MethodName) prog_122_method_7_code (1 : Nat) (Option.some Jvm.ClassFile.FieldType.long), Jvm.Cond.code ({ cls := "com/example/keyspace/keyspace/engine/PartitionKey", name := "bytes", desc := "()[B" } : Jvm.MethodName) prog_122_method_6_code (1 : Nat) (Option.some (Jvm.ClassFile.FieldType.array Jvm.ClassFile.FieldType.byte)), Jvm.Cond.code ({ cls := "com/example/keyspace/keyspace/engine/PartitionKey", name := "compareTo", desc := "(Lcom/example/keyspace/keyspace/engine/PartitionKey;)I" } : Jvm.MethodName) prog_122_method_8_code (3 : Nat) (Option.some Jvm.ClassFile.FieldType.int), Jvm.Cond.code ({ cls := "java/lang/Long", name := "compare", desc := "(JJ)I" } : Jvm.MethodName) jdk_35_method_42_code (4 : Nat) (Option.some Jvm.ClassFile.FieldType.int), Jvm.Cond.code ({ cls := "com/example/keyspace/keyspace/engine/PartitionKey", name := "equals", desc := "(Ljava/lang/Object;)Z" } : Jvm.MethodName) prog_122_method_9_code (3 : Nat) (Option.some Jvm.ClassFile.FieldType.boolean), Jvm.Cond.code ({ cls := "java/util/Arrays", name := "equals", desc := "([B[B)Z" } : Jvm.MethodName) jdk_65_method_89_code (3 : Nat) (Option.some Jvm.ClassFile.FieldType.boolean), Jvm.Cond.code ({ cls := "jdk/internal/util/ArraysSupport", name := "mismatch", desc := "([B[BI)I" } : Jvm.MethodName) jdk_48_method_13_code (4 : Nat) (Option.some Jvm.ClassFile.FieldType.int), Jvm.Cond.code ({ cls := "com/example/keyspace/keyspace/engine/PartitionKey", name := "hashCode", desc := "()I" } : Jvm.MethodName) prog_122_method_10_code (1 : Nat) (Option.some Jvm.ClassFile.FieldType.int), Jvm.Cond.code ({ cls := "java/util/Arrays", name := "hashCode", desc := "([B)I" } : Jvm.MethodName) jdk_65_method_153_code (1 : Nat) (Option.some Jvm.ClassFile.FieldType.int), Jvm.Cond.code ({ cls := "java/util/Arrays", name := "compareUnsigned", desc := "([B[B)I" } : Jvm.MethodName) jdk_65_method_201_code (3 : Nat) (Option.some Jvm.ClassFile.FieldType.int), Jvm.Cond.code ({ cls := "java/lang/Math", name := "min", desc := "(II)I" } : Jvm.MethodName) jdk_29_method_69_code (2 : Nat) (Option.some Jvm.ClassFile.FieldType.int)]
set_option maxRecDepth 65536 in
theorem codes_eq : words1.filter isCode = codes1 := rfl
theorem w_codes : ∀ c ∈ words1.filter isCode, c.before args0 about1 = true := by
  rw [codes_eq]
  intro c hc
  simp only [codes1, List.mem_cons, List.not_mem_nil, or_false] at hc
  rcases hc with rfl | rfl | rfl | rfl | rfl | rfl | rfl | rfl | rfl | rfl | rfl | rfl | rfl | rfl | rfl
  · exact w_c0
  · exact w_c1
  · exact w_c2
  · exact w_c3
  · exact w_c4
  · exact w_c5
  · exact w_c6
  · exact w_c7
  · exact w_c8
  · exact w_c9
  · exact w_c10
  · exact w_c11
  · exact w_c12
  · exact w_c13
  · exact w_c14
set_option maxRecDepth 65536 in
theorem w_t1 : (words1.take 24).all (fun c => isCode c || c.before args0 about1) = true := by decide +kernel
set_option maxRecDepth 65536 in
theorem w_t2 : ((words1.drop 24).take 24).all (fun c => isCode c || c.before args0 about1) = true := by decide +kernel
set_option maxRecDepth 65536 in
theorem w_t3 : ((words1.drop 24).drop 24).all (fun c => isCode c || c.before args0 about1) = true := by decide +kernel
theorem w_tables : (allAtoms (Jvm.Cond.code x code maxLocals ret :: tables_1)).before args0 about1 = true := by
  rw [allAtoms_all]
  show words1.all (fun c => c.before args0 about1) = true
  refine all_split ?_ w_codes
  rw [← List.take_append_drop 24 words1, List.all_append, w_t1, ← List.take_append_drop 24 (words1.drop 24), List.all_append, w_t2, w_t3]
  rfl
set_option maxRecDepth 65536 in
theorem w_case : (Jvm.Cond.and given_1 narrow_1).before args0 about1 = true := by decide +kernel
theorem w_applies : (headSpec (Jvm.Cond.code x code maxLocals ret :: tables_1) room_1).applies x e0.platform about1 = true :=
  (Spec.applies_iff w_frames).mpr ⟨w_running, w_runnable, w_alone, w_named, w_hears, w_ripe, w_room, w_tables⟩
theorem atStart : AtStart classFile x code maxLocals ret World_1 tables_1 room_1 Calls_1 rest_1 Pre_1 launch0 p0 e0 about1 theMethod args0 below0 :=
  ⟨lists_1, trivial, launch0.admits_env _ _ _, launch0.least_env, fairChoices_fair.cas, fairChoices_fair.clock, w_frames, w_args, w_heap, w_applies, trivial, trivial, w_case⟩
end start1
theorem witness_1 : WitnessClaimed_1 := ⟨start1.p0, start1.e0, start1.about1, start1.theMethod, start1.args0, start1.below0, start1.atStart⟩
end Jvm.Pilot.@@N@@
